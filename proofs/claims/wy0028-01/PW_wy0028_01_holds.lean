import PyProof.Rows.All
import Wide.All
import OpenK.AllK
import Wide.FinOn
import KE.KLam
import KE.KNest
import KE.KSortTup
import PyProof.GenQ
import PyProof.StationsW
import PySem.Challenge.RW_wy0028_01
set_option Elab.async false
set_option maxRecDepth 100000
set_option linter.unusedVariables false
open PySem PySem.W PySem.Calls PyProof.Rows
namespace Mine
abbrev Led:=List (Addr × Obj)
structure Fz where
  obs:Led
  tks:List (Nat × Dat)
structure Fz.le (F F':Fz):Prop where
  obs:∀ p ∈ F.obs,p ∈ F'.obs
  tks:∀ p ∈ F.tks,p ∈ F'.tks
theorem Fz.le.rfl {F:Fz}:F.le F:=⟨fun _ h=>h,fun _ h=>h⟩
theorem Fz.le.trans {F F' F'':Fz} (x:F.le F') (y:F'.le F''):F.le F'':=⟨fun p h=>y.obs p (x.obs p h),fun p h=>y.tks p (x.tks p h)⟩
mutual
inductive Rep (F:Fz):Value→Dat→Prop
  | none:Rep F Value.none Dat.none
  | bool (b:Bool):Rep F (Value.bool b) (Dat.bool b)
  | int {i:Int} {t:Nat}:(t,Dat.int i) ∈ F.tks→Rep F (Value.int i t) (Dat.int i)
  | str {x:Str} {t:Nat}:(t,Dat.str x) ∈ F.tks→Rep F (Value.str x t) (Dat.str x)
  | bytes {b:Array UInt8} {t:Nat}:Rep F (Value.bytes b t) (Dat.bytes b)
  | tuple {a:Nat} {vs:List Value} {n:Nat} {ds:List Dat}:(a,({ cls:=.type "tuple",data:=.seq vs.toArray n }:Obj)) ∈ F.obs→Reps F vs ds→Rep F (Value.ref a) (Dat.tuple ds)
  | list {a:Nat} {vs:List Value} {n:Nat} {ds:List Dat}:(a,listOf vs.toArray n) ∈ F.obs→Reps F vs ds→Rep F (Value.ref a) (Dat.list ds)
inductive Reps (F:Fz):List Value→List Dat→Prop
  | nil:Reps F [] []
  | cons {v:Value} {vs:List Value} {d:Dat} {ds:List Dat}:Rep F v d→Reps F vs ds→Reps F (v :: vs) (d :: ds)
end
mutual
theorem Rep.mono {F F':Fz} (hs:F.le F'):∀ {v:Value} {d:Dat},Rep F v d→Rep F' v d
  | _,_,.none=>.none
  | _,_,.bool b=>.bool b
  | _,_,.int h=>.int (hs.tks _ h)
  | _,_,.str h=>.str (hs.tks _ h)
  | _,_,.bytes=>.bytes
  | _,_,.tuple h r=>.tuple (hs.obs _ h) (Reps.mono hs r)
  | _,_,.list h r=>.list (hs.obs _ h) (Reps.mono hs r)
theorem Reps.mono {F F':Fz} (hs:F.le F'):∀ {vs:List Value} {ds:List Dat},Reps F vs ds→Reps F' vs ds
  | _,_,.nil=>.nil
  | _,_,.cons h r=>.cons (Rep.mono hs h) (Reps.mono hs r)
end
mutual
theorem Rep.dat {F:Fz}:∀ {v:Value} {d:Dat},Rep F v d→DatIn F.obs v d
  | _,_,.none=>.none
  | _,_,.bool b=>.bool b
  | _,_,.int h=>.int _ _
  | _,_,.str h=>.str _ _
  | _,_,.bytes=>.bytes _ _
  | _,_,.tuple h r=>.tuple h (Reps.dat r)
  | _,_,.list h r=>.list h (Reps.dat r)
theorem Reps.dat {F:Fz}:∀ {vs:List Value} {ds:List Dat},Reps F vs ds→DatAll F.obs vs ds
  | _,_,.nil=>.nil
  | _,_,.cons h r=>.cons (Rep.dat h) (Reps.dat r)
end
section
variable {F:Fz} {v:Value} {d:Dat} {vs ws:List Value} {ds es:List Dat}
theorem Reps.length (h:Reps F vs ds):vs.length=ds.length:=by
  induction vs generalizing ds with
  | nil=>cases h; rfl
  | cons v vs ih=>cases h with | cons _ r=>rw [List.length_cons,List.length_cons,ih r]
theorem Reps.append (h:Reps F vs ds) (k:Reps F ws es):Reps F (vs ++ ws) (ds ++ es):=by
  induction vs generalizing ds with
  | nil=>cases h; exact k
  | cons v vs ih=>cases h with | cons h r=>exact .cons h (ih r)
theorem Reps.one (h:Rep F v d):Reps F [v] [d]:=.cons h .nil
theorem Reps.get (h:Reps F vs ds) {k:Nat} {d:Dat} (hk:ds[k]?=some d):∃ v,vs[k]?=some v∧Rep F v d:=by
  induction vs generalizing ds k with
  | nil=>cases h; simp at hk
  | cons v vs ih =>
    cases h with
    | cons h r =>
      cases k with
      | zero=>simp at hk; subst hk; exact ⟨v,rfl,h⟩
      | succ k=>simp at hk; simpa using ih r hk
theorem Reps.get_none (h:Reps F vs ds) {k:Nat} (hk:ds[k]?=none):vs[k]?=none:=by
  rw [List.getElem?_eq_none_iff] at hk ⊢; rw [h.length]; exact hk
theorem Reps.take (h:Reps F vs ds) (k:Nat):Reps F (vs.take k) (ds.take k):=by
  induction vs generalizing ds k with
  | nil=>cases h; simp; exact .nil
  | cons v vs ih =>
    cases h with
    | cons h r=>cases k with
      | zero=>exact .nil
      | succ k=>exact .cons h (ih r k)
theorem Reps.drop (h:Reps F vs ds) (k:Nat):Reps F (vs.drop k) (ds.drop k):=by
  induction vs generalizing ds k with
  | nil=>cases h; simp; exact .nil
  | cons v vs ih =>
    cases h with
    | cons h r=>cases k with
      | zero=>exact .cons h r
      | succ k=>exact ih r k
theorem Reps.reverse (h:Reps F vs ds):Reps F vs.reverse ds.reverse:=by
  induction vs generalizing ds with
  | nil=>cases h; exact .nil
  | cons v vs ih =>
    cases h with
    | cons h r=>rw [List.reverse_cons,List.reverse_cons]; exact (ih r).append (.one h)
end
structure Wd where
  base:Heap
  mg:Str→Option Value
  mb:Str→Option Value
  tabs:List (Addr × Addr)
  qual:Addr→Str
  g:base.Ns mainGlobals mg
  b:base.Ns builtinsNs mb
  nolimit:base.NoLimit
  nodigits:∃ mc,base.Ns cStatics mc∧mc "sys.int_max_str_digits"=none
  booked:NoneBooked base
  builtins:∀ x:Str,x≠"__name__"→mb x=bootBuiltins x
  bmain:∃ bm ob,mg "__builtins__"=some (.ref bm)∧bm≠builtinsNs∧base.get? bm=some ob∧ob.cls=.type "module"∧ob.dict=some builtinsNs∧ob.data=.plain
  hidden:∀ q ∈ tabs,base.get? q.2=none
  heads:∀ q ∈ tabs,CodeHd base q.1 q.2
  low:∀ q ∈ tabs,q.2 < base.objs.size
def Wd.tab (W:Wd) (a:Nat):Prop:=∃ q ∈ W.tabs,q.2=a
def TabInv (W:Wd) (F:Fz) (h:Heap):Prop :=
  ∀ q ∈ W.tabs,∃ ps,h.get? q.2=some (tabObj ps)∧TriplesOk ps.toList ∧
    ∀ pos cv,codeAmong pos ps.toList=some cv→∃ c o vs t,cv=.ref c∧(c,o) ∈ F.obs∧o.data=.fields vs∧vs[1]?=some (.str (W.qual q.2) t)
structure TokOk (tks:List (Nat × Dat)) (n:Nat):Prop where
  pos:0 < n
  rng:∀ p ∈ tks,0 < p.1∧p.1 < n
  one:∀ p ∈ tks,∀ q ∈ tks,p.1=q.1→p.2=q.2
structure Base (W:Wd) (s:Shared) (F:Fz):Prop where
  base:W.base.StaysIn s.heap
  has:∀ p ∈ F.obs,s.heap.get? p.1=some p.2
  tok:TokOk F.tks s.toks
  tabs:TabInv W F s.heap
  off:∀ p ∈ F.obs,¬ W.tab p.1
  size:W.base.objs.size≤s.heap.objs.size
def GensKeep (a b:Array GenState):Prop:=(∀ (i:Nat) (x:GenState),a[i]?=some x→b[i]?=some x)∧(AllBare a→AllBare b)
theorem GensKeep.rfl {a:Array GenState}:GensKeep a a:=⟨fun _ _ h=>h,id⟩
theorem GensKeep.trans {a b c:Array GenState} (x:GensKeep a b) (y:GensKeep b c):GensKeep a c:=⟨fun i v h=>y.1 i v (x.1 i v h),fun h=>y.2 (x.2 h)⟩
structure Grow (W:Wd) (s s':Shared) (F F':Fz):Prop where
  keep:∀ a o,¬ W.tab a→s.heap.get? a=some o→s'.heap.get? a=some o
  has:∀ p ∈ F'.obs,s'.heap.get? p.1=some p.2
  sub:F.le F'
  new:∀ p ∈ F'.obs,p ∈ F.obs ∨ s.heap.objs.size≤p.1
  tok:TokOk F'.tks s'.toks
  toks:s.toks≤s'.toks
  size:s.heap.objs.size≤s'.heap.objs.size
  os:s'.os=s.os
  gens:GensKeep s.gens s'.gens
  tabs:TabInv W F' s'.heap
variable {W:Wd}
theorem Wd.tab_lt {a:Nat} (h:W.tab a):a < W.base.objs.size:=by
  obtain ⟨q,hq,rfl⟩:=h; exact W.low q hq
theorem Wd.not_tab {a:Nat} {o:Obj} (h:W.base.get? a=some o):¬ W.tab a:=by
  rintro ⟨q,hq,rfl⟩
  rw [W.hidden q hq] at h; cases h
theorem not_tab_of_le {a:Nat} (h:W.base.objs.size≤a):¬ W.tab a:=fun t=>Nat.lt_irrefl _ (Nat.lt_of_lt_of_le (Wd.tab_lt t) h)
theorem TabInv.mono {h:Heap} {F F':Fz} (x:TabInv W F h) (hF:F.le F'):TabInv W F' h:=fun q hq=>by
  obtain ⟨ps,h1,h2,h3⟩:=x q hq
  exact ⟨ps,h1,h2,fun pos cv e=>let ⟨c,o,vs,t,e1,e2,r⟩:=h3 pos cv e; ⟨c,o,vs,t,e1,hF.obs _ e2,r⟩⟩
theorem TabInv.keeps {h h':Heap} {F:Fz} (x:TabInv W F h) (hk:∀ a o,W.tab a→h.get? a=some o→h'.get? a=some o):TabInv W F h':=fun q hq=>by
  obtain ⟨ps,h1,h2,h3⟩:=x q hq
  exact ⟨ps,hk _ _ ⟨q,hq,rfl⟩ h1,h2,h3⟩
theorem Base.not_tab_of_size {s:Shared} {F:Fz} (b:Base W s F) {a:Nat} (h:s.heap.objs.size≤a):¬ W.tab a:=not_tab_of_le (Nat.le_trans b.size h)
theorem Base.grow {s s':Shared} {F F':Fz} (b:Base W s F) (g:Grow W s s' F F'):Base W s' F' where
  base:=fun a o e=>g.keep a o (Wd.not_tab e) (b.base a o e)
  has:=g.has
  tok:=g.tok
  tabs:=g.tabs
  off:=fun p hp=>by
    rcases g.new p hp with h | h
    · exact b.off p h
    · exact b.not_tab_of_size h
  size:=Nat.le_trans b.size g.size
theorem Grow.trans {s₁ s₂ s₃:Shared} {F₁ F₂ F₃:Fz} (x:Grow W s₁ s₂ F₁ F₂) (y:Grow W s₂ s₃ F₂ F₃):Grow W s₁ s₃ F₁ F₃ where
  keep:=fun a o ht e=>y.keep a o ht (x.keep a o ht e)
  has:=y.has
  sub:=x.sub.trans y.sub
  new:=fun p hp=>by
    rcases y.new p hp with h | h
    · exact x.new p h
    · exact .inr (Nat.le_trans x.size h)
  tok:=y.tok
  toks:=Nat.le_trans x.toks y.toks
  size:=Nat.le_trans x.size y.size
  os:=y.os.trans x.os
  gens:=x.gens.trans y.gens
  tabs:=y.tabs
theorem TokOk.le {tks:List (Nat × Dat)} {n m:Nat} (x:TokOk tks n) (h:n≤m):TokOk tks m :=
  ⟨Nat.lt_of_lt_of_le x.pos h,fun p hp=>⟨(x.rng p hp).1,Nat.lt_of_lt_of_le (x.rng p hp).2 h⟩,x.one⟩
theorem TokOk.cons {tks:List (Nat × Dat)} {n m:Nat} {t:Nat} {d:Dat} (x:TokOk tks n) (h:n≤t) (h':t < m):TokOk ((t,d) :: tks) m where
  pos:=by omega
  rng:=fun p hp=>by
    rcases List.mem_cons.mp hp with rfl | hp
    · exact ⟨Nat.lt_of_lt_of_le x.pos h,h'⟩
    · have:=x.rng p hp; exact ⟨this.1,by omega⟩
  one:=fun p hp q hq e=>by
    rcases List.mem_cons.mp hp with rfl | hp <;> rcases List.mem_cons.mp hq with rfl | hq
    · rfl
    · have:=x.rng q hq; simp only at e; omega
    · have:=x.rng p hp; simp only at e; omega
    · exact x.one p hp q hq e
theorem Grow.refl {s:Shared} {F:Fz} (b:Base W s F):Grow W s s F F where
  keep:=fun _ _ _ e=>e
  has:=b.has
  sub:=.rfl
  new:=fun _ h=>.inl h
  tok:=b.tok
  toks:=Nat.le_refl _
  size:=Nat.le_refl _
  os:=rfl
  gens:=.rfl
  tabs:=b.tabs
theorem Grow.more {s:Shared} {F:Fz} (b:Base W s F) {t:Nat} (ht:s.toks≤t):Grow W s { s with toks:=t } F F where
  keep:=fun _ _ _ e=>e
  has:=b.has
  sub:=.rfl
  new:=fun _ h=>.inl h
  tok:=b.tok.le ht
  toks:=ht
  size:=Nat.le_refl _
  os:=rfl
  gens:=.rfl
  tabs:=b.tabs
def Fz.tk (F:Fz) (t:Nat) (d:Dat):Fz:=⟨F.obs,(t,d) :: F.tks⟩
def Fz.ob (F:Fz) (a:Nat) (o:Obj):Fz:=⟨(a,o) :: F.obs,F.tks⟩
theorem Fz.le_tk (F:Fz) (t d):F.le (F.tk t d):=⟨fun _ h=>h,fun _ h=>List.mem_cons_of_mem _ h⟩
theorem Fz.le_ob (F:Fz) (a o):F.le (F.ob a o):=⟨fun _ h=>List.mem_cons_of_mem _ h,fun _ h=>h⟩
theorem Grow.tk {s:Shared} {F:Fz} (b:Base W s F) (d:Dat):Grow W s { s with toks:=s.toks + 1 } F (F.tk s.toks d) where
  keep:=fun _ _ _ e=>e
  has:=b.has
  sub:=F.le_tk _ _
  new:=fun _ h=>.inl h
  tok:=b.tok.cons (Nat.le_refl _) (Nat.lt_succ_self _)
  toks:=Nat.le_succ _
  size:=Nat.le_refl _
  os:=rfl
  gens:=.rfl
  tabs:=b.tabs.mono (F.le_tk _ _)
theorem Rep.tk_int {F:Fz} {t:Nat} {i:Int}:Rep (F.tk t (.int i)) (.int i t) (.int i):=.int (.head _)
theorem Rep.tk_str {F:Fz} {t:Nat} {x:Str}:Rep (F.tk t (.str x)) (.str x t) (.str x):=.str (.head _)
theorem get_new_none {h:Heap} {a:Nat} (ha:h.objs.size≤a):h.get? a=none:=by
  cases e:h.get? a with
  | none=>rfl
  | some o=>exact absurd (Heap.lt_size e) (Nat.not_lt.mpr ha)
theorem Grow.of_keeps {s s':Shared} {F:Fz} (N:Led) (b:Base W s F) (hk:∀ a o,s.heap.get? a=some o→s'.heap.get? a=some o)
    (hN:∀ p ∈ N,s'.heap.get? p.1=some p.2∧s.heap.objs.size≤p.1) (hz:s.heap.objs.size≤s'.heap.objs.size) (ht:s.toks≤s'.toks)
    (ho:s'.os=s.os) (hg:GensKeep s.gens s'.gens):Grow W s s' F ⟨N ++ F.obs,F.tks⟩ where
  keep:=fun a o _ e=>hk a o e
  has:=fun p hp=>by
    rcases List.mem_append.mp hp with h | h
    · exact (hN p h).1
    · exact hk _ _ (b.has p h)
  sub:=⟨fun p hp=>List.mem_append_right _ hp,fun _ h=>h⟩
  new:=fun p hp=>by
    rcases List.mem_append.mp hp with h | h
    · exact .inr (hN p h).2
    · exact .inl h
  tok:=b.tok.le ht
  toks:=ht
  size:=hz
  os:=ho
  gens:=hg
  tabs:=(b.tabs.keeps fun a o _ e=>hk a o e).mono ⟨fun p hp=>List.mem_append_right _ hp,fun _ h=>h⟩
theorem Grow.push {s:Shared} {F:Fz} (b:Base W s F) (o:Obj) {t:Nat} (ht:s.toks≤t) (hf:o.isFreed=false) :
    Grow W s { s with heap:=s.heap.push o,toks:=t } F (F.ob s.heap.objs.size o) :=
  Grow.of_keeps [(s.heap.objs.size,o)] b (fun _ _ e=>Heap.get?_push_of_some _ e)
    (fun p hp=>by cases List.mem_singleton.mp hp; exact ⟨Heap.get?_push_size _ hf,Nat.le_refl _⟩) (by simp) ht rfl .rfl
theorem Grow.pushed {s:Shared} {F:Fz} (b:Base W s F) (o:Obj) {t:Nat} (ht:s.toks≤t) :
    Grow W s { s with heap:=s.heap.push o,toks:=t } F F :=
  Grow.of_keeps [] b (fun _ _ e=>Heap.get?_push_of_some _ e) (fun p hp=>nomatch hp) (by simp) ht rfl .rfl
theorem Grow.freeze {s s':Shared} {F F':Fz} (g:Grow W s s' F F') {a:Nat} {o:Obj} (ha:s.heap.objs.size≤a) (ho:s'.heap.get? a=some o):Grow W s s' F (F'.ob a o) where
  keep:=g.keep
  has:=fun p hp=>by
    rcases List.mem_cons.mp hp with rfl | hp
    · exact ho
    · exact g.has p hp
  sub:=g.sub.trans (F'.le_ob _ _)
  new:=fun p hp=>by
    rcases List.mem_cons.mp hp with rfl | hp
    · exact .inr ha
    · exact g.new p hp
  tok:=g.tok
  toks:=g.toks
  size:=g.size
  os:=g.os
  gens:=g.gens
  tabs:=g.tabs.mono (F'.le_ob _ _)
def Room (k:Nat) (A:Around):Prop:=A.handled=none∧A.depth + 10 * k≤900∧A.units + 100 * k≤9000
theorem Room.mono {k j:Nat} {A:Around} (h:Room k A) (hj:j≤k):Room j A:=⟨h.1,by have:=h.2.1; omega,by have:=h.2.2; omega⟩
theorem Room.in1 {k:Nat} {A:Around} (h:Room (k + 1) A):Room k A.in1:=⟨h.1,by have:=h.2.1; show A.depth + _≤_; omega,by have:=h.2.2; show A.units + 1 + _≤_; omega⟩
theorem Room.deeper {k:Nat} {A:Around} (h:Room (k + 1) A) (env:Env):Room k (A.deeper env):=⟨h.1,by have:=h.2.1; show A.depth + 1 + _≤_; omega,by have:=h.2.2; show A.units + 3 + _≤_; omega⟩
theorem Room.depth {k:Nat} {A:Around} (h:Room k A):A.depth < recursionLimit:=by have:=h.2.1; unfold recursionLimit; omega
theorem Room.units {k:Nat} {A:Around} (h:Room k A):A.units + 64 < cLine:=by have:=h.2.2; unfold cLine; omega
theorem Room.handled {k:Nat} {A:Around} (h:Room k A):A.handled=none:=h.1
theorem Room.mark {k:Nat} {A:Around} (h:Room k A):Room k (A.mark none):=⟨by simpa [Around.mark] using h.1,h.2.1,h.2.2⟩
section
variable (prog:Program) (w:World) (W:Wd)
def Gives (k:Nat) (t:Sem Value) (s:Shared) (F:Fz) (P:Fz→Value→Prop):Prop :=
  ∀ (A:Around) (Q:Value→Shared→Prop) (E:Value→Shared→Prop),Room k A →
    (∀ v s' F',Grow W s s' F F'→P F' v→Q v s')→wpAny (model prog w) A t Q E s
end
inductive Pairs (F:Fz) {K:Type}:List (K × Value)→List (K × Dat)→Prop
  | nil:Pairs F [] []
  | cons {k:K} {v:Value} {d:Dat} {kvs:List (K × Value)} {kds:List (K × Dat)}:Rep F v d→Pairs F kvs kds→Pairs F ((k,v) :: kvs) ((k,d) :: kds)
theorem Pairs.mono {F F':Fz} {K:Type} (hs:F.le F') {es:List (K × Value)} {kvs:List (K × Dat)} (h:Pairs F es kvs):Pairs F' es kvs:=by
  induction h with
  | nil=>exact .nil
  | cons h1 _ ih=>exact .cons (h1.mono hs) ih
inductive V where
  | dat (d:Dat)
  | dic (kvs:List (Str × Dat))
  | ref (a:Nat)
  | num (i:Int)
  | con (v:Value)
  | fn (f:Nat) (G:Fz)
def V.is (prog:Program) (w:World) (F:Fz) (v:Value):V→Prop
  | .dat d=>Rep F v d
  | .dic kvs=>∃ a o kvv,v=.ref a∧(a,o) ∈ F.obs∧(a == sysModules)=false∧o.IsDictOf (strKind prog w) kvv∧Pairs F kvv kvs
  | .ref a=>v=.ref a
  | .num i=>∃ t,v=.int i t
  | .con u=>v=u
  | .fn f G=>v=.ref f∧G.le F
def Is (prog:Program) (w:World) (x:V):Fz→Value→Prop:=fun F v=>x.is prog w F v
theorem V.is.mono {prog:Program} {w:World} {F F':Fz} {v:Value} {x:V} (hs:F.le F') (h:x.is prog w F v):x.is prog w F' v:=by
  cases x with
  | dat d=>exact Rep.mono hs h
  | dic kvs=>obtain ⟨a,o,kvv,h1,h2,h3,h4,h5⟩:=h; exact ⟨a,o,kvv,h1,hs.obs _ h2,h3,h4,h5.mono hs⟩
  | ref a=>exact h
  | num i=>exact h
  | con u=>exact h
  | fn f G=>exact ⟨h.1,h.2.trans hs⟩
section
variable {prog:Program} {w:World}
theorem Gives.mono_room {k j:Nat} {t:Sem Value} {s:Shared} {F:Fz} {P} (h:Gives prog w W k t s F P) (hj:k≤j):Gives prog w W j t s F P :=
  fun A Q E r q=>h A Q E (r.mono hj) q
theorem Gives.mono {k:Nat} {t:Sem Value} {s:Shared} {F:Fz} {P P'} (h:Gives prog w W k t s F P) (hp:∀ F v,P F v→P' F v):Gives prog w W k t s F P' :=
  fun A Q E r q=>h A Q E r fun v s' F' g p=>q v s' F' g (hp _ _ p)
theorem Gives.bind {k:Nat} {t:Sem Value} {f:Value→Sem Value} {s:Shared} {F:Fz} {P P'} (h:Gives prog w W k t s F P)
    (h':∀ v s' F',Grow W s s' F F'→P F' v→Gives prog w W k (f v) s' F' P'):Gives prog w W k (t >>= f) s F P':=fun A Q E r q =>
  wpAny_bind (h A _ E r fun v s' F' g p=>h' v s' F' g p A Q E r fun v' s'' F'' g' p'=>q v' s'' F'' (g.trans g') p')
theorem Gives.pure {k:Nat} {v:Value} {s:Shared} {F:Fz} {P} (b:Base W s F) (h:P F v):Gives prog w W k (pure v) s F P :=
  fun A Q E r q=>wpAny_pure (q v s F (Grow.refl b) h)
end
end Mine
namespace Mine
inductive Bd where
  | val (x:V)
  | lst (ds:List Dat)
  | byt (b:Array UInt8)
  | dic (kvs:List (Int × Dat))
def Bd.own:Bd→Bool
  | .val _=>false
  | _=>true
structure Frm where
  sb:Shared
  Fb:Fz
  env:Env
abbrev Ctx':=List (Str × Bd)
structure Priv (fr:Frm) (P:Led) (F:Fz) (a:Nat):Prop where
  new:fr.sb.heap.objs.size≤a
  loc:a≠fr.env.locals
  cel:∀ n c,fr.env.cells.lookup n=some c→c≠a
  prv:∀ p ∈ P,p.1≠a
  frz:∀ p ∈ F.obs,p.1≠a
abbrev byteObj (b:Array UInt8) (n:Nat):Obj:={ cls:=.type "bytearray",data:=.bytearray b n }
def VarAt (h:Heap) (env:Env) (x:Str) (v:Value):Prop :=
  (env.kindOf x=some .local∧∃ m,h.Ns env.locals m∧m x=some v) ∨
  ((env.kindOf x=some .cell ∨ env.kindOf x=some .free)∧∃ c,env.cells.lookup x=some c∧h.IsCell c (some v))
section
variable (prog:Program) (w:World) (W:Wd)
def Bd.ok (fr:Frm) (P:Led) (F:Fz) (h:Heap) (v:Value):Bd→Prop
  | .val x=>x.is prog w F v
  | .lst ds=>∃ a vs n,v=.ref a∧h.get? a=some (listOf vs.toArray n)∧Reps F vs ds∧Priv fr P F a
  | .byt b=>∃ a n,v=.ref a∧h.get? a=some (byteObj b n)∧Priv fr P F a
  | .dic kvs=>∃ a kvv,v=.ref a∧h.DictOf (intKind prog w) a kvv∧Pairs F kvv kvs∧Priv fr P F a
structure St (fr:Frm) (fn:Bool) (Γ:Ctx') (P:Led) (s:Shared) (F:Fz):Prop where
  base:Base W s F
  grow:Grow W fr.sb s fr.Fb F
  bsize:W.base.objs.size≤fr.sb.heap.objs.size
  glob:fr.env.globals=mainGlobals
  blt:fr.env.builtins=builtinsNs
  kind:fr.env.scope.kind=.function
  ns:∃ m,s.heap.Ns fr.env.locals m
  nsNew:fr.sb.heap.objs.size≤fr.env.locals
  nsF:∀ p ∈ F.obs,p.1≠fr.env.locals
  nsP:∀ p ∈ P,p.1≠fr.env.locals
  prv:∀ p ∈ P,s.heap.get? p.1=some p.2∧¬ W.tab p.1∧∀ q ∈ F.obs,q.1≠p.1
  cell:∀ n c,fr.env.cells.lookup n=some c→(∃ v,s.heap.IsCell c v)∧c≠fr.env.locals∧(fn=true→∀ p ∈ F.obs,p.1≠c)∧(∀ p ∈ P,p.1≠c)∧¬ W.tab c∧(fn=true→fr.sb.heap.objs.size≤c)
  inj:∀ n n' c,fr.env.cells.lookup n=some c→fr.env.cells.lookup n'=some c→n=n'
  cells:∀ x,fr.env.kindOf x=some .cell→∃ c,fr.env.cells.lookup x=some c
  vars:∀ x b,Γ.lookup x=some b→∃ v,VarAt s.heap fr.env x v∧b.ok prog w fr P F s.heap v
  apart:∀ x y bx by' a,x≠y→Γ.lookup x=some bx→Γ.lookup y=some by'→bx.own=true→by'.own=true→VarAt s.heap fr.env x (.ref a)→VarAt s.heap fr.env y (.ref a)→False
end
variable {prog:Program} {w:World} {W:Wd} {fr:Frm} {fn:Bool} {Γ Γ':Ctx'} {P:Led} {s s':Shared} {F F':Fz} {A:Around}
theorem ns_unique {h:Heap} {a:Nat} {m m':Str→Option Value} (x:h.Ns a m) (y:h.Ns a m'):m=m':=by
  obtain ⟨o,es,ep,h1,h2,_,h4⟩:=x
  obtain ⟨o',es',ep',g1,g2,_,g4⟩:=y
  rw [h1] at g1; cases g1
  rw [h2] at g2; cases g2
  funext n; rw [← h4 n,g4 n]
theorem cell_unique {h:Heap} {c:Nat} {v v':Option Value} (x:h.IsCell c v) (y:h.IsCell c v'):v=v':=by
  obtain ⟨o,h1,h2⟩:=x
  obtain ⟨o',g1,g2⟩:=y
  rw [h1] at g1; cases g1
  rw [h2] at g2; cases g2; rfl
theorem VarAt.unique {h:Heap} {env:Env} {x:Str} {v v':Value} (a:VarAt h env x v) (b:VarAt h env x v'):v=v':=by
  rcases a with ⟨ka,m,ha,hv⟩ | ⟨ka,c,ha,hv⟩ <;> rcases b with ⟨kb,m',hb,hv'⟩ | ⟨kb,c',hb,hv'⟩
  · rw [ns_unique ha hb,hv'] at hv; cases hv; rfl
  · rw [ka] at kb; rcases kb with kb | kb <;> cases kb
  · rw [kb] at ka; rcases ka with ka | ka <;> cases ka
  · rw [ha] at hb; cases hb; cases cell_unique hv hv'; rfl
theorem VarAt.keeps {h h':Heap} {env:Env} {x:Str} {v:Value} (a:VarAt h env x v) (hL:∀ m,h.Ns env.locals m→h'.Ns env.locals m)
    (hc:∀ c v,env.cells.lookup x=some c→h.IsCell c v→h'.IsCell c v):VarAt h' env x v:=by
  rcases a with ⟨ka,m,ha,hv⟩ | ⟨ka,c,ha,hv⟩
  · exact .inl ⟨ka,m,hL m ha,hv⟩
  · exact .inr ⟨ka,c,ha,hc c _ ha hv⟩
theorem Ns.off {h h':Heap} {a:Nat} {m} (x:h.Ns a m) (ha:¬ W.tab a) (hk:∀ a o,¬ W.tab a→h.get? a=some o→h'.get? a=some o):h'.Ns a m :=
  let ⟨o,es,ep,ho,r⟩:=x; ⟨o,es,ep,hk _ _ ha ho,r⟩
theorem IsCell.off {h h':Heap} {a:Nat} {v} (x:h.IsCell a v) (ha:¬ W.tab a) (hk:∀ a o,¬ W.tab a→h.get? a=some o→h'.get? a=some o):h'.IsCell a v :=
  let ⟨o,ho,r⟩:=x; ⟨o,hk _ _ ha ho,r⟩
theorem DictOf.off {h h':Heap} {K:Type} [DecidableEq K] {knd:KeyKind prog w K} {a:Nat} {v} (x:h.DictOf knd a v) (ha:¬ W.tab a) (hk:∀ a o,¬ W.tab a→h.get? a=some o→h'.get? a=some o):h'.DictOf knd a v :=
  let ⟨o,es,ep,ho,r⟩:=x; ⟨o,es,ep,hk _ _ ha ho,r⟩
theorem St.tabL (x:St prog w W fr fn Γ P s F):¬ W.tab fr.env.locals:=not_tab_of_le (Nat.le_trans x.bsize x.nsNew)
theorem Priv.tab (p:Priv fr P F a) (hb:W.base.objs.size≤fr.sb.heap.objs.size):¬ W.tab a:=not_tab_of_le (Nat.le_trans hb p.new)
theorem DictOf.lt {h:Heap} {K:Type} [DecidableEq K] {knd:KeyKind prog w K} {a:Nat} {v} (x:h.DictOf knd a v):a < h.objs.size:=let ⟨_,_,_,ho,_⟩:=x; Heap.lt_size ho
theorem St.step (x:St prog w W fr fn Γ P s F) (g:Grow W s s' F F'):St prog w W fr fn Γ P s' F':=by
  have newF:∀ a,a < s.heap.objs.size→(∀ p ∈ F.obs,p.1≠a)→∀ p ∈ F'.obs,p.1≠a:=fun a ha h p hp e=>by
    rcases g.new p hp with q | q
    · exact h p q e
    · rw [e] at q; exact absurd ha (Nat.not_lt.mpr q)
  have hL:∀ m,s.heap.Ns fr.env.locals m→s'.heap.Ns fr.env.locals m:=fun m h=>Ns.off (W:=W) h x.tabL g.keep
  have hv:∀ y v,VarAt s.heap fr.env y v→VarAt s'.heap fr.env y v:=fun y v h=>h.keeps hL fun c v hc hv=>IsCell.off (W:=W) hv (x.cell _ _ hc).2.2.2.2.1 g.keep
  refine ⟨x.base.grow g,x.grow.trans g,x.bsize,x.glob,x.blt,x.kind,let ⟨m,h⟩:=x.ns; ⟨m,hL m h⟩,x.nsNew,?_,x.nsP,?_,?_,x.inj,x.cells,?_,?_⟩
  · obtain ⟨m,h⟩:=x.ns
    exact newF _ h.lt x.nsF
  · intro p hp
    obtain ⟨h1,h2,h3⟩:=x.prv p hp
    exact ⟨g.keep _ _ h2 h1,h2,newF _ (Heap.lt_size h1) h3⟩
  · intro n c hc
    obtain ⟨⟨v,h1⟩,h2,h3,h4,h5,h6⟩:=x.cell n c hc
    exact ⟨⟨v,IsCell.off (W:=W) h1 h5 g.keep⟩,h2,fun hf=>newF _ h1.lt (h3 hf),h4,h5,h6⟩
  · intro y b hy
    obtain ⟨v,h1,h2⟩:=x.vars y b hy
    refine ⟨v,hv _ _ h1,?_⟩
    cases b with
    | val x=>exact V.is.mono g.sub h2
    | lst ds =>
      obtain ⟨a,vs,n,e,h3,h4,h5⟩:=h2
      exact ⟨a,vs,n,e,g.keep _ _ (h5.tab x.bsize) h3,h4.mono g.sub,h5.new,h5.loc,h5.cel,h5.prv,newF _ (Heap.lt_size h3) h5.frz⟩
    | byt bs =>
      obtain ⟨a,n,e,h3,h5⟩:=h2
      exact ⟨a,n,e,g.keep _ _ (h5.tab x.bsize) h3,h5.new,h5.loc,h5.cel,h5.prv,newF _ (Heap.lt_size h3) h5.frz⟩
    | dic kvs =>
      obtain ⟨a,kvv,e,h3,h4,h5⟩:=h2
      exact ⟨a,kvv,e,DictOf.off (W:=W) h3 (h5.tab x.bsize) g.keep,h4.mono g.sub,h5.new,h5.loc,h5.cel,h5.prv,newF _ (DictOf.lt h3) h5.frz⟩
  · intro y z by' bz a hne h1 h2 o1 o2 v1 v2
    obtain ⟨u1,w1,_⟩:=x.vars y by' h1
    obtain ⟨u2,w2,_⟩:=x.vars z bz h2
    cases (hv _ _ w1).unique v1
    cases (hv _ _ w2).unique v2
    exact x.apart y z by' bz a hne h1 h2 o1 o2 w1 w2
theorem St.weaken (x:St prog w W fr fn Γ P s F) (h:∀ y b,Γ'.lookup y=some b→Γ.lookup y=some b):St prog w W fr fn Γ' P s F :=
  ⟨x.base,x.grow,x.bsize,x.glob,x.blt,x.kind,x.ns,x.nsNew,x.nsF,x.nsP,x.prv,x.cell,x.inj,x.cells,fun y b e=>x.vars y b (h y b e),
    fun y z by' bz a hne h1 h2=>x.apart y z by' bz a hne (h y _ h1) (h z _ h2)⟩
theorem St.load_any (x:St prog w W fr fn Γ P s F) {y:Str} {v:Value} {pos:Pos} {Q:Value→Shared→Prop} {E:Value→Shared→Prop} (hv:VarAt s.heap fr.env y v) (h:Q v s)
    (hd:(y == ("__debug__":Str))=false:=by decide) (hn:(y == ("__classdict__":Str))=false:=by decide) :
    wpAny (model prog w) A (eval (.Name y pos) fr.env) Q E s:=by
  rcases hv with ⟨k,m,hm,hv⟩ | ⟨k | k,c,hc,hv⟩
  · exact wpAny_Name (wpAny_loadName_local x.kind k hm hv h) hd
  · exact wpAny_Name (wpAny_loadName_cell x.kind k hc hv h) hd
  · exact wpAny_Name (wpAny_loadName_free x.kind k hc hv h hn) hd
end Mine
namespace Mine
variable {prog:Program} {w:World} {W:Wd} {fr:Frm} {fn:Bool} {Γ Γ':Ctx'} {P:Led} {s s':Shared} {F F':Fz} {A:Around}
theorem touch {a t:Nat} {h':Heap} (x:St prog w W fr fn Γ P s F) (hs:Heap.SameBut a s.heap h') (ha:fr.sb.heap.objs.size≤a) (hF:∀ p ∈ F.obs,p.1≠a) (ht:s.toks≤t) :
    Base W { s with heap:=h',toks:=t } F∧Grow W fr.sb { s with heap:=h',toks:=t } fr.Fb F:=by
  have nt:∀ b,W.tab b→b≠a:=fun b hb e=>absurd (Nat.lt_of_lt_of_le (Wd.tab_lt hb) (Nat.le_trans x.bsize ha)) (by rw [e]; exact Nat.lt_irrefl _)
  have tabs:TabInv W F h':=x.base.tabs.keeps fun b o hb e=>(hs.2 b (nt b hb)).trans e
  have has:∀ p ∈ F.obs,h'.get? p.1=some p.2:=fun p hp=>(hs.2 _ (hF p hp)).trans (x.base.has p hp)
  refine ⟨⟨fun b o e=>?_,has,x.base.tok.le ht,tabs,x.base.off,?_⟩,⟨fun b o hb e=>?_,has,x.grow.sub,x.grow.new,x.base.tok.le ht,Nat.le_trans x.grow.toks ht,?_,x.grow.os,x.grow.gens,tabs⟩⟩
  · have hlt:=Heap.lt_size e
    refine (hs.2 b fun q=>?_).trans (x.base.base b o e)
    rw [q] at hlt; exact absurd (Nat.lt_of_lt_of_le hlt (Nat.le_trans x.bsize ha)) (Nat.lt_irrefl _)
  · show _≤h'.objs.size; rw [hs.1]; exact x.base.size
  · have hlt:=Heap.lt_size e
    refine (hs.2 b fun q=>?_).trans (x.grow.keep b o hb e)
    rw [q] at hlt; exact absurd (Nat.lt_of_lt_of_le hlt ha) (Nat.lt_irrefl _)
  · show _≤h'.objs.size; rw [hs.1]; exact x.grow.size
theorem Bd.ok_same {a:Nat} {h h':Heap} {v:Value} {b:Bd} (hb:b.ok prog w fr P F h v) (hs:Heap.SameBut a h h') (ha:∀ c,Priv fr P F c→v=.ref c→c≠a):b.ok prog w fr P F h' v:=by
  cases b with
  | val x=>exact hb
  | lst ds=>obtain ⟨c,vs,n,e,h3,h4,h5⟩:=hb; exact ⟨c,vs,n,e,(hs.2 c (ha c h5 e)).trans h3,h4,h5⟩
  | byt bs=>obtain ⟨c,n,e,h3,h5⟩:=hb; exact ⟨c,n,e,(hs.2 c (ha c h5 e)).trans h3,h5⟩
  | dic kvs=>obtain ⟨c,kvv,e,h3,h4,h5⟩:=hb; exact ⟨c,kvv,e,h3.sameBut hs (ha c h5 e),h4,h5⟩
theorem lookup_cons_self {b:Bd} {y:Str}:List.lookup y ((y,b) :: Γ)=some b:=by rw [List.lookup_cons,beq_self_eq_true]
theorem lookup_cons_ne {b:Bd} {y z:Str} (h:z≠y):List.lookup z ((y,b) :: Γ)=Γ.lookup z:=by
  rw [List.lookup_cons,beq_eq_false_iff_ne.mpr h]
theorem St.store (x:St prog w W fr fn Γ P s F) {y:Str} {v:Value} {b:Bd} (hb:b.ok prog w fr P F s.heap v)
    (hk:fr.env.kindOf y=some .local ∨ (fr.env.kindOf y=some .cell∧fn=true))
    (hap:∀ z bz a,z≠y→Γ.lookup z=some bz→bz.own=true→b.own=true→VarAt s.heap fr.env z (.ref a)→v≠.ref a)
    {Q:Unit→Shared→Prop} {E:Value→Shared→Prop} (h:∀ s',St prog w W fr fn ((y,b) :: Γ) P s' F→Q () s'):wpAny (model prog w) A (storeName fr.env y v) Q E s:=by
  rcases hk with hk | ⟨hk,hfn⟩
  · obtain ⟨m,hm⟩:=x.ns
    refine wpAny_storeName_local hk hm (fun h' hn hs=>h _ ?_) (by rw [x.kind]; rfl)
    obtain ⟨b1,g1⟩:=touch x hs x.nsNew x.nsF (Nat.le_succ s.toks)
    have va:∀ z u,z≠y→VarAt s.heap fr.env z u→VarAt h' fr.env z u:=fun z u hz q=>by
      rcases q with ⟨k,m',hm',e⟩ | ⟨k,c,hc,e⟩
      · exact .inl ⟨k,_,hn,by rw [if_neg hz,← ns_unique hm' hm]; exact e⟩
      · exact .inr ⟨k,c,hc,e.sameBut hs (x.cell _ _ hc).2.1⟩
    have vy:VarAt h' fr.env y v:=.inl ⟨hk,_,hn,by rw [if_pos rfl]⟩
    refine ⟨b1,g1,x.bsize,x.glob,x.blt,x.kind,⟨_,hn⟩,x.nsNew,x.nsF,x.nsP,fun p hp=>?_,fun n c hc=>?_,x.inj,x.cells,fun z bz hz=>?_,?_⟩
    · obtain ⟨h1,h2⟩:=x.prv p hp
      exact ⟨(hs.2 _ (x.nsP p hp)).trans h1,h2⟩
    · obtain ⟨⟨u,h1⟩,h2⟩:=x.cell n c hc
      exact ⟨⟨u,h1.sameBut hs h2.1⟩,h2⟩
    · by_cases e:z=y
      · subst e; rw [lookup_cons_self] at hz; cases hz
        exact ⟨v,vy,Bd.ok_same hb hs fun c hc _=>hc.loc⟩
      · rw [lookup_cons_ne e] at hz
        obtain ⟨u,h1,h2⟩:=x.vars z bz hz
        exact ⟨u,va z u e h1,Bd.ok_same h2 hs fun c hc _=>hc.loc⟩
    · intro z z' bz bz' a hne h1 h2 o1 o2 v1 v2
      by_cases e:z=y
      · have e':z'≠y:=fun q=>hne (e.trans q.symm)
        rw [e,lookup_cons_self] at h1; cases h1
        rw [lookup_cons_ne e'] at h2
        rw [e] at v1
        obtain ⟨u,w2,_⟩:=x.vars z' bz' h2
        cases (va z' u e' w2).unique v2
        exact hap z' bz' a e' h2 o2 o1 w2 (vy.unique v1)
      · rw [lookup_cons_ne e] at h1
        obtain ⟨u,w1,_⟩:=x.vars z bz h1
        cases (va z u e w1).unique v1
        by_cases e':z'=y
        · rw [e',lookup_cons_self] at h2; cases h2
          rw [e'] at v2
          exact hap z bz a e h1 o1 o2 w1 (vy.unique v2)
        · rw [lookup_cons_ne e'] at h2
          obtain ⟨u,w2,_⟩:=x.vars z' bz' h2
          cases (va z' u e' w2).unique v2
          exact x.apart z z' bz bz' a hne h1 h2 o1 o2 w1 w2
  · obtain ⟨c,hc⟩:=x.cells y hk
    obtain ⟨⟨v₀,hv₀⟩,cL,cF,cP,cT,cN⟩:=x.cell y c hc
    refine wpAny_storeName_cell x.kind hk hc hv₀ fun h' hn hs=>h _ ?_
    obtain ⟨b1,g1⟩:=touch x hs (cN hfn) (cF hfn) (Nat.le_refl s.toks)
    have va:∀ z u,z≠y→VarAt s.heap fr.env z u→VarAt h' fr.env z u:=fun z u hz q=>by
      rcases q with ⟨k,m',hm',e⟩ | ⟨k,c',hc',e⟩
      · exact .inl ⟨k,m',hm'.sameBut hs (Ne.symm cL),e⟩
      · exact .inr ⟨k,c',hc',e.sameBut hs fun q=>hz (x.inj _ _ _ hc' (q ▸ hc))⟩
    have vy:VarAt h' fr.env y v:=.inr ⟨.inl hk,c,hc,hn⟩
    refine ⟨b1,g1,x.bsize,x.glob,x.blt,x.kind,let ⟨m,hm⟩:=x.ns; ⟨m,hm.sameBut hs (Ne.symm cL)⟩,x.nsNew,x.nsF,x.nsP,fun p hp=>?_,fun n c' hc'=>?_,x.inj,x.cells,fun z bz hz=>?_,?_⟩
    · obtain ⟨h1,h2⟩:=x.prv p hp
      exact ⟨(hs.2 _ (cP p hp)).trans h1,h2⟩
    · obtain ⟨⟨u,h1⟩,h2⟩:=x.cell n c' hc'
      by_cases e:c'=c
      · subst e; exact ⟨⟨_,hn⟩,h2⟩
      · exact ⟨⟨u,h1.sameBut hs e⟩,h2⟩
    · by_cases e:z=y
      · subst e; rw [lookup_cons_self] at hz; cases hz
        exact ⟨v,vy,Bd.ok_same hb hs fun d hd _=>Ne.symm (hd.cel _ _ hc)⟩
      · rw [lookup_cons_ne e] at hz
        obtain ⟨u,h1,h2⟩:=x.vars z bz hz
        exact ⟨u,va z u e h1,Bd.ok_same h2 hs fun d hd _=>Ne.symm (hd.cel _ _ hc)⟩
    · intro z z' bz bz' a hne h1 h2 o1 o2 v1 v2
      by_cases e:z=y
      · have e':z'≠y:=fun q=>hne (e.trans q.symm)
        rw [e,lookup_cons_self] at h1; cases h1
        rw [lookup_cons_ne e'] at h2
        rw [e] at v1
        obtain ⟨u,w2,_⟩:=x.vars z' bz' h2
        cases (va z' u e' w2).unique v2
        exact hap z' bz' a e' h2 o2 o1 w2 (vy.unique v1)
      · rw [lookup_cons_ne e] at h1
        obtain ⟨u,w1,_⟩:=x.vars z bz h1
        cases (va z u e w1).unique v1
        by_cases e':z'=y
        · rw [e',lookup_cons_self] at h2; cases h2
          rw [e'] at v2
          exact hap z bz a e h1 o1 o2 w1 (vy.unique v2)
        · rw [lookup_cons_ne e'] at h2
          obtain ⟨u,w2,_⟩:=x.vars z' bz' h2
          cases (va z' u e' w2).unique v2
          exact x.apart z z' bz bz' a hne h1 h2 o1 o2 w1 w2
theorem St.storeV (x:St prog w W fr fn Γ P s F) {y:Str} {v:Value} {d:V} (hb:d.is prog w F v)
    (hk:fr.env.kindOf y=some .local ∨ (fr.env.kindOf y=some .cell∧fn=true))
    {Q:Unit→Shared→Prop} {E:Value→Shared→Prop} (h:∀ s',St prog w W fr fn ((y,.val d) :: Γ) P s' F→Q () s'):wpAny (model prog w) A (storeName fr.env y v) Q E s :=
  x.store (b:=.val d) hb hk (fun _ _ _ _ _ _ o=>by cases o) h
end Mine
namespace Mine
inductive VsIs (prog:Program) (w:World) (F:Fz):List Value→List V→Prop
  | nil:VsIs prog w F [] []
  | cons {v vs x xs}:V.is prog w F v x→VsIs prog w F vs xs→VsIs prog w F (v :: vs) (x :: xs)
theorem VsIs.mono {prog w} {F F':Fz} (hs:F.le F') {vs xs} (h:VsIs prog w F vs xs):VsIs prog w F' vs xs:=by
  induction h with
  | nil=>exact .nil
  | cons h _ ih=>exact .cons (V.is.mono hs h) ih
section
variable (prog:Program) (w:World) (W:Wd)
def Ev (k:Nat) (sc:Scope) (fn:Bool) (Γ:Ctx') (e:Expr) (x:V):Prop :=
  ∀ fr P s F,fr.env.scope=sc→St prog w W fr fn Γ P s F→Gives prog w W k (eval e fr.env) s F (Is prog w x)
def GivesB (k:Nat) (t:Sem Bool) (s:Shared) (F:Fz) (b:Bool):Prop :=
  ∀ (A:Around) (Q:Bool→Shared→Prop) (E:Value→Shared→Prop),Room k A→(∀ s' F',Grow W s s' F F'→Q b s')→wpAny (model prog w) A t Q E s
def EvB (k:Nat) (sc:Scope) (fn:Bool) (Γ:Ctx') (e:Expr) (b:Bool):Prop :=
  ∀ fr P s F,fr.env.scope=sc→St prog w W fr fn Γ P s F→GivesB prog w W k (isTrue e fr.env (eval e fr.env)) s F b
def EvL (k:Nat) (sc:Scope) (fn:Bool) (Γ:Ctx') (es:List Expr) (xs:List V):Prop :=
  ∀ fr P s F,fr.env.scope=sc→St prog w W fr fn Γ P s F→∀ (pos:Pos) (A:Around) (Q:List Value→Shared→Prop) (E:Value→Shared→Prop),Room k A →
    (∀ vs s' F',Grow W s s' F F'→VsIs prog w F' vs xs→Q vs s')→wpAny (model prog w) A (spliced (backTo pos (starEach es fr.env))) Q E s
def Calls (k:Nat) (f:Value) (xs:List V) (r:V):Prop :=
  ∀ s F vs,Base W s F→VsIs prog w F vs xs→Gives prog w W k (call f vs) s F (Is prog w r)
inductive Out where
  | next (Γ:Ctx')
  | ret (x:V)
def Out.ok (fr:Frm) (fn:Bool) (P:Led) (fl:Flow) (s:Shared) (F:Fz):Out→Prop
  | .next Γ=>fl=.next∧St prog w W fr fn Γ P s F
  | .ret x=>∃ v,fl=.ret v∧x.is prog w F v∧St prog w W fr fn [] P s F
def Ex (k:Nat) (sc:Scope) (fn:Bool) (Γ:Ctx') (ss:List Stmt) (o:Out):Prop :=
  ∀ fr P s F,fr.env.scope=sc→St prog w W fr fn Γ P s F→∀ (A:Around) (Q:Flow→Shared→Prop) (E:Value→Shared→Prop),Room k A →
    (∀ fl s' F',o.ok prog w W fr fn P fl s' F'→F.le F'→Q fl s')→wpAny (model prog w) A (execs ss fr.env) Q E s
def Ex1 (k:Nat) (sc:Scope) (fn:Bool) (Γ:Ctx') (st:Stmt) (o:Out):Prop :=
  ∀ fr P s F,fr.env.scope=sc→St prog w W fr fn Γ P s F→∀ (A:Around) (Q:Flow→Shared→Prop) (E:Value→Shared→Prop),Room k A →
    (∀ fl s' F',o.ok prog w W fr fn P fl s' F'→F.le F'→Q fl s')→wpAny (model prog w) A (exec st fr.env) Q E s
end
section
variable {prog:Program} {w:World} {W:Wd} {k:Nat} {sc:Scope} {fn:Bool} {Γ Γ':Ctx'}
theorem ev_int {i:Int} {n:Nat} {pos:Pos}:Ev prog w W k sc fn Γ (.Constant (.int i) n pos) (.dat (.int i)):=fun fr P s F _ x A Q E r q =>
  wpAny_Constant_int (q _ _ _ (Grow.tk x.base (.int i)) Rep.tk_int)
theorem ev_str {t:Str} {n:Nat} {pos:Pos}:Ev prog w W k sc fn Γ (.Constant (.str t) n pos) (.dat (.str t)):=fun fr P s F _ x A Q E r q =>
  Constant_str (q _ _ _ (Grow.tk x.base (.str t)) Rep.tk_str)
theorem ev_name {y:Str} {pos:Pos} {x:V} (h:Γ.lookup y=some (.val x)) (hd:(y == ("__debug__":Str))=false:=by decide) (hn:(y == ("__classdict__":Str))=false:=by decide) :
    Ev prog w W k sc fn Γ (.Name y pos) x:=fun fr P s F _ st A Q E r q=>by
  obtain ⟨v,h1,h2⟩:=st.vars y _ h
  exact st.load_any h1 (q _ _ _ (Grow.refl st.base) h2) hd hn
theorem ev_glob {y:Str} {pos:Pos} {a:Nat} (hk:sc.names.lookup y=some .globalImplicit) (hg:W.mg y=some (.ref a)) (hd:(y == ("__debug__":Str))=false:=by decide) :
    Ev prog w W k sc fn Γ (.Name y pos) (.ref a):=fun fr P s F hsc st A Q E r q =>
  Name_function_global st.kind (by rw [← hsc] at hk; exact hk) (loadGlobal_global (by rw [st.glob]; exact W.g.keeps st.base.base) hg (q _ _ _ (Grow.refl st.base) rfl)) hd
theorem name_builtin {fr:Frm} {P:Led} {s:Shared} {F:Fz} {y:Str} {pos:Pos} {v:Value} {A:Around} {Q:Value→Shared→Prop} {E:Value→Shared→Prop} (st:St prog w W fr fn Γ P s F)
    (hk:fr.env.scope.names.lookup y=some .globalImplicit) (hg:W.mg y=none) (hb:bootBuiltins y=some v) (hn:y≠"__name__") (q:Q v s)
    (hd:(y == ("__debug__":Str))=false:=by decide):wpAny (model prog w) A (eval (.Name y pos) fr.env) Q E s :=
  Name_function_global st.kind hk (loadGlobal_builtin (by rw [st.glob]; exact W.g.keeps st.base.base) hg (by rw [st.blt]; exact W.b.keeps st.base.base) ((W.builtins y hn).trans hb) q) hd
section
variable (prog w W)
def BinG (k:Nat) (op:Operator) (x y z:V):Prop :=
  ∀ s F u v,Base W s F→x.is prog w F u→y.is prog w F v→Gives prog w W k (binaryOp op u v) s F (Is prog w z)
def CmpG (k:Nat) (op:CmpOp) (x y z:V):Prop :=
  ∀ s F u v,Base W s F→x.is prog w F u→y.is prog w F v→Gives prog w W k (compareOp op u v) s F (Is prog w z)
def UnG (k:Nat) (op:UnaryOp) (x z:V):Prop :=
  ∀ s F u,Base W s F→x.is prog w F u→Gives prog w W k (unaryOp op u) s F (Is prog w z)
def TrG (k:Nat) (x:V) (b:Bool):Prop :=
  ∀ s F u,Base W s F→x.is prog w F u→GivesB prog w W k (truthy u) s F b
end
theorem ev_bin {l r:Expr} {op:Operator} {pos:Pos} {x y z:V} (hl:Ev prog w W k sc fn Γ l x) (hr:Ev prog w W k sc fn Γ r y) (ho:BinG prog w W k op x y z) :
    Ev prog w W k sc fn Γ (.BinOp l op r pos) z:=fun fr P s F hsc st A Q E rm q =>
  wpAny_BinOp (hl fr P s F hsc st A _ E rm fun u s₁ F₁ g₁ hu =>
    hr fr P s₁ F₁ hsc (st.step g₁) A _ E rm fun v s₂ F₂ g₂ hv =>
      ho s₂ F₂ u v ((st.step g₁).step g₂).base (V.is.mono g₂.sub hu) hv A Q E rm fun z s₃ F₃ g₃ hz=>q z s₃ F₃ ((g₁.trans g₂).trans g₃) hz)
theorem ev_cmp {l r:Expr} {op:CmpOp} {pos:Pos} {x y z:V} (hl:Ev prog w W k sc fn Γ l x) (hr:Ev prog w W k sc fn Γ r y) (ho:CmpG prog w W k op x y z)
    (hm:behindInMarks op r=false:=by with_unfolding_all rfl):Ev prog w W k sc fn Γ (.Compare l [op] [r] pos) z:=fun fr P s F hsc st A Q E rm q =>
  wpAny_Compare1 (hl fr P s F hsc st A _ E rm fun u s₁ F₁ g₁ hu =>
    hr fr P s₁ F₁ hsc (st.step g₁) A _ E rm fun v s₂ F₂ g₂ hv =>
      ho s₂ F₂ u v ((st.step g₁).step g₂).base (V.is.mono g₂.sub hu) hv A Q E rm fun z s₃ F₃ g₃ hz=>q z s₃ F₃ ((g₁.trans g₂).trans g₃) hz) hm
theorem ev_un {e:Expr} {op:UnaryOp} {pos:Pos} {x z:V} (hl:Ev prog w W k sc fn Γ e x) (ho:UnG prog w W k op x z) :
    Ev prog w W k sc fn Γ (.UnaryOp op e pos) z:=fun fr P s F hsc st A Q E rm q =>
  wpAny_UnaryOp (hl fr P s F hsc st A _ E rm fun u s₁ F₁ g₁ hu =>
    ho s₁ F₁ u (st.step g₁).base hu A Q E rm fun z s₃ F₃ g₃ hz=>q z s₃ F₃ (g₁.trans g₃) hz)
theorem ev_ite {t b e:Expr} {pos:Pos} {c:Bool} {x:V} (ht:EvB prog w W k sc fn Γ t c) (hb:c=true→Ev prog w W k sc fn Γ b x) (he:c=false→Ev prog w W k sc fn Γ e x) :
    Ev prog w W k sc fn Γ (.IfExp t b e pos) x:=fun fr P s F hsc st A Q E rm q =>
  wpAny_IfExp (ht fr P s F hsc st A _ E rm fun s₁ F₁ g₁=>by
    cases c with
    | true=>exact hb rfl fr P s₁ F₁ hsc (st.step g₁) A Q E rm fun z s₃ F₃ g₃ hz=>q z s₃ F₃ (g₁.trans g₃) hz
    | false=>exact he rfl fr P s₁ F₁ hsc (st.step g₁) A Q E rm fun z s₃ F₃ g₃ hz=>q z s₃ F₃ (g₁.trans g₃) hz)
theorem evb_cmp {l r:Expr} {op:CmpOp} {pos:Pos} {x y z:V} {b:Bool} (hl:Ev prog w W k sc fn Γ l x) (hr:Ev prog w W k sc fn Γ r y) (ho:CmpG prog w W k op x y z) (ht:TrG prog w W k z b)
    (hm:behindInMarks op r=false:=by with_unfolding_all rfl):EvB prog w W k sc fn Γ (.Compare l [op] [r] pos) b:=fun fr P s F hsc st A Q E rm q =>
  wpAny_isTrue_Compare1 (hl fr P s F hsc st A _ E rm fun u s₁ F₁ g₁ hu =>
    hr fr P s₁ F₁ hsc (st.step g₁) A _ E rm fun v s₂ F₂ g₂ hv =>
      ho s₂ F₂ u v ((st.step g₁).step g₂).base (V.is.mono g₂.sub hu) hv A _ E rm fun z s₃ F₃ g₃ hz =>
        ht s₃ F₃ z (((st.step g₁).step g₂).base.grow g₃) hz A Q E rm fun s₄ F₄ g₄=>q s₄ F₄ (((g₁.trans g₂).trans g₃).trans g₄)) hm
theorem evb_val {e:Expr} {x:V} {b:Bool} (he:Ev prog w W k sc fn Γ e x) (ht:TrG prog w W k x b)
    (hs:∀ env,isTrue e env (eval e env)=(do let v ← eval e env; standAt e.pos; holding [v] (truthy v)):=by intro _; rfl):EvB prog w W k sc fn Γ e b:=fun fr P s F hsc st A Q E rm q =>
  wpAny_isTrue_value (he fr P s F hsc st A _ E rm fun u s₁ F₁ g₁ hu=>ht s₁ F₁ u (st.step g₁).base hu A Q E rm fun s₂ F₂ g₂=>q s₂ F₂ (g₁.trans g₂)) (hs _)
theorem evb_not {e:Expr} {pos:Pos} {b:Bool} (he:EvB prog w W k sc fn Γ e b):EvB prog w W k sc fn Γ (.UnaryOp .Not e pos) (!b):=fun fr P s F hsc st A Q E rm q =>
  wpAny_isTrue_Not (he fr P s F hsc st A _ E rm fun s₁ F₁ g₁=>q s₁ F₁ g₁)
section
variable (prog w W)
def EvAll (k:Nat) (sc:Scope) (fn:Bool) (Γ:Ctx') (op:BoolOp) (es:List Expr) (b:Bool):Prop :=
  ∀ fr P s F,fr.env.scope=sc→St prog w W fr fn Γ P s F→GivesB prog w W k (allTrue op es fr.env) s F b
end
theorem evb_boolop {op:BoolOp} {es:List Expr} {pos:Pos} {b:Bool} (h:EvAll prog w W k sc fn Γ op es b):EvB prog w W k sc fn Γ (.BoolOp op es pos) b:=fun fr P s F hsc st A Q E rm q =>
  wpAny_isTrue_BoolOp (h fr P s F hsc st A Q E rm q)
theorem eva_and_nil:EvAll prog w W k sc fn Γ .And [] true:=fun fr P s F hsc st A Q E rm q=>wpAny_allTrue_And_nil (q _ _ (Grow.refl st.base))
theorem eva_or_nil:EvAll prog w W k sc fn Γ .Or [] false:=fun fr P s F hsc st A Q E rm q=>wpAny_allTrue_Or_nil (q _ _ (Grow.refl st.base))
theorem eva_and_cons {e:Expr} {es:List Expr} {a b:Bool} (he:EvB prog w W k sc fn Γ e a) (hr:a=true→EvAll prog w W k sc fn Γ .And es b):EvAll prog w W k sc fn Γ .And (e :: es) (a && b):=fun fr P s F hsc st A Q E rm q =>
  wpAny_allTrue_And_cons (he fr P s F hsc st A _ E rm fun s₁ F₁ g₁=>by
    cases a with
    | true=>exact hr rfl fr P s₁ F₁ hsc (st.step g₁) A Q E rm fun s₂ F₂ g₂=>q s₂ F₂ (g₁.trans g₂)
    | false=>exact q s₁ F₁ g₁)
theorem eva_or_cons {e:Expr} {es:List Expr} {a b:Bool} (he:EvB prog w W k sc fn Γ e a) (hr:a=false→EvAll prog w W k sc fn Γ .Or es b):EvAll prog w W k sc fn Γ .Or (e :: es) (a || b):=fun fr P s F hsc st A Q E rm q =>
  wpAny_allTrue_Or_cons (he fr P s F hsc st A _ E rm fun s₁ F₁ g₁=>by
    cases a with
    | false=>exact hr rfl fr P s₁ F₁ hsc (st.step g₁) A Q E rm fun s₂ F₂ g₂=>q s₂ F₂ (g₁.trans g₂)
    | true=>exact q s₁ F₁ g₁)
theorem evl_nil:EvL prog w W k sc fn Γ [] []:=fun fr P s F hsc st pos A Q E rm q=>spliced_nil (q _ _ _ (Grow.refl st.base) .nil)
theorem evl_cons {e:Expr} {es:List Expr} {x:V} {xs:List V} (he:Ev prog w W k sc fn Γ e x) (hr:EvL prog w W k sc fn Γ es xs)
    (hs:∀ env,starEach (e :: es) env=(false,eval e env) :: starEach es env:=by intro _; rfl):EvL prog w W k sc fn Γ (e :: es) (x :: xs):=fun fr P s F hsc st pos A Q E rm q=>by
  rw [hs]
  exact spliced_cons (he fr P s F hsc st A _ E rm fun u s₁ F₁ g₁ hu=>hr fr P s₁ F₁ hsc (st.step g₁) pos A _ E rm fun vs s₂ F₂ g₂ hv=>q _ s₂ F₂ (g₁.trans g₂) (.cons (V.is.mono g₂.sub hu) hv))
theorem VsIs.reps {F:Fz}:∀ {vs:List Value} {ds:List Dat},VsIs prog w F vs (ds.map V.dat)→Reps F vs ds
  | _,[],h=>by cases h; exact .nil
  | _,_ :: _,h=>by cases h with | cons h r=>exact .cons h (VsIs.reps r)
theorem ev_list {es:List Expr} {pos:Pos} {ds:List Dat} (h:EvL prog w W k sc fn Γ es (ds.map V.dat)) (hz:ds.length≤sizeLine:=by first | decide | simp [sizeLine]):Ev prog w W k sc fn Γ (.List es pos) (.dat (.list ds)):=fun fr P s F hsc st A Q E rm q =>
  List_ (h fr P s F hsc st pos A _ E rm fun vs s₁ F₁ g₁ hv =>
    wpAny_newObj_type (q _ _ _ (g₁.trans (Grow.push (st.step g₁).base _ (Nat.le_refl _) rfl)) (.list (.head _) ((VsIs.reps hv).mono (Fz.le_ob _ _ _))))
      (by show vs.toArray.size≤sizeLine; rw [List.size_toArray,(VsIs.reps hv).length]; exact hz))
theorem ev_tuple {es:List Expr} {n:Nat} {pos:Pos} {ds:List Dat} (h:EvL prog w W k sc fn Γ es (ds.map V.dat)) (hz:ds.length≤sizeLine:=by first | decide | simp [sizeLine]):Ev prog w W k sc fn Γ (.Tuple es n pos) (.dat (.tuple ds)):=fun fr P s F hsc st A Q E rm q =>
  Tuple_ (h fr P s F hsc st pos A _ E rm fun vs s₁ F₁ g₁ hv =>
    wpAny_newObj_type (q _ _ _ (g₁.trans (Grow.push (st.step g₁).base _ (Nat.le_refl _) rfl)) (.tuple (.head _) ((VsIs.reps hv).mono (Fz.le_ob _ _ _))))
      (by show vs.toArray.size≤sizeLine; rw [List.size_toArray,(VsIs.reps hv).length]; exact hz))
theorem evalArgs_of {fr:Frm} {P:Led} {s:Shared} {F:Fz} {es:List Expr} {xs:List V} {f:Value} {pos:Pos} {A:Around} {Q:Args→Shared→Prop} {E:Value→Shared→Prop}
    (h:EvL prog w W k sc fn Γ es xs) (hsc:fr.env.scope=sc) (st:St prog w W fr fn Γ P s F) (rm:Room k A) (hs:∀ env,(starEach es env).any (·.1)=false)
    (q:∀ vs s' F',Grow W s s' F F'→VsIs prog w F' vs xs→Q ⟨vs,[]⟩ s'):wpAny (model prog w) A (evalArgs f true (backTo pos (starEach es fr.env)) []) Q E s:=by
  have h':=h fr P s F hsc st pos A (fun vs s'=>Q ⟨vs,[]⟩ s') E rm q
  have hs':=hs fr.env
  cases hE:starEach es fr.env with
  | nil =>
    rw [hE] at h'
    unfold evalArgs
    show wpAny _ _ (spliced [] >>= _) Q E s
    refine wpAny_bind (wpAny_mono h' (fun vs s' h'=>?_) fun _ _ x=>x)
    refine wpAny_holding ?_
    exact wpAny_bind (wpAny_pure (wpAny_bind (wpAny_pure (wpAny_pure h'))))
  | cons p r =>
    obtain ⟨b,t⟩:=p
    rw [hE] at h' hs'
    simp only [List.any_cons,Bool.or_eq_false_iff] at hs'
    obtain ⟨rfl,_⟩:=hs'
    exact evalArgs_plain h'
theorem ev_call {y:Str} {es:List Expr} {xs:List V} {p pos:Pos} {a:Nat} {o:Obj} {fd:FuncData} {r:V} (hf:Ev prog w W k sc fn Γ (.Name y p) (.ref a))
    (ho:W.base.get? a=some o) (hd:o.data=.func fd) (ha:EvL prog w W k sc fn Γ es xs) (hc:Calls prog w W k (.ref a) xs r)
    (hs:∀ env,(starEach es env).any (·.1)=false:=by intro _; rfl):Ev prog w W k sc fn Γ (.Call (.Name y p) es [] pos) r:=fun fr P s F hsc st A Q E rm q=>by
  have e:eval (.Call (.Name y p) es [] pos) fr.env=(do callWith pos (← eval (.Name y p) fr.env) [] (backTo pos (starEach es fr.env)) []):=rfl
  rw [e]
  refine wpAny_bind (hf fr P s F hsc st A _ E rm fun v s₁ F₁ g₁ hv=>?_)
  cases hv
  refine callWith_function (o:=o) (fd:=fd) ?_
  refine evalArgs_of ha hsc (st.step g₁) rm hs fun vs s₂ F₂ g₂ hv=>?_
  refine ⟨⟨((st.step g₁).step g₂).base.base _ _ ho,hd⟩,?_⟩
  exact hc s₂ F₂ vs ((st.step g₁).step g₂).base hv A Q E rm fun z s₃ F₃ g₃ hz=>q z s₃ F₃ ((g₁.trans g₂).trans g₃) hz
theorem ev_callB {y:Str} {es:List Expr} {xs:List V} {p pos:Pos} {f:Value} {r:V}
    (hk:sc.names.lookup y=some .globalImplicit) (hg:W.mg y=none) (hb:bootBuiltins y=some f) (hn:y≠"__name__") (hbt:(∃ id,f=.builtin id) ∨ ∃ T,f=.type T)
    (ha:EvL prog w W k sc fn Γ es xs) (hc:Calls prog w W k f xs r)
    (hs:∀ env,(starEach es env).any (·.1)=false:=by intro _; rfl) (hd:(y == ("__debug__":Str))=false:=by decide):Ev prog w W k sc fn Γ (.Call (.Name y p) es [] pos) r:=fun fr P s F hsc st A Q E rm q=>by
  have e:eval (.Call (.Name y p) es [] pos) fr.env=(do callWith pos (← eval (.Name y p) fr.env) [] (backTo pos (starEach es fr.env)) []):=rfl
  rw [e]
  refine wpAny_bind (name_builtin st (hsc ▸ hk) hg hb hn ?_ hd)
  have hplain:(backTo pos (starEach es fr.env)).any (·.1)=false:=by
    have:=hs fr.env
    unfold backTo
    rw [List.any_map]
    exact this
  have go:wpAny (model prog w) A (evalArgs f true (backTo pos (starEach es fr.env)) []) (fun a s₁=>wpAny (model prog w) A (call f ([] ++ a.pos) a.kw) Q E s₁) E s :=
    evalArgs_of ha hsc st rm hs fun vs s₂ F₂ g₂ hv =>
      hc s₂ F₂ vs (st.step g₂).base hv A Q E rm fun z s₃ F₃ g₃ hz=>q z s₃ F₃ (g₂.trans g₃) hz
  rcases hbt with ⟨id,rfl⟩ | ⟨T,rfl⟩
  · exact callWith_builtin hplain go
  · exact PyProof.Rows.callWith_type hplain go
end
end Mine
namespace Mine
structure GrowX (W:Wd) (X:List Nat) (s s':Shared) (F F':Fz):Prop where
  keep:∀ a o,¬ W.tab a→a ∉ X→s.heap.get? a=some o→s'.heap.get? a=some o
  has:∀ p ∈ F'.obs,s'.heap.get? p.1=some p.2
  sub:F.le F'
  new:∀ p ∈ F'.obs,p ∈ F.obs ∨ s.heap.objs.size≤p.1
  tok:TokOk F'.tks s'.toks
  toks:s.toks≤s'.toks
  size:s.heap.objs.size≤s'.heap.objs.size
  os:s'.os=s.os
  gens:GensKeep s.gens s'.gens
  tabs:TabInv W F' s'.heap
theorem Grow.x {W:Wd} {X:List Nat} {s s':Shared} {F F':Fz} (g:Grow W s s' F F'):GrowX W X s s' F F' :=
  ⟨fun a o h _=>g.keep a o h,g.has,g.sub,g.new,g.tok,g.toks,g.size,g.os,g.gens,g.tabs⟩
theorem GrowX.trans {W:Wd} {X:List Nat} {s₁ s₂ s₃:Shared} {F₁ F₂ F₃:Fz} (x:GrowX W X s₁ s₂ F₁ F₂) (y:GrowX W X s₂ s₃ F₂ F₃):GrowX W X s₁ s₃ F₁ F₃ where
  keep:=fun a o ht hx e=>y.keep a o ht hx (x.keep a o ht hx e)
  has:=y.has
  sub:=x.sub.trans y.sub
  new:=fun p hp=>by
    rcases y.new p hp with h | h
    · exact x.new p h
    · exact .inr (Nat.le_trans x.size h)
  tok:=y.tok
  toks:=Nat.le_trans x.toks y.toks
  size:=Nat.le_trans x.size y.size
  os:=y.os.trans x.os
  gens:=x.gens.trans y.gens
  tabs:=y.tabs
theorem GrowX.more {W:Wd} {X Y:List Nat} {s s':Shared} {F F':Fz} (g:GrowX W X s s' F F') (h:∀ a ∈ X,a ∈ Y):GrowX W Y s s' F F' :=
  ⟨fun a o ht hx=>g.keep a o ht fun q=>hx (h a q),g.has,g.sub,g.new,g.tok,g.toks,g.size,g.os,g.gens,g.tabs⟩
theorem Base.growX {W:Wd} {X:List Nat} {s s':Shared} {F F':Fz} (b:Base W s F) (g:GrowX W X s s' F F') (hX:∀ a ∈ X,W.base.get? a=none):Base W s' F' where
  base:=fun a o e=>g.keep a o (Wd.not_tab e) (fun q=>by rw [hX a q] at e; cases e) (b.base a o e)
  has:=g.has
  tok:=g.tok
  tabs:=g.tabs
  off:=fun p hp=>by
    rcases g.new p hp with h | h
    · exact b.off p h
    · exact b.not_tab_of_size h
  size:=Nat.le_trans b.size g.size
theorem GrowX.same {W:Wd} {s:Shared} {F:Fz} {h':Heap} {a t:Nat} (b:Base W s F) (hs:Heap.SameBut a s.heap h') (hF:∀ p ∈ F.obs,p.1≠a) (ha:¬ W.tab a) (ht:s.toks≤t) :
    GrowX W [a] s { s with heap:=h',toks:=t } F F where
  keep:=fun c o _ hc e=>(hs.2 c (by simpa using hc)).trans e
  has:=fun p hp=>(hs.2 _ (hF p hp)).trans (b.has p hp)
  sub:=.rfl
  new:=fun _ h=>.inl h
  tok:=b.tok.le ht
  toks:=ht
  size:=Nat.le_of_eq hs.1.symm
  os:=rfl
  gens:=.rfl
  tabs:=b.tabs.keeps fun c o hc e=>(hs.2 c fun q=>ha (q ▸ hc)).trans e
theorem GrowX.tk {W:Wd} {X:List Nat} {s s':Shared} {F F':Fz} (g:GrowX W X s s' F F') (d:Dat):GrowX W X s { s' with toks:=s'.toks + 1 } F (F'.tk s'.toks d) where
  keep:=g.keep
  has:=g.has
  sub:=g.sub.trans (F'.le_tk _ _)
  new:=g.new
  tok:=g.tok.cons (Nat.le_refl _) (Nat.lt_succ_self _)
  toks:=Nat.le_succ_of_le g.toks
  size:=g.size
  os:=g.os
  gens:=g.gens
  tabs:=g.tabs.mono (F'.le_tk _ _)
section
variable {prog:Program} {w:World} {W:Wd} {fr:Frm} {fn:Bool} {Γ Γ':Ctx'} {P N N':Led} {s s':Shared} {F F':Fz} {A:Around}
theorem St.stepH (x:St prog w W fr fn Γ (N ++ P) s F) (g:GrowX W (N.map (·.1)) s s' F F') (hN:∀ p ∈ N',p.1 ∈ N.map (·.1)) (hin:∀ p ∈ N',s'.heap.get? p.1=some p.2)
    (hP:∀ p ∈ P,∀ q ∈ N,q.1≠p.1) (hnone:∀ p ∈ N,fr.sb.heap.get? p.1=none∧W.base.get? p.1=none):St prog w W fr fn Γ (N' ++ P) s' F':=by
  have memN:∀ a,a ∈ N.map (·.1)→∃ p ∈ N,p.1=a:=fun a h=>let ⟨p,hp,e⟩:=List.mem_map.mp h; ⟨p,hp,e⟩
  have memN':∀ p ∈ N',∃ q ∈ N,q.1=p.1:=fun p hp=>memN p.1 (hN p hp)
  have newF:∀ a,a < s.heap.objs.size→(∀ p ∈ F.obs,p.1≠a)→∀ p ∈ F'.obs,p.1≠a:=fun a ha h p hp e=>by
    rcases g.new p hp with q | q
    · exact h p q e
    · rw [e] at q; exact absurd ha (Nat.not_lt.mpr q)
  have hL0:fr.env.locals ∉ N.map (·.1):=fun q=>let ⟨p,hp,e⟩:=memN _ q; x.nsP p (List.mem_append_left _ hp) e
  have hL:∀ m,s.heap.Ns fr.env.locals m→s'.heap.Ns fr.env.locals m:=fun m h=>let ⟨o,es,ep,ho,r⟩:=h; ⟨o,es,ep,g.keep _ _ x.tabL hL0 ho,r⟩
  have hC0:∀ n c,fr.env.cells.lookup n=some c→c ∉ N.map (·.1):=fun n c hc q=>let ⟨p,hp,e⟩:=memN _ q; (x.cell n c hc).2.2.2.1 p (List.mem_append_left _ hp) e
  have hC:∀ n c v,fr.env.cells.lookup n=some c→s.heap.IsCell c v→s'.heap.IsCell c v:=fun n c v hc h=>let ⟨o,ho,r⟩:=h; ⟨o,g.keep _ _ (x.cell _ _ hc).2.2.2.2.1 (hC0 n c hc) ho,r⟩
  have hv:∀ y v,VarAt s.heap fr.env y v→VarAt s'.heap fr.env y v:=fun y v h=>h.keeps hL fun c v hc hv=>hC _ c v hc hv
  have hbase:∀ a ∈ N.map (·.1),W.base.get? a=none:=fun a q=>by
    obtain ⟨p,hp,rfl⟩:=memN _ q
    exact (hnone p hp).2
  have b':=x.base.growX g hbase
  refine ⟨b',⟨fun a o ht e=>g.keep a o ht (fun q=>?_) (x.grow.keep a o ht e),g.has,x.grow.sub.trans g.sub,fun p hp=>?_,g.tok,Nat.le_trans x.grow.toks g.toks,Nat.le_trans x.grow.size g.size,g.os.trans x.grow.os,x.grow.gens.trans g.gens,g.tabs⟩,
    x.bsize,x.glob,x.blt,x.kind,let ⟨m,h⟩:=x.ns; ⟨m,hL m h⟩,x.nsNew,?_,?_,?_,?_,x.inj,x.cells,?_,?_⟩
  · obtain ⟨p,hp,rfl⟩:=memN _ q
    rw [(hnone p hp).1] at e; cases e
  · rcases g.new p hp with h | h
    · exact x.grow.new p h
    · exact .inr (Nat.le_trans x.grow.size h)
  · obtain ⟨m,h⟩:=x.ns
    exact newF _ h.lt x.nsF
  · intro p hp
    rcases List.mem_append.mp hp with h | h
    · obtain ⟨q,hq,e⟩:=memN' p h
      rw [← e]; exact x.nsP q (List.mem_append_left _ hq)
    · exact x.nsP p (List.mem_append_right _ h)
  · intro p hp
    rcases List.mem_append.mp hp with h | h
    · obtain ⟨q,hq,e⟩:=memN' p h
      obtain ⟨h1,h2,h3⟩:=x.prv q (List.mem_append_left _ hq)
      rw [← e]
      exact ⟨e ▸ hin p h,h2,newF _ (Heap.lt_size h1) h3⟩
    · obtain ⟨h1,h2,h3⟩:=x.prv p (List.mem_append_right _ h)
      exact ⟨g.keep _ _ h2 (fun q=>let ⟨r,hr,e⟩:=memN _ q; hP p h r hr e) h1,h2,newF _ (Heap.lt_size h1) h3⟩
  · intro n c hc
    obtain ⟨⟨v,h1⟩,h2,h3,h4,h5,h6⟩:=x.cell n c hc
    refine ⟨⟨v,hC n c v hc h1⟩,h2,fun hf=>newF _ h1.lt (h3 hf),fun p hp=>?_,h5,h6⟩
    rcases List.mem_append.mp hp with h | h
    · obtain ⟨q,hq,e⟩:=memN' p h
      rw [← e]; exact h4 q (List.mem_append_left _ hq)
    · exact h4 p (List.mem_append_right _ h)
  · intro y b hy
    obtain ⟨v,h1,h2⟩:=x.vars y b hy
    refine ⟨v,hv _ _ h1,?_⟩
    have pr:∀ a,a < s.heap.objs.size→Priv fr (N ++ P) F a→Priv fr (N' ++ P) F' a∧a ∉ N.map (·.1):=fun a ha h5 =>
      ⟨⟨h5.new,h5.loc,h5.cel,fun p hp=>by
        rcases List.mem_append.mp hp with h | h
        · obtain ⟨q,hq,e⟩:=memN' p h
          rw [← e]; exact h5.prv q (List.mem_append_left _ hq)
        · exact h5.prv p (List.mem_append_right _ h),newF _ ha h5.frz⟩,fun q=>let ⟨r,hr,e⟩:=memN _ q; h5.prv r (List.mem_append_left _ hr) e⟩
    cases b with
    | val x=>exact V.is.mono g.sub h2
    | lst ds =>
      obtain ⟨a,vs,n,e,h3,h4,h5⟩:=h2
      obtain ⟨p1,p2⟩:=pr a (Heap.lt_size h3) h5
      exact ⟨a,vs,n,e,g.keep _ _ (h5.tab x.bsize) p2 h3,h4.mono g.sub,p1⟩
    | byt bs =>
      obtain ⟨a,n,e,h3,h5⟩:=h2
      obtain ⟨p1,p2⟩:=pr a (Heap.lt_size h3) h5
      exact ⟨a,n,e,g.keep _ _ (h5.tab x.bsize) p2 h3,p1⟩
    | dic kvs =>
      obtain ⟨a,kvv,e,h3,h4,h5⟩:=h2
      obtain ⟨p1,p2⟩:=pr a (DictOf.lt h3) h5
      exact ⟨a,kvv,e,(let ⟨o,es,ep,ho,r⟩:=h3; ⟨o,es,ep,g.keep _ _ (h5.tab x.bsize) p2 ho,r⟩),h4.mono g.sub,p1⟩
  · intro y z by' bz a hne h1 h2 o1 o2 v1 v2
    obtain ⟨u1,w1,_⟩:=x.vars y by' h1
    obtain ⟨u2,w2,_⟩:=x.vars z bz h2
    cases (hv _ _ w1).unique v1
    cases (hv _ _ w2).unique v2
    exact x.apart y z by' bz a hne h1 h2 o1 o2 w1 w2
theorem St.stepX (x:St prog w W fr fn Γ (N ++ P) s F) (g:GrowX W (N.map (·.1)) s s' F F') (hN:∀ p ∈ N',p.1 ∈ N.map (·.1)) (hin:∀ p ∈ N',s'.heap.get? p.1=some p.2)
    (hP:∀ p ∈ P,∀ q ∈ N,q.1≠p.1) (hnew:∀ p ∈ N,fr.sb.heap.objs.size≤p.1):St prog w W fr fn Γ (N' ++ P) s' F' :=
  x.stepH g hN hin hP fun p hp=>⟨get_new_none (hnew p hp),get_new_none (Nat.le_trans x.bsize (hnew p hp))⟩
theorem St.frame (x:St prog w W fr fn Γ P s F) (g:Grow W s s' F F') (hin:∀ p ∈ N,s'.heap.get? p.1=some p.2∧s.heap.objs.size≤p.1∧∀ q ∈ F'.obs,q.1≠p.1):St prog w W fr fn Γ (N ++ P) s' F':=by
  have y:=x.step g
  have old:∀ a,a < s.heap.objs.size→∀ p ∈ N,p.1≠a:=fun a ha p hp e=>absurd ha (Nat.not_lt.mpr (e ▸ (hin p hp).2.1))
  refine ⟨y.base,y.grow,y.bsize,y.glob,y.blt,y.kind,y.ns,y.nsNew,y.nsF,fun p hp=>?_,fun p hp=>?_,fun n c hc=>?_,y.inj,y.cells,fun z b hz=>?_,y.apart⟩
  · rcases List.mem_append.mp hp with h | h
    · obtain ⟨m,hm⟩:=x.ns; exact old _ hm.lt p h
    · exact y.nsP p h
  · rcases List.mem_append.mp hp with h | h
    · exact ⟨(hin p h).1,x.base.not_tab_of_size (hin p h).2.1,(hin p h).2.2⟩
    · exact y.prv p h
  · obtain ⟨h1,h2,h3,h4,h5,h6⟩:=y.cell n c hc
    refine ⟨h1,h2,h3,fun p hp=>?_,h5,h6⟩
    rcases List.mem_append.mp hp with h | h
    · obtain ⟨⟨v,hv⟩,_⟩:=x.cell n c hc; exact old _ hv.lt p h
    · exact h4 p h
  · obtain ⟨v,h1,h2⟩:=y.vars z b hz
    refine ⟨v,h1,?_⟩
    obtain ⟨v₀,h1₀,h2₀⟩:=x.vars z b hz
    have hv:VarAt s'.heap fr.env z v₀:=h1₀.keeps (fun m h=>Ns.off (W:=W) h x.tabL g.keep) fun c v hc hv=>IsCell.off (W:=W) hv (x.cell _ _ hc).2.2.2.2.1 g.keep
    cases h1.unique hv
    have pr:∀ a,a < s.heap.objs.size→Priv fr P F' a→Priv fr (N ++ P) F' a:=fun a ha p=>⟨p.new,p.loc,p.cel,fun q hq=>by
      rcases List.mem_append.mp hq with h | h
      · exact old a ha q h
      · exact p.prv q h,p.frz⟩
    cases b with
    | val x=>exact h2
    | lst ds =>
      obtain ⟨a,vs,n,e,h3,h4,h5⟩:=h2
      obtain ⟨a',vs',n',e',h3',_⟩:=h2₀
      rw [e] at e'; cases e'
      exact ⟨a,vs,n,e,h3,h4,pr a (Heap.lt_size h3') h5⟩
    | byt bs =>
      obtain ⟨a,n,e,h3,h5⟩:=h2
      obtain ⟨a',n',e',h3',_⟩:=h2₀
      rw [e] at e'; cases e'
      exact ⟨a,n,e,h3,pr a (Heap.lt_size h3') h5⟩
    | dic kvs =>
      obtain ⟨a,kvv,e,h3,h4,h5⟩:=h2
      obtain ⟨a',kvv',e',h3',_⟩:=h2₀
      rw [e] at e'; cases e'
      exact ⟨a,kvv,e,h3,h4,pr a (DictOf.lt h3') h5⟩
theorem St.unframe (x:St prog w W fr fn Γ (N ++ P) s F):St prog w W fr fn Γ P s F:=by
  refine ⟨x.base,x.grow,x.bsize,x.glob,x.blt,x.kind,x.ns,x.nsNew,x.nsF,fun p hp=>x.nsP p (List.mem_append_right _ hp),fun p hp=>x.prv p (List.mem_append_right _ hp),fun n c hc=>?_,x.inj,x.cells,fun z b hz=>?_,x.apart⟩
  · obtain ⟨h1,h2,h3,h4,h5,h6⟩:=x.cell n c hc
    exact ⟨h1,h2,h3,fun p hp=>h4 p (List.mem_append_right _ hp),h5,h6⟩
  · obtain ⟨v,h1,h2⟩:=x.vars z b hz
    have pr:∀ a,Priv fr (N ++ P) F a→Priv fr P F a:=fun a p=>⟨p.new,p.loc,p.cel,fun q hq=>p.prv q (List.mem_append_right _ hq),p.frz⟩
    refine ⟨v,h1,?_⟩
    cases b with
    | val x=>exact h2
    | lst ds=>obtain ⟨a,vs,n,e,h3,h4,h5⟩:=h2; exact ⟨a,vs,n,e,h3,h4,pr a h5⟩
    | byt bs=>obtain ⟨a,n,e,h3,h5⟩:=h2; exact ⟨a,n,e,h3,pr a h5⟩
    | dic kvs=>obtain ⟨a,kvv,e,h3,h4,h5⟩:=h2; exact ⟨a,kvv,e,h3,h4,pr a h5⟩
end
section
variable (prog:Program) (w:World) (W:Wd)
structure Held (N:Led) (s:Shared) (F:Fz):Prop where
  has:∀ p ∈ N,s.heap.get? p.1=some p.2
  tab:∀ p ∈ N,¬ W.tab p.1
  base:∀ p ∈ N,W.base.get? p.1=none
  off:∀ p ∈ N,∀ q ∈ F.obs,q.1≠p.1
def Iter (k:Nat) (tgt:Expr) (it:Value):List V→Fz→Led→Prop
  | [],F,N=>∀ s F₁ (A:Around) (Q:Option Value→Shared→Prop) (E:Value→Shared→Prop),Base W s F₁→F.le F₁→Held W N s F₁→Room k A →
      (∀ s' F',GrowX W (N.map (·.1)) s s' F₁ F'→Q none s')→wpAny (model prog w) A (pyNext it) Q E s
  | x :: xs,F,N=>∀ s F₁ (A:Around) (Q:Value→Shared→Prop) (E:Value→Shared→Prop),Base W s F₁→F.le F₁→Held W N s F₁→Room k A →
      (∀ v s₂ F₂ N₂,GrowX W (N.map (·.1)) s s₂ F₁ F₂→N₂.map (·.1)=N.map (·.1)→(∀ p ∈ N₂,s₂.heap.get? p.1=some p.2)→x.is prog w F₂ v→Iter k tgt it xs F₂ N₂→Q v s₂) →
      wpAny (model prog w) A (pyNext it) (fun r s₁=>match r with
        | none=>False
        | some v=>wpAny (model prog w) A (letOwnedTupleGo tgt it v) (fun _ s₂=>Q v s₂) E s₁) E s
def SelfIt (it:Value) (N:Led):Prop:=∀ (A:Around) (s:Shared) (Q:Value→Shared→Prop) (E:Value→Shared→Prop),(∀ p ∈ N,s.heap.get? p.1=some p.2)→Q it s→wpAny (model prog w) A (pyIter it) Q E s
def EvIter (k:Nat) (sc:Scope) (fn:Bool) (Γ:Ctx') (tgt e:Expr) (xs:List V):Prop :=
  ∀ fr P s F,fr.env.scope=sc→St prog w W fr fn Γ P s F→∀ (A:Around) (Q:Value→Shared→Prop) (E:Value→Shared→Prop),Room k A →
    (∀ it s' F' (N:Led),Grow W s s' F F'→(∀ p ∈ N,s'.heap.get? p.1=some p.2∧s.heap.objs.size≤p.1∧∀ q ∈ F'.obs,q.1≠p.1)→Iter prog w W k tgt it xs F' N→SelfIt prog w it N→Q it s') →
      wpAny (model prog w) A (eval e fr.env) (fun v s₁=>wpAny (model prog w) A (pyIter v) Q E s₁) E s
def Asg (k:Nat) (sc:Scope) (fn:Bool) (Γ:Ctx') (tgt:Expr) (x:V) (Γ':Ctx'):Prop :=
  ∀ fr P s F v,fr.env.scope=sc→St prog w W fr fn Γ P s F→x.is prog w F v→∀ (A:Around) (Q:Unit→Shared→Prop) (E:Value→Shared→Prop),Room k A →
    (∀ s' F',St prog w W fr fn Γ' P s' F'→F.le F'→Q () s')→wpAny (model prog w) A (assign tgt fr.env v) Q E s
end
section
variable {prog:Program} {w:World} {W:Wd} {k:Nat} {sc:Scope} {fn:Bool} {Γ Γ' Γ'':Ctx'}
theorem asg_name {y:Str} {pos:Pos} {x:V} (hk:sc.names.lookup y=some .local ∨ (sc.names.lookup y=some .cell∧fn=true)):Asg prog w W k sc fn Γ (.Name y pos) x ((y,.val x) :: Γ) :=
  fun fr P s F v hsc st hv A Q E rm q=>wpAny_assign_Name (st.storeV hv (by rw [← hsc] at hk; exact hk) fun s' st'=>q s' F st' .rfl)
theorem ex_nil:Ex prog w W k sc fn Γ [] (.next Γ):=fun fr P s F hsc st A Q E rm q=>wpAny_execs_nil (q _ _ _ ⟨rfl,st⟩ .rfl)
theorem ex_seq {st:Stmt} {rest:List Stmt} {o:Out} (h:Ex1 prog w W k sc fn Γ st (.next Γ')) (hr:Ex prog w W k sc fn Γ' rest o):Ex prog w W k sc fn Γ (st :: rest) o :=
  fun fr P s F hsc x A Q E rm q=>wpAny_execs_cons (h fr P s F hsc x A _ E rm fun fl s' F' ho hF=>by
    obtain ⟨rfl,x'⟩:=ho
    exact hr fr P s' F' hsc x' A Q E rm fun fl s'' F'' ho' hF'=>q fl s'' F'' ho' (hF.trans hF'))
theorem ex_stop {st:Stmt} {rest:List Stmt} {x:V} (h:Ex1 prog w W k sc fn Γ st (.ret x)):Ex prog w W k sc fn Γ (st :: rest) (.ret x) :=
  fun fr P s F hsc y A Q E rm q=>wpAny_execs_cons (h fr P s F hsc y A _ E rm fun fl s' F' ho hF=>by
    obtain ⟨v,rfl,h1⟩:=ho
    exact q _ s' F' ⟨v,rfl,h1⟩ hF)
theorem ex_out {ss:List Stmt} (h:Ex prog w W k sc fn Γ ss (.next Γ')) (hw:∀ y b,Γ''.lookup y=some b→Γ'.lookup y=some b):Ex prog w W k sc fn Γ ss (.next Γ'') :=
  fun fr P s F hsc st A Q E rm q=>h fr P s F hsc st A Q E rm fun fl s' F' ho hF=>q fl s' F' ⟨ho.1,ho.2.weaken hw⟩ hF
theorem ex1_assign {y:Str} {pos pos':Pos} {e:Expr} {x:V} (he:Ev prog w W k sc fn Γ e x) (hk:sc.names.lookup y=some .local ∨ (sc.names.lookup y=some .cell∧fn=true))
    (hs:∀ env,env.scope=sc→swapsWith e (some (.Name y pos')) pos.line env=pure false:=by intro _ _; rfl):Ex1 prog w W k sc fn Γ (.Assign [.Name y pos'] e pos) (.next ((y,.val x) :: Γ)) :=
  fun fr P s F hsc st A Q E rm q=>wpAny_Assign_Name (he fr P s F hsc st A _ E rm fun v s₁ F₁ g₁ hv =>
    (st.step g₁).storeV hv (by rw [← hsc] at hk; exact hk) fun s' st'=>q _ s' F₁ ⟨rfl,st'⟩ g₁.sub) (hs _ hsc)
theorem ex1_return {pos:Pos} {e:Expr} {x:V} (he:Ev prog w W k sc fn Γ e x):Ex1 prog w W k sc fn Γ (.Return (some e) pos) (.ret x) :=
  fun fr P s F hsc st A Q E rm q=>wpAny_Return_some (he fr P s F hsc st A _ E rm fun v s₁ F₁ g₁ hv=>q _ s₁ F₁ ⟨v,rfl,hv,(st.step g₁).weaken fun y b h=>by cases h⟩ g₁.sub)
theorem ex1_if {t:Expr} {body orelse:List Stmt} {pos:Pos} {b:Bool} {o:Out} (ht:EvB prog w W k sc fn Γ t b) (h1:b=true→Ex prog w W k sc fn Γ body o) (h2:b=false→Ex prog w W k sc fn Γ orelse o) :
    Ex1 prog w W k sc fn Γ (.If t body orelse pos) o :=
  fun fr P s F hsc st A Q E rm q=>wpAny_If (ht fr P s F hsc st A _ E rm fun s₁ F₁ g₁=>by
    cases b with
    | true=>exact h1 rfl fr P s₁ F₁ hsc (st.step g₁) A Q E rm fun fl s' F' ho hF=>q fl s' F' ho (g₁.sub.trans hF)
    | false=>exact h2 rfl fr P s₁ F₁ hsc (st.step g₁) A Q E rm fun fl s' F' ho hF=>q fl s' F' ho (g₁.sub.trans hF))
section
variable (prog w W)
def Turn (k:Nat) (sc:Scope) (fn:Bool) (Γ:Ctx') (tgt:Expr) (x:V) (body:List Stmt) (o:Out):Prop :=
  ∃ Γ₁,Asg prog w W k sc fn Γ tgt x Γ₁∧Ex prog w W k sc fn Γ₁ body o
end
theorem Held.of_st {fr:Frm} {P N:Led} {s:Shared} {F:Fz} (x:St prog w W fr fn Γ (N ++ P) s F) (hn:∀ p ∈ N,fr.sb.heap.objs.size≤p.1):Held W N s F :=
  ⟨fun p hp=>(x.prv p (List.mem_append_left _ hp)).1,fun p hp=>(x.prv p (List.mem_append_left _ hp)).2.1,
    fun p hp=>get_new_none (Nat.le_trans x.bsize (hn p hp)),fun p hp=>(x.prv p (List.mem_append_left _ hp)).2.2⟩
theorem for_core {tgt iter:Expr} {body orelse:List Stmt} {pos:Pos} {xs:List V} {Γs:Nat→Ctx'} {n:Nat} (hit:EvIter prog w W k sc fn Γ tgt iter xs)
    (h0:∀ y b,(Γs 0).lookup y=some b→Γ.lookup y=some b) (turn:∀ i x,i < n→xs[i]?=some x→Turn prog w W k sc fn (Γs i) tgt x body (.next (Γs (i + 1))))
    {fr:Frm} {P:Led} {s:Shared} {F:Fz} {A:Around} {Q:Flow→Shared→Prop} {E:Value→Shared→Prop} (hsc:fr.env.scope=sc) (st:St prog w W fr fn Γ P s F) (rm:Room k A)
    (last:(n=xs.length∧∀ s' F',F.le F'→St prog w W fr fn (Γs n) P s' F'→wpAny (model prog w) A (execs orelse fr.env) (fun fl s''=>Q fl s'') (notedBy (model prog w) A fr.env fun e s'=>cameBackBy (model prog w) A fr.env E e s') s') ∨
      ∃ x r,xs[n]?=some x∧(∀ fl s' F',Out.ok prog w W fr fn P fl s' F' (.ret r)→F.le F'→Q fl s')∧Turn prog w W k sc fn (Γs n) tgt x body (.ret r))
    (hs:∀ env x,foldedSetIterable iter env x=pure x:=by intro _ _; rfl):wpAny (model prog w) A (exec (.For tgt iter body orelse pos) fr.env) Q E s:=by
  refine wpAny_For ?_ (hs _)
  refine hit fr P s F hsc st A _ E rm ?_
  intro it s₂ F₂ N g hN hI _
  refine codeAny_forLoop_any (fun m s'=>∃ i N' F',m=xs.length + 1 - i∧i≤n∧i≤xs.length∧F.le F'∧St prog w W fr fn (Γs i) (N' ++ P) s' F'∧(∀ p ∈ N',fr.sb.heap.objs.size≤p.1)∧(∀ p ∈ P,∀ q ∈ N',q.1≠p.1)∧Iter prog w W k tgt it (xs.drop i) F' N')
    ?_ (xs.length + 1) ⟨0,N,F₂,rfl,Nat.zero_le _,Nat.zero_le _,g.sub,(st.weaken h0).frame g hN,fun p hp=>Nat.le_trans st.grow.size (hN p hp).2.1,
      fun p hp r hr e=>absurd (Heap.lt_size (st.prv p hp).1) (Nat.not_lt.mpr (e ▸ (hN r hr).2.1)),by simpa using hI⟩
  rintro m s' ⟨i,N',F',rfl,hin,hil,hF,st',hnew,hPN,hI'⟩
  have held:=Held.of_st st' hnew
  by_cases hi:i < xs.length
  · rw [List.drop_eq_getElem_cons hi] at hI'
    have hx:xs[i]?=some xs[i]:=List.getElem?_eq_getElem hi
    refine wpAny_mono (hI' s' F' A (fun v s₂=>wpAny (model prog w) A (assign tgt fr.env v) (fun _ s₂=>wpAny (model prog w) A (execs body fr.env) (fun f s₃=>match f with
            | .next | .cont=>∃ m,m < xs.length + 1 - i∧(∃ i N' F',m=xs.length + 1 - i∧i≤n∧i≤xs.length∧F.le F'∧St prog w W fr fn (Γs i) (N' ++ P) s₃ F'∧(∀ p ∈ N',fr.sb.heap.objs.size≤p.1)∧(∀ p ∈ P,∀ q ∈ N',q.1≠p.1)∧Iter prog w W k tgt it (xs.drop i) F' N')
            | .brk=>Q .next s₃
            | .ret v=>Q (.ret v) s₃) (notedBy (model prog w) A fr.env fun e s'=>cameBackBy (model prog w) A fr.env E e s') s₂) (notedBy (model prog w) A fr.env fun e s'=>cameBackBy (model prog w) A fr.env E e s') s₂) (notedBy (model prog w) A fr.env fun e s'=>cameBackBy (model prog w) A fr.env E e s') st'.base .rfl held rm ?_) (fun r s₁ h=>?_) fun _ _ h=>h
    · intro v s₃ F₃ N₃ g₃ hN₃ hin₃ hv hI₃
      have st₃:=st'.stepX g₃ (fun p hp=>hN₃ ▸ List.mem_map_of_mem hp) hin₃ hPN hnew
      have mem:∀ p ∈ N₃,∃ q ∈ N',q.1=p.1:=fun p hp=>let ⟨q,hq,e⟩:=List.mem_map.mp (hN₃ ▸ List.mem_map_of_mem hp:p.1 ∈ N'.map (·.1)); ⟨q,hq,e⟩
      have hnew₃:∀ p ∈ N₃,fr.sb.heap.objs.size≤p.1:=fun p hp=>let ⟨q,hq,e⟩:=mem p hp; e ▸ hnew q hq
      have hPN₃:∀ p ∈ P,∀ q ∈ N₃,q.1≠p.1:=fun p hp r hr=>let ⟨q,hq,e⟩:=mem r hr; e ▸ hPN p hp q hq
      by_cases hn:i < n
      · obtain ⟨Γ₁,ha,hb⟩:=turn i _ hn hx
        refine ha fr (N₃ ++ P) s₃ F₃ v hsc st₃ hv A _ _ rm fun s₄ F₄ st₄ hF₄=>?_
        refine hb fr (N₃ ++ P) s₄ F₄ hsc st₄ A _ _ rm fun fl s₅ F₅ ho hF₅=>?_
        obtain ⟨rfl,st₅⟩:=ho
        refine ⟨xs.length + 1 - (i + 1),by omega,i + 1,N₃,F₅,rfl,hn,hi,((hF.trans g₃.sub).trans hF₄).trans hF₅,st₅,hnew₃,hPN₃,?_⟩
        cases hd:xs.drop (i + 1) with
        | nil =>
          rw [hd] at hI₃
          intro s F₁ A Q E b hle hh r q
          exact hI₃ s F₁ A Q E b ((hF₄.trans hF₅).trans hle) hh r q
        | cons x r =>
          rw [hd] at hI₃
          intro s F₁ A Q E b hle hh r q
          exact hI₃ s F₁ A Q E b ((hF₄.trans hF₅).trans hle) hh r q
      · have hni:i=n:=by omega
        subst hni
        rcases last with ⟨e,_⟩ | ⟨x,r,hx',q,Γ₁,ha,hb⟩
        · omega
        · rw [hx] at hx'; cases hx'
          refine ha fr (N₃ ++ P) s₃ F₃ v hsc st₃ hv A _ _ rm fun s₄ F₄ st₄ hF₄=>?_
          refine hb fr (N₃ ++ P) s₄ F₄ hsc st₄ A _ _ rm fun fl s₅ F₅ ho hF₅=>?_
          obtain ⟨u,rfl,hu,st₅⟩:=ho
          exact q _ s₅ F₅ ⟨u,rfl,hu,st₅.unframe⟩ (((hF.trans g₃.sub).trans hF₄).trans hF₅)
    · cases r with
      | none=>exact h.elim
      | some v=>exact h
  · have hie:i=xs.length:=by omega
    have hd:xs.drop i=[]:=List.drop_eq_nil_of_le (by omega)
    rw [hd] at hI'
    refine hI' s' F' A _ _ st'.base .rfl held rm fun s₃ F₃ g₃=>?_
    have st₃:St prog w W fr fn (Γs i) P s₃ F₃:=st'.stepX (N':=[]) g₃ (fun _ h=>nomatch h) (fun _ h=>nomatch h) hPN hnew
    rcases last with ⟨e,q⟩ | ⟨x,r,hx',_⟩
    · have:i=n:=by omega
      subst this
      exact q s₃ F₃ (hF.trans g₃.sub) st₃
    · have:=(List.getElem?_eq_some_iff.mp hx').1
      omega
theorem for_else {tgt iter:Expr} {body orelse:List Stmt} {pos:Pos} {xs:List V} {Γs:Nat→Ctx'} {n:Nat} {o:Out} (hit:EvIter prog w W k sc fn Γ tgt iter xs)
    (h0:∀ y b,(Γs 0).lookup y=some b→Γ.lookup y=some b) (turn:∀ i x,i < n→xs[i]?=some x→Turn prog w W k sc fn (Γs i) tgt x body (.next (Γs (i + 1))))
    (last:(n=xs.length∧Ex prog w W k sc fn (Γs n) orelse o) ∨ ∃ x r,xs[n]?=some x∧o=.ret r∧Turn prog w W k sc fn (Γs n) tgt x body (.ret r))
    (hs:∀ env x,foldedSetIterable iter env x=pure x:=by intro _ _; rfl):Ex1 prog w W k sc fn Γ (.For tgt iter body orelse pos) o:=fun fr P s F hsc st A Q E rm q=>by
  refine for_core hit h0 turn hsc st rm ?_ hs
  rcases last with ⟨e,h⟩ | ⟨x,r,hx,rfl,h⟩
  · exact .inl ⟨e,fun s' F' hF st'=>h fr P s' F' hsc st' A _ _ rm fun fl s'' F'' ho hF'=>q fl s'' F'' ho (hF.trans hF')⟩
  · exact .inr ⟨x,r,hx,q,h⟩
theorem for_loop {tgt iter:Expr} {body:List Stmt} {pos:Pos} {xs:List V} {Γs:Nat→Ctx'} {n:Nat} {o:Out} (hit:EvIter prog w W k sc fn Γ tgt iter xs)
    (h0:∀ y b,(Γs 0).lookup y=some b→Γ.lookup y=some b) (turn:∀ i x,i < n→xs[i]?=some x→Turn prog w W k sc fn (Γs i) tgt x body (.next (Γs (i + 1))))
    (last:(n=xs.length∧o=.next (Γs n)) ∨ ∃ x r,xs[n]?=some x∧o=.ret r∧Turn prog w W k sc fn (Γs n) tgt x body (.ret r))
    (hs:∀ env x,foldedSetIterable iter env x=pure x:=by intro _ _; rfl):Ex1 prog w W k sc fn Γ (.For tgt iter body [] pos) o :=
  for_else hit h0 turn (last.elim (fun h=>.inl ⟨h.1,by rw [h.2]; exact ex_nil⟩) .inr) hs
end
end Mine
namespace Mine
abbrev hz (s:Shared):Nat:=s.heap.objs.size
theorem runs_hz {M:Model} {Γ:PySem.Ctx} {p:Pos} {t:Sem Fin} {fs:List Frame} {s s':Shared} {e:End} (h:Runs M Γ p t fs s e s'):hz s≤hz s':=by
  induction h <;> (try simp only [Shared.setGen,hz,Heap.size_push,Heap.size_after_update] at *) <;> omega
theorem wakes_hz {M:Model} {Γ:PySem.Ctx} {p:Pos} {g:Nat} {r:Resume} {s s':Shared} {res:GenResult} (h:Wakes M Γ p g r s res s'):hz s≤hz s':=by
  unfold Wakes at h
  split at h
  · exact h.elim
  · split at h
    · obtain ⟨e₁,s₁,hr,_,_,rfl⟩:=h; have:=runs_hz hr; simpa [Shared.setGen,hz] using this
    · rw [h.2]; exact Nat.le_refl _
    · rw [h.2]; exact Nat.le_refl _
  · obtain ⟨e₁,s₁,hr,_,_,rfl⟩:=h; have:=runs_hz hr; simpa [Shared.setGen,hz] using this
  · rw [h.2]; exact Nat.le_refl _
  · rw [h.2]; exact Nat.le_refl _
theorem wp_hz {α:Type} (M:Model) (Γ:PySem.Ctx) (n:Nat) (t:Sem α):∀ (Q:α→Pos→Shared→Prop) (E:Value→Pos→Shared→Prop) (p:Pos) (s:Shared),n≤hz s→Sem.wp M Γ t Q E p s →
    Sem.wp M Γ t (fun a p' s'=>n≤hz s'∧Q a p' s') (fun e p' s'=>n≤hz s'∧E e p' s') p s:=by
  induction t with
  | pure a=>exact fun Q E p s hn h=>⟨hn,h⟩
  | raise e=>exact fun Q E p s hn h=>⟨hn,h⟩
  | unsupported _=>exact fun _ _ _ _ _ h=>h
  | finish _=>exact fun _ _ _ _ _ h=>h
  | register _ _=>exact fun _ _ _ _ _ h=>h
  | yield _ _ _ _=>exact fun _ _ _ _ _ h=>h
  | fork _ _=>exact fun _ _ _ _ _ h=>h
  | await _ _ _ _ _=>exact fun _ _ _ _ _ h=>h
  | rule _ k ih=>exact fun Q E p s hn h=>ih () Q E p s hn h
  | «at» p' k ih=>exact fun Q E p s hn h=>ih () Q E p' s hn h
  | load a _ k ih=>exact fun Q E p s hn ⟨o,ho,h⟩=>⟨o,ho,ih o Q E p s hn h⟩
  | update a _ f k ih=>exact fun Q E p s hn h=>⟨h.1,ih () Q E p _ (by simpa [hz] using hn) h.2⟩
  | loadIfAlive a k ih=>exact fun Q E p s hn h=>ih _ Q E p s hn h
  | point _ k ih=>exact fun Q E p s hn h=>ih () Q E p s hn h
  | alloc o k ih=>exact fun Q E p s hn h=>ih _ Q E p _ (by simp only [hz,Heap.size_push] at *; omega) h
  | fresh k ih=>exact fun Q E p s hn h=>ih _ Q E p _ hn h
  | ask k ih=>exact fun Q E p s hn h=>ih _ Q E p s hn h
  | choose src m k ih=>exact fun Q E p s hn h=>⟨h.1,ih _ Q E p _ hn h.2⟩
  | os q _ k ih=>exact fun Q E p s hn h=>ih _ Q E p _ hn h
  | call c hd _ _ k ih=>exact fun Q E p s hn ⟨r,s',hr,h⟩=>⟨r,s',hr,ih r Q E p s' (Nat.le_trans hn (runs_hz hr)) h⟩
  | handled own k ih=>exact fun Q E p s hn h=>ih _ Q E p s hn h
  | genState g k ih=>exact fun Q E p s hn ⟨st,hs,h⟩=>⟨st,hs,ih _ Q E p s hn h⟩
  | newGen c k ih=>exact fun Q E p s hn h=>ih _ Q E p _ hn h
  | resume g r _ k ih=>exact fun Q E p s hn ⟨res,s',hw,h⟩=>⟨res,s',hw,ih res Q E p s' (Nat.le_trans hn (wakes_hz hw)) h⟩
  | stack k ih=>exact fun Q E p s hn h=>ih _ Q E p s hn h
  | thread k ih=>exact fun Q E p s hn h=>ih _ Q E p s hn h
theorem any_hz {α:Type} {M:Model} {A:Around} {s:Shared} {t:Sem α} {Q:α→Shared→Prop} {E:Value→Shared→Prop}
    (h:wpAny M A t (fun a s'=>hz s≤hz s'→s.toks≤s'.toks→Q a s') (fun e s'=>hz s≤hz s'→s.toks≤s'.toks→E e s') s):wpAny M A t Q E s :=
  wpAny_with_toks (Nat.le_refl _) (fun Γ p hΓ =>
    Sem.wp_mono M Γ t (post:=fun a _ s'=>hz s≤hz s'∧(hz s≤hz s'→s.toks≤s'.toks→Q a s')) (exc:=fun a _ s'=>hz s≤hz s'∧(hz s≤hz s'→s.toks≤s'.toks→E a s'))
      (fun a p' s' x=>x.2 x.1) (fun a p' s' x=>x.2 x.1) p s (wp_hz M Γ (hz s) t _ _ p s (Nat.le_refl _) (h Γ p hΓ)))
end Mine
namespace Mine
variable {prog:Program} {w:World} {W:Wd} {k:Nat} {sc:Scope} {fn:Bool} {Γ Γ':Ctx'}
theorem isList_of {F:Fz} {s:Shared} (b:Base W s F) {l n:Nat} {vs:List Value} (h:(l,listOf vs.toArray n) ∈ F.obs):s.heap.IsList l vs.toArray:=⟨_,b.has _ h,rfl,_,rfl⟩
theorem isTuple_of {F:Fz} {s:Shared} (b:Base W s F) {l n:Nat} {vs:List Value} (h:(l,({ cls:=.type "tuple",data:=.seq vs.toArray n }:Obj)) ∈ F.obs):s.heap.IsTuple l vs.toArray:=⟨_,b.has _ h,rfl,_,rfl⟩
theorem GrowX.ext {s:Shared} {F:Fz} {h':Heap} {X:List Nat} (b:Base W s F) (hx:∀ c o,c ∉ X→s.heap.get? c=some o→h'.get? c=some o) (hF:∀ c ∈ X,∀ p ∈ F.obs,p.1≠c) (ha:∀ c ∈ X,¬ W.tab c)
    (hz':s.heap.objs.size≤h'.objs.size):GrowX W X s { s with heap:=h' } F F where
  keep:=fun c o _ hc e=>hx c o hc e
  has:=fun p hp=>hx _ _ (fun q=>hF _ q p hp rfl) (b.has p hp)
  sub:=.rfl
  new:=fun _ h=>.inl h
  tok:=b.tok
  toks:=Nat.le_refl _
  size:=hz'
  os:=rfl
  gens:=.rfl
  tabs:=b.tabs.keeps fun c o hc e=>hx c o (fun q=>ha c q hc) e
theorem end1 {s:Shared} {F:Fz} {h':Heap} {it:Nat} {o:Obj} (b:Base W s F) (held:Held W [(it,o)] s F) (he:Heap.ExtBut it s.heap h') (h1:s.heap.objs.size≤h'.objs.size) :
    GrowX W ([(it,o)].map (·.1)) s { s with heap:=h' } F F :=
  GrowX.ext b (fun c o hc=>he c o (by simpa using hc)) (fun c hc p hp=>by simp at hc; subst hc; exact held.off _ (.head _) p hp) (fun c hc=>by simp at hc; subst hc; exact held.tab _ (.head _)) h1
def nameTgt:Expr→Bool
  | .Name ..=>true
  | _=>false
theorem go_name {tgt:Expr} (h:nameTgt tgt=true) (it v:Value):letOwnedTupleGo tgt it v=pure ():=by
  cases tgt <;> first | rfl | cases h
theorem iter_list {tgt:Expr} (ht:nameTgt tgt=true) {l n it:Nat} {vs:List Value} {ds:List Dat} (hne:it≠l) :
    ∀ (r:List Dat) (i:Nat) (F:Fz) (o:Obj),ds.drop i=r→(l,listOf vs.toArray n) ∈ F.obs→Reps F vs ds→o.cls=.type "list_iterator"→o.data=.fields #[.ref l,.int i 0] →
      Iter prog w W k tgt (.ref it) (r.map V.dat) F [(it,o)]:=by
  intro r
  induction r with
  | nil =>
    intro i F o hr hl hv hc hd s F₁ A Q E b hF held rm q
    have hx:vs.toArray[i]?=none:=by
      have:=hv.length
      rw [List.drop_eq_nil_iff] at hr
      simp; omega
    refine any_hz (wpAny_pyNext_list_end rm.handled ⟨o,held.has _ (.head _),hc,hd⟩ (isList_of b (hF.obs _ hl)) hx fun h' he h1 h2=>?_)
    refine q _ F₁ (end1 b held he h1)
  | cons d r ih =>
    intro i F o hr hl hv hc hd s F₁ A Q E b hF held rm q
    have hd':ds[i]?=some d:=by
      have:=congrArg List.head? hr
      simpa [List.head?_drop] using this
    obtain ⟨v,hv1,hv2⟩:=hv.get hd'
    refine wpAny_pyNext_list_item ⟨o,held.has _ (.head _),hc,hd⟩ (isList_of b (hF.obs _ hl)) (x:=v) (by simpa using hv1) fun h' hit hs=>?_
    refine wpAny_of_eq (go_name ht _ _) ?_
    obtain ⟨o',ho',hc',hd''⟩:=hit
    have g:=GrowX.same (t:=s.toks) b hs (held.off _ (.head _)) (held.tab _ (.head _)) (Nat.le_refl _)
    refine q v _ F₁ [(it,o')] g rfl (fun p hp=>by cases List.mem_singleton.mp hp; exact ho') (hv2.mono hF) ?_
    exact ih (i + 1) F₁ o' (by rw [← List.drop_drop,hr]; rfl) (hF.obs _ hl) (hv.mono hF) hc' hd''
theorem eit_list {tgt e:Expr} {ds:List Dat} (he:Ev prog w W k sc fn Γ e (.dat (.list ds))) (ht:nameTgt tgt=true):EvIter prog w W k sc fn Γ tgt e (ds.map V.dat):=fun fr P s F hsc st A Q E rm q =>
  he fr P s F hsc st A _ E rm fun v s₁ F₁ g₁ hv=>by
    cases hv with
    | list hm hr =>
      have b:=(st.step g₁).base
      have hlt:=Heap.lt_size (b.has _ hm)
      refine wpAny_pyIter_list (isList_of b hm) (q _ _ F₁ [(s₁.heap.objs.size,_)] (g₁.trans (Grow.pushed b _ (Nat.le_refl _))) (fun p hp=>?_) (iter_list ht (Nat.ne_of_gt hlt) ds 0 F₁ { cls:=.type "list_iterator",data:=.fields #[.ref _,.int 0 0] } rfl hm hr rfl rfl) (fun _ _ _ _ h hq=>wpAny_pyIter_listiter (i:=0) ⟨_,h _ (.head _),rfl,rfl⟩ hq))
      cases List.mem_singleton.mp hp
      exact ⟨Heap.get?_push_size _ rfl,g₁.size,fun r hr e=>absurd (Heap.lt_size (b.has r hr)) (by rw [e]; exact Nat.lt_irrefl _)⟩
theorem iter_tuple {tgt:Expr} (ht:nameTgt tgt=true) {l n it:Nat} {vs:List Value} {ds:List Dat} (hne:it≠l) :
    ∀ (r:List Dat) (i:Nat) (F:Fz) (o:Obj),ds.drop i=r→(l,({ cls:=.type "tuple",data:=.seq vs.toArray n }:Obj)) ∈ F.obs→Reps F vs ds→o.cls=.type "tuple_iterator"→o.data=.fields #[.ref l,.int i 0] →
      Iter prog w W k tgt (.ref it) (r.map V.dat) F [(it,o)]:=by
  intro r
  induction r with
  | nil =>
    intro i F o hr hl hv hc hd s F₁ A Q E b hF held rm q
    have hx:vs.toArray[i]?=none:=by
      have:=hv.length
      rw [List.drop_eq_nil_iff] at hr
      simp; omega
    refine any_hz (wpAny_pyNext_tuple_end rm.handled ⟨o,held.has _ (.head _),hc,hd⟩ (isTuple_of b (hF.obs _ hl)) hx fun h' he h1 h2=>?_)
    refine q _ F₁ (end1 b held he h1)
  | cons d r ih =>
    intro i F o hr hl hv hc hd s F₁ A Q E b hF held rm q
    have hd':ds[i]?=some d:=by
      have:=congrArg List.head? hr
      simpa [List.head?_drop] using this
    obtain ⟨v,hv1,hv2⟩:=hv.get hd'
    refine wpAny_pyNext_tuple_item ⟨o,held.has _ (.head _),hc,hd⟩ (isTuple_of b (hF.obs _ hl)) (x:=v) (by simpa using hv1) fun h' hit hs=>?_
    refine wpAny_of_eq (go_name ht _ _) ?_
    obtain ⟨o',ho',hc',hd''⟩:=hit
    have g:=GrowX.same (t:=s.toks) b hs (held.off _ (.head _)) (held.tab _ (.head _)) (Nat.le_refl _)
    refine q v _ F₁ [(it,o')] g rfl (fun p hp=>by cases List.mem_singleton.mp hp; exact ho') (hv2.mono hF) ?_
    exact ih (i + 1) F₁ o' (by rw [← List.drop_drop,hr]; rfl) (hF.obs _ hl) (hv.mono hF) hc' hd''
theorem eit_tuple {tgt e:Expr} {ds:List Dat} (he:Ev prog w W k sc fn Γ e (.dat (.tuple ds))) (ht:nameTgt tgt=true):EvIter prog w W k sc fn Γ tgt e (ds.map V.dat):=fun fr P s F hsc st A Q E rm q =>
  he fr P s F hsc st A _ E rm fun v s₁ F₁ g₁ hv=>by
    cases hv with
    | tuple hm hr =>
      have b:=(st.step g₁).base
      have hlt:=Heap.lt_size (b.has _ hm)
      refine wpAny_pyIter_tuple (isTuple_of b hm) (q _ _ F₁ [(s₁.heap.objs.size,_)] (g₁.trans (Grow.pushed b _ (Nat.le_refl _))) (fun p hp=>?_) (iter_tuple ht (Nat.ne_of_gt hlt) ds 0 F₁ { cls:=.type "tuple_iterator",data:=.fields #[.ref _,.int 0 0] } rfl hm hr rfl rfl) (fun _ _ _ _ h hq=>wpAny_pyIter_tupleiter (i:=0) ⟨_,h _ (.head _),rfl,rfl⟩ hq))
      cases List.mem_singleton.mp hp
      exact ⟨Heap.get?_push_size _ rfl,g₁.size,fun r hr e=>absurd (Heap.lt_size (b.has r hr)) (by rw [e]; exact Nat.lt_irrefl _)⟩
def chr1 (c:Nat):Dat:=.str ⟨#[c]⟩
theorem iter_str {tgt:Expr} (ht:nameTgt tgt=true) {it:Nat} {x:Str} {t:Nat} :
    ∀ (r:List Nat) (i:Nat) (F:Fz) (o:Obj),x.cps.toList.drop i=r→o.cls=.type "str_ascii_iterator"→o.data=.fields #[.str x t,.int i 0] →
      Iter prog w W k tgt (.ref it) (r.map fun c=>V.dat (chr1 c)) F [(it,o)]:=by
  intro r
  induction r with
  | nil =>
    intro i F o hr hc hd s F₁ A Q E b hF held rm q
    have hx:x.cps[i]?=none:=by
      rw [List.drop_eq_nil_iff] at hr
      simp at hr ⊢; omega
    refine any_hz (wpAny_pyNext_ascii_end rm.handled ⟨o,held.has _ (.head _),hc,hd⟩ hx fun h' he h1 h2=>?_)
    refine q _ F₁ (end1 b held he h1)
  | cons d r ih =>
    intro i F o hr hc hd s F₁ A Q E b hF held rm q
    have hd':x.cps[i]?=some d:=by
      have:=congrArg List.head? hr
      simpa [List.head?_drop] using this
    refine wpAny_pyNext_ascii_item ⟨o,held.has _ (.head _),hc,hd⟩ hd' fun h' hit hs=>?_
    refine wpAny_of_eq (go_name ht _ _) ?_
    obtain ⟨o',ho',hc',hd''⟩:=hit
    have g:=(GrowX.same (t:=s.toks) b hs (held.off _ (.head _)) (held.tab _ (.head _)) (Nat.le_refl _)).tk (chr1 d)
    refine q _ _ _ [(it,o')] g rfl (fun p hp=>by cases List.mem_singleton.mp hp; exact ho') Rep.tk_str ?_
    exact ih (i + 1) _ o' (by rw [← List.drop_drop,hr]; rfl) hc' hd''
theorem eit_str {tgt e:Expr} {x:Str} (he:Ev prog w W k sc fn Γ e (.dat (.str x))) (ht:nameTgt tgt=true) (ha:x.cps.all (· < 128)=true):EvIter prog w W k sc fn Γ tgt e (x.cps.toList.map fun c=>V.dat (chr1 c)):=fun fr P s F hsc st A Q E rm q =>
  he fr P s F hsc st A _ E rm fun v s₁ F₁ g₁ hv=>by
    cases hv with
    | str hm =>
      rename_i t₀
      have b:=(st.step g₁).base
      refine wpAny_pyIter_ascii ha (q _ _ F₁ [(s₁.heap.objs.size,_)] (g₁.trans (Grow.pushed b _ (Nat.le_refl _))) (fun p hp=>?_) (iter_str ht x.cps.toList 0 F₁ { cls:=.type "str_ascii_iterator",data:=.fields #[.str x t₀,.int 0 0] } rfl rfl rfl) (fun _ _ _ _ h hq=>wpAny_pyIter_striter_ascii (i:=0) ⟨_,h _ (.head _),rfl,rfl⟩ hq))
      cases List.mem_singleton.mp hp
      exact ⟨Heap.get?_push_size _ rfl,g₁.size,fun r hr e=>absurd (Heap.lt_size (b.has r hr)) (by rw [e]; exact Nat.lt_irrefl _)⟩
theorem iter_bytes {tgt:Expr} (ht:nameTgt tgt=true) {it:Nat} {x:Array UInt8} {t:Nat} :
    ∀ (r:List UInt8) (i:Nat) (F:Fz) (o:Obj),x.toList.drop i=r→o.cls=.type "bytes_iterator"→o.data=.fields #[.bytes x t,.int i 0] →
      Iter prog w W k tgt (.ref it) (r.map fun c=>V.dat (.int (c.toNat:Int))) F [(it,o)]:=by
  intro r
  induction r with
  | nil =>
    intro i F o hr hc hd s F₁ A Q E b hF held rm q
    have hx:x[i]?=none:=by
      rw [List.drop_eq_nil_iff] at hr
      simp at hr ⊢; omega
    refine any_hz (KBw.next_end rm.handled ⟨o,held.has _ (.head _),hc,hd⟩ hx fun h' he h1 h2=>?_)
    exact q _ F₁ (end1 b held he h1)
  | cons d r ih =>
    intro i F o hr hc hd s F₁ A Q E b hF held rm q
    have hd':x[i]?=some d:=by
      have:=congrArg List.head? hr
      simpa [List.head?_drop] using this
    refine KBw.next_item ⟨o,held.has _ (.head _),hc,hd⟩ hd' fun h' hit hs=>?_
    refine wpAny_of_eq (go_name ht _ _) ?_
    obtain ⟨o',ho',hc',hd''⟩:=hit
    have g:=(GrowX.same (t:=s.toks) b hs (held.off _ (.head _)) (held.tab _ (.head _)) (Nat.le_refl _)).tk (.int (d.toNat:Int))
    refine q _ _ _ [(it,o')] g rfl (fun p hp=>by cases List.mem_singleton.mp hp; exact ho') Rep.tk_int ?_
    exact ih (i + 1) _ o' (by rw [← List.drop_drop,hr]; rfl) hc' hd''
theorem eit_bytes {tgt e:Expr} {x:Array UInt8} (he:Ev prog w W k sc fn Γ e (.dat (.bytes x))) (ht:nameTgt tgt=true):EvIter prog w W k sc fn Γ tgt e (x.toList.map fun c=>V.dat (.int (c.toNat:Int))):=fun fr P s F hsc st A Q E rm q =>
  he fr P s F hsc st A _ E rm fun v s₁ F₁ g₁ hv=>by
    cases hv with
    | bytes =>
      rename_i t₀
      have b:=(st.step g₁).base
      refine KBw.pyIter_bytes (q _ _ F₁ [(s₁.heap.objs.size,_)] (g₁.trans (Grow.pushed b _ (Nat.le_refl _))) (fun p hp=>?_) (iter_bytes ht x.toList 0 F₁ { cls:=.type "bytes_iterator",data:=.fields #[.bytes x t₀,.int 0 0] } rfl rfl rfl) (fun _ _ _ _ h hq=>KBw.pyIter_self (i:=0) ⟨_,h _ (.head _),rfl,rfl⟩ hq))
      cases List.mem_singleton.mp hp
      exact ⟨Heap.get?_push_size _ rfl,g₁.size,fun r hr e=>absurd (Heap.lt_size (b.has r hr)) (by rw [e]; exact Nat.lt_irrefl _)⟩
def stepFrom (a c:Int):Nat→List Int
  | 0=>[]
  | n + 1=>a :: stepFrom (a + c) c n
abbrev rIt (a c:Int) (n:Nat):Obj:={ cls:=.type "range_iterator",dict:=none,data:=.fields #[rawInt a,rawInt n,rawInt c],slots:=#[] }
theorem iter_range {tgt:Expr} (ht:nameTgt tgt=true) {it:Nat} {c:Int} :
    ∀ (n:Nat) (a:Int) (F:Fz),Iter prog w W k tgt (.ref it) ((stepFrom a c n).map fun i=>V.dat (.int i)) F [(it,rIt a c n)]:=by
  intro n
  induction n with
  | zero =>
    intro a F s F₁ A Q E b hF held rm q
    refine any_hz (wpAny_pyNext_range_end rm.handled (held.has _ (.head _)) (Int.le_refl _) fun h' he h1 h2=>?_)
    exact q _ F₁ (end1 b held he h1)
  | succ n ih =>
    intro a F s F₁ A Q E b hF held rm q
    refine wpAny_pyNext_range_item (held.has _ (.head _)) (by omega) fun h' hit hs=>?_
    refine wpAny_of_eq (go_name ht _ _) ?_
    have g:=(GrowX.same (t:=s.toks) b hs (held.off _ (.head _)) (held.tab _ (.head _)) (Nat.le_refl _)).tk (.int a)
    have e:((n + 1:Nat):Int) - 1=(n:Nat):=by omega
    rw [e] at hit
    exact q _ _ _ [(it,rIt (a + c) c n)] g rfl (fun p hp=>by cases List.mem_singleton.mp hp; exact hit) Rep.tk_int (ih (a + c) _)
theorem iterFrom_range {tgt:Expr} (ht:nameTgt tgt=true) {s:Shared} {F:Fz} (b:Base W s F) {r n:Nat} {a c d:Int} {t u v:Nat} (hr:IsRange s.heap r a c d t u v) (hs:Builtin.Range.small a c d=true)
    (hn:Builtin.Range.rangeSize a c d=(n:Int)) {A:Around} {Q:Value→Shared→Prop} {E:Value→Shared→Prop} (rm:Room k A)
    (q:∀ it s' F' (N:Led),Grow W s s' F F'→(∀ p ∈ N,s'.heap.get? p.1=some p.2∧s.heap.objs.size≤p.1∧∀ q ∈ F'.obs,q.1≠p.1)→Iter prog w W k tgt it ((stepFrom a d n).map fun i=>V.dat (.int i)) F' N→SelfIt prog w it N→Q it s') :
    wpAny (model prog w) A (pyIter (.ref r)) Q E s:=by
  refine wpAny_pyIter_range hr hs ?_
  rw [hn]
  refine q _ _ F [(s.heap.objs.size,rIt a d n)] (Grow.pushed b _ (Nat.le_refl _)) (fun p hp=>?_) (iter_range ht _ _ _) (fun _ _ _ _ h hq=>wpAny_pyIter_rangeiter (h _ (.head _)) hq)
  cases List.mem_singleton.mp hp
  exact ⟨Heap.get?_push_size _ rfl,Nat.le_refl _,fun r hr e=>absurd (Heap.lt_size (b.has r hr)) (by rw [e]; exact Nat.lt_irrefl _)⟩
theorem builtin_ctx {y:Str} {es:List Expr} {xs:List V} {p pos:Pos} {f:Value} {fr:Frm} {P:Led} {s:Shared} {F:Fz} {A:Around} {Q:Value→Shared→Prop} {E:Value→Shared→Prop}
    (hk:sc.names.lookup y=some .globalImplicit) (hg:W.mg y=none) (hb:bootBuiltins y=some f) (hn:y≠"__name__") (hbt:(∃ id,f=.builtin id) ∨ ∃ T,f=.type T)
    (ha:EvL prog w W k sc fn Γ es xs) (hs:∀ env,(starEach es env).any (·.1)=false) (hd:(y == ("__debug__":Str))=false) (hsc:fr.env.scope=sc) (st:St prog w W fr fn Γ P s F) (rm:Room k A)
    (q:∀ vs s' F',Grow W s s' F F'→VsIs prog w F' vs xs→wpAny (model prog w) A (PySem.call f vs) Q E s'):wpAny (model prog w) A (eval (.Call (.Name y p) es [] pos) fr.env) Q E s:=by
  have e:eval (.Call (.Name y p) es [] pos) fr.env=(do callWith pos (← eval (.Name y p) fr.env) [] (backTo pos (starEach es fr.env)) []):=rfl
  rw [e]
  refine wpAny_bind (name_builtin st (hsc ▸ hk) hg hb hn ?_ hd)
  have hplain:(backTo pos (starEach es fr.env)).any (·.1)=false:=by
    have:=hs fr.env
    unfold backTo
    rw [List.any_map]
    exact this
  have go:wpAny (model prog w) A (evalArgs f true (backTo pos (starEach es fr.env)) []) (fun a s₁=>wpAny (model prog w) A (call f ([] ++ a.pos) a.kw) Q E s₁) E s :=
    evalArgs_of ha hsc st rm hs fun vs s₂ F₂ g₂ hv=>q vs s₂ F₂ g₂ hv
  rcases hbt with ⟨id,rfl⟩ | ⟨T,rfl⟩
  · exact callWith_builtin hplain go
  · exact PyProof.Rows.callWith_type hplain go
structure BName (W:Wd) (sc:Scope) (y:Str) (f:Value):Prop where
  kind:sc.names.lookup y=some .globalImplicit
  glob:W.mg y=none
  boot:bootBuiltins y=some f
  nn:y≠"__name__"
  nd:(y == ("__debug__":Str))=false
  call:(∃ id,f=.builtin id) ∨ ∃ T,f=.type T
theorem rangeSize_nat (a c:Int):Builtin.Range.rangeSize a c 1=((c - a).toNat:Int):=by rw [rangeSize_one]; split <;> omega
theorem Held.more {N:Led} {s s':Shared} {F':Fz} (hN:∀ p ∈ N,s'.heap.get? p.1=some p.2∧s.heap.objs.size≤p.1∧∀ q ∈ F'.obs,q.1≠p.1) {n:Nat} (h:n≤s.heap.objs.size) :
    ∀ p ∈ N,s'.heap.get? p.1=some p.2∧n≤p.1∧∀ q ∈ F'.obs,q.1≠p.1:=fun p hp=>⟨(hN p hp).1,Nat.le_trans h (hN p hp).2.1,(hN p hp).2.2⟩
theorem star1 {e:Expr} (hs:∀ env,starEach [e] env=[(false,eval e env)]):∀ env,(starEach [e] env).any (·.1)=false:=fun env=>by rw [hs]; rfl
theorem eit_range1 {tgt e:Expr} {y:Str} {p pos:Pos} {n:Int} (hB:BName W sc y (.type "range"))
    (he:Ev prog w W k sc fn Γ e (.dat (.int n))) (ht:nameTgt tgt=true) (hn:n < 2 ^ 62:=by decide) (hn0:-(2 ^ 62)≤n:=by decide) (hs:∀ env,starEach [e] env=[(false,eval e env)]:=by intro _; rfl) :
    EvIter prog w W k sc fn Γ tgt (.Call (.Name y p) [e] [] pos) ((stepFrom 0 1 n.toNat).map fun i=>V.dat (.int i)):=fun fr P s F hsc st A Q E rm q=>by
  refine builtin_ctx hB.kind hB.glob hB.boot hB.nn hB.call (evl_cons he evl_nil (fun env=>by rw [hs]; rfl)) (star1 hs) hB.nd hsc st rm fun vs s₁ F₁ g₁ hv=>?_
  cases hv with
  | cons h1 hr =>
    cases hr
    cases h1 with
    | int hm =>
      rename_i t₀
      have b:=(st.step g₁).base
      refine call_range_1 ?_
      have g₂:Grow W s₁ { s₁ with heap:=s₁.heap.push { cls:=.type "range",data:=.fields #[.int 0 s₁.toks,.int n t₀,.int 1 (s₁.toks + 1)] },toks:=s₁.toks + 1 + 1 } F₁ F₁:=Grow.pushed b _ (by omega)
      refine iterFrom_range ht (b.grow g₂) (IsRange.new _ _ _ _ _ _ _) (small_one (by decide) (by decide) hn0 hn) (n:=n.toNat) (by rw [rangeSize_nat]; simp) rm fun it s' F' N g₃ hN hI hS=>?_
      exact q it s' F' N ((g₁.trans g₂).trans g₃) (Held.more hN (g₁.trans g₂).size) hI hS
theorem evl_two {e e':Expr} {x x':V} (he:Ev prog w W k sc fn Γ e x) (he':Ev prog w W k sc fn Γ e' x') (hs:∀ env,starEach [e,e'] env=[(false,eval e env),(false,eval e' env)]) (hs':∀ env,starEach [e'] env=[(false,eval e' env)]) :
    EvL prog w W k sc fn Γ [e,e'] [x,x']:=evl_cons he (evl_cons he' evl_nil (fun env=>by rw [hs']; rfl)) (fun env=>by rw [hs,hs'])
theorem eit_range2 {tgt e e':Expr} {y:Str} {p pos:Pos} {a n:Int} (hB:BName W sc y (.type "range"))
    (he:Ev prog w W k sc fn Γ e (.dat (.int a))) (he':Ev prog w W k sc fn Γ e' (.dat (.int n))) (ht:nameTgt tgt=true) (ha:a < 2 ^ 62:=by decide) (ha0:-(2 ^ 62)≤a:=by decide) (hn:n < 2 ^ 62:=by decide) (hn0:-(2 ^ 62)≤n:=by decide)
    (hs:∀ env,starEach [e,e'] env=[(false,eval e env),(false,eval e' env)]:=by intro _; rfl) (hs':∀ env,starEach [e'] env=[(false,eval e' env)]:=by intro _; rfl) :
    EvIter prog w W k sc fn Γ tgt (.Call (.Name y p) [e,e'] [] pos) ((stepFrom a 1 (n - a).toNat).map fun i=>V.dat (.int i)):=fun fr P s F hsc st A Q E rm q=>by
  refine builtin_ctx hB.kind hB.glob hB.boot hB.nn hB.call (evl_two he he' hs hs') (fun env=>by rw [hs]; rfl) hB.nd hsc st rm fun vs s₁ F₁ g₁ hv=>?_
  cases hv with
  | cons h1 hr =>
    cases hr with
    | cons h2 hr =>
      cases hr
      cases h1 with
      | int hm =>
        cases h2 with
        | int hm' =>
          rename_i t₀ t₁
          have b:=(st.step g₁).base
          refine call_range_2 ?_
          have g₂:=Grow.pushed b { cls:=.type "range",data:=.fields #[.int a t₀,.int n t₁,.int 1 s₁.toks] } (t:=s₁.toks + 1) (by omega)
          refine iterFrom_range ht (b.grow g₂) (IsRange.new _ _ _ _ _ _ _) (small_one ha0 ha hn0 hn) (rangeSize_nat _ _) rm fun it s' F' N g₃ hN hI hS=>?_
          exact q it s' F' N ((g₁.trans g₂).trans g₃) (Held.more hN (g₁.trans g₂).size) hI hS
def enumD (i:Nat):List Dat→List Dat
  | []=>[]
  | d :: r=>.tuple [.int i,d] :: enumD (i + 1) r
abbrev eObj (it:Nat) (i:Int) (old:Value):Obj:={ cls:=.type "enumerate",dict:=none,data:=.fields #[.none,.bool false,.ref it,rawInt i,.none,old],slots:=#[] }
theorem iter_enum {elts:List Expr} {x1:Nat} {tp:Pos} {e it l n:Nat} {vs:List Value} {ds:List Dat} (hei:e≠it) (hle:l≠e) (hli:l≠it) :
    ∀ (r:List Dat) (i:Nat) (F:Fz) (o:Obj) (old:Value),ds.drop i=r→(l,listOf vs.toArray n) ∈ F.obs→Reps F vs ds→o.cls=.type "list_iterator"→o.data=.fields #[.ref l,.int i 0] →
      Iter prog w W k (.Tuple elts x1 tp) (.ref e) ((enumD i r).map V.dat) F [(e,eObj it i old),(it,o)]:=by
  intro r
  induction r with
  | nil =>
    intro i F o old hr hl hv hc hd s F₁ A Q E b hF held rm q
    have hx:vs.toArray[i]?=none:=by
      have:=hv.length
      rw [List.drop_eq_nil_iff] at hr
      simp; omega
    have hi:=held.has _ (.tail _ (.head _))
    refine any_hz (wpAny_pyNext_enum_end rm.handled (held.has _ (.head _)) ⟨o,hi,hc,hd⟩ (isList_of b (hF.obs _ hl)) hx fun h' he h1 h2=>?_)
    refine q _ F₁ (GrowX.ext b (fun c o hc=>he c o (fun q=>hc (by simp [q]))) (fun c hc p hp=>?_) (fun c hc=>?_) h1)
    · simp at hc
      rcases hc with rfl | rfl
      · exact held.off _ (.head _) p hp
      · exact held.off _ (.tail _ (.head _)) p hp
    · simp at hc
      rcases hc with rfl | rfl
      · exact held.tab _ (.head _)
      · exact held.tab _ (.tail _ (.head _))
  | cons d r ih =>
    intro i F o old hr hl hv hc hd s F₁ A Q E b hF held rm q
    have hd':ds[i]?=some d:=by
      have:=congrArg List.head? hr
      simpa [List.head?_drop] using this
    obtain ⟨v,hv1,hv2⟩:=hv.get hd'
    have hi:=held.has _ (.tail _ (.head _))
    have he:=held.has _ (.head _)
    refine wpAny_pyNext_enum_item he ⟨o,hi,hc,hd⟩ (isList_of b (hF.obs _ hl)) (x:=v) (by simpa using hv1) hei fun h' h1 h2 h3 h4 h5=>?_
    refine wpAny_letOwnedTupleGo_enum h1 fun h'' h6 hs=>?_
    obtain ⟨o',ho',hc',hd''⟩:=h2
    have hlt:=Heap.lt_size he
    have T:=h3
    have hTe:s.heap.objs.size≠e:=Nat.ne_of_gt hlt
    have T':h''.get? s.heap.objs.size=some { cls:=.type "tuple",data:=.seq #[.int i s.toks,v] }:=(hs.2 _ hTe).trans h3
    have keep:∀ a o,a ∉ [(e,eObj it i old),(it,o)].map (·.1)→s.heap.get? a=some o→h''.get? a=some o:=fun a o ha q=>by
      simp at ha
      exact (hs.2 _ ha.1).trans (h5 _ _ ha.1 ha.2 q)
    let F₂:Fz:=(F₁.tk s.toks (.int i)).ob s.heap.objs.size { cls:=.type "tuple",data:=.seq [Value.int i s.toks,v].toArray }
    have hle2:F₁.le F₂:=(F₁.le_tk _ _).trans (Fz.le_ob _ _ _)
    have off:∀ p ∈ F₁.obs,p.1 ∉ [(e,eObj it i old),(it,o)].map (·.1):=fun p hp q=>by
      simp at q
      rcases q with q | q
      · exact held.off _ (.head _) p hp q
      · exact held.off _ (.tail _ (.head _)) p hp q
    have g:GrowX W ([(e,eObj it i old),(it,o)].map (·.1)) s { s with heap:=h'',toks:=s.toks + 1 } F₁ F₂:=by
      refine ⟨fun a o _ ha q=>keep a o ha q,fun p hp=>?_,hle2,fun p hp=>?_,b.tok.cons (Nat.le_refl _) (Nat.lt_succ_self _),Nat.le_succ _,?_,rfl,.rfl,?_⟩
      · rcases List.mem_cons.mp hp with rfl | hp
        · exact T'
        · exact keep _ _ (off p hp) (b.has p hp)
      · rcases List.mem_cons.mp hp with rfl | hp
        · exact .inr (Nat.le_refl _)
        · exact .inl hp
      · show _≤h''.objs.size; rw [hs.1,h4]; omega
      · refine (b.tabs.keeps fun a o ha q=>keep a o (fun m=>?_) q).mono hle2
        simp at m
        rcases m with rfl | rfl
        · exact held.tab _ (.head _) ha
        · exact held.tab _ (.tail _ (.head _)) ha
    refine q _ _ F₂ [(e,eObj it ((i:Int) + 1) v),(it,o')] g rfl (fun p hp=>?_) (.tuple (.head _) (.cons (.int (.head _)) (.cons (hv2.mono (hF.trans hle2)) .nil))) ?_
    · rcases List.mem_cons.mp hp with rfl | hp
      · exact h6
      · cases List.mem_singleton.mp hp
        exact (hs.2 _ (Ne.symm hei)).trans ho'
    · exact ih (i + 1) F₂ o' v (by rw [← List.drop_drop,hr]; rfl) ((hF.trans hle2).obs _ hl) (hv.mono (hF.trans hle2)) hc' hd''
theorem eit_enum {e:Expr} {elts:List Expr} {x1:Nat} {tp:Pos} {y:Str} {p pos:Pos} {ds:List Dat} (hB:BName W sc y (.type "enumerate"))
    (he:Ev prog w W k sc fn Γ e (.dat (.list ds))) (hs:∀ env,starEach [e] env=[(false,eval e env)]:=by intro _; rfl) :
    EvIter prog w W k sc fn Γ (.Tuple elts x1 tp) (.Call (.Name y p) [e] [] pos) ((enumD 0 ds).map V.dat):=fun fr P s F hsc st A Q E rm q=>by
  refine builtin_ctx hB.kind hB.glob hB.boot hB.nn hB.call (evl_cons he evl_nil (fun env=>by rw [hs]; rfl)) (star1 hs) hB.nd hsc st rm fun vs s₁ F₁ g₁ hv=>?_
  cases hv with
  | cons h1 hr =>
    cases hr
    cases h1 with
    | list hm hr =>
      have b:=(st.step g₁).base
      have hlt:=Heap.lt_size (b.has _ hm)
      refine call_enumerate_1 (b.has _ hm) fun h' h1 h2 h3 h4=>wpAny_pyIter_enum h1 ?_
      obtain ⟨o,ho,hc,hd⟩:=h2
      have g:Grow W s₁ { s₁ with heap:=h' } F₁ F₁:=Grow.of_keeps [] b h4 (fun _ h=>nomatch h) (by show _≤h'.objs.size; rw [h3]; omega) (Nat.le_refl _) rfl .rfl
      refine q _ _ F₁ [(s₁.heap.objs.size + 1,eObj s₁.heap.objs.size ((0:Nat):Int) .none),(s₁.heap.objs.size,o)] (g₁.trans g) (fun p hp=>?_) (iter_enum (by omega) (Nat.ne_of_lt (Nat.lt_succ_of_lt hlt)) (Nat.ne_of_lt hlt) ds 0 F₁ o .none rfl hm hr hc hd) (fun _ _ _ _ h hq=>wpAny_pyIter_enum (h _ (.head _)) hq)
      have off:∀ n,s₁.heap.objs.size≤n→∀ r ∈ F₁.obs,r.1≠n:=fun n hn r hr e=>absurd (Heap.lt_size (b.has r hr)) (by rw [e]; exact Nat.not_lt.mpr hn)
      rcases List.mem_cons.mp hp with rfl | hp
      · exact ⟨h1,Nat.le_succ_of_le g₁.size,off _ (Nat.le_succ _)⟩
      · cases List.mem_singleton.mp hp
        exact ⟨ho,g₁.size,off _ (Nat.le_refl _)⟩
end Mine
namespace Mine
variable {prog:Program} {w:World} {W:Wd} {k:Nat} {sc:Scope} {fn:Bool} {Γ Γ':Ctx'}
def zipD:List Dat→List Dat→List Dat
  | d :: r,d' :: r'=>.tuple [d,d'] :: zipD r r'
  | _,_=>[]
abbrev zObj (TI TO:Nat):Obj:={ cls:=.type "zip",dict:=none,data:=.fields #[.none,.bool false,.bool false,.ref TI,.ref TO],slots:=#[] }
abbrev pObj (a b:Value):Obj:={ cls:=.type "tuple",data:=.seq #[a,b] }
theorem iter_zip {elts:List Expr} {x1:Nat} {tp:Pos} {z TI TO i1 i2 l1 l2 n1 n2:Nat} {vs1 vs2:List Value} {ds1 ds2:List Dat} (D:ZipApart z TI TO i1 i2 l1 l2) :
    ∀ (r1 r2:List Dat) (j1 j2:Nat) (F:Fz) (o1 o2:Obj) (a b:Value),ds1.drop j1=r1→ds2.drop j2=r2→(l1,listOf vs1.toArray n1) ∈ F.obs→(l2,listOf vs2.toArray n2) ∈ F.obs→Reps F vs1 ds1→Reps F vs2 ds2 →
      o1.cls=.type "list_iterator"→o1.data=.fields #[.ref l1,.int j1 0]→o2.cls=.type "list_iterator"→o2.data=.fields #[.ref l2,.int j2 0] →
      Iter prog w W k (.Tuple elts x1 tp) (.ref z) ((zipD r1 r2).map V.dat) F [(z,zObj TI TO),(TO,pObj a b),(i1,o1),(i2,o2),(TI,pObj (.ref i1) (.ref i2))]:=by
  intro r1
  have fin:∀ (j1 j2:Nat) (F:Fz) (o1 o2:Obj) (a b:Value),((ds1.drop j1)=[] ∨ (ds2.drop j2)=[])→(l1,listOf vs1.toArray n1) ∈ F.obs→(l2,listOf vs2.toArray n2) ∈ F.obs→Reps F vs1 ds1→Reps F vs2 ds2 →
      o1.cls=.type "list_iterator"→o1.data=.fields #[.ref l1,.int j1 0]→o2.cls=.type "list_iterator"→o2.data=.fields #[.ref l2,.int j2 0] →
      Iter prog w W k (.Tuple elts x1 tp) (.ref z) [] F [(z,zObj TI TO),(TO,pObj a b),(i1,o1),(i2,o2),(TI,pObj (.ref i1) (.ref i2))]:=by
    intro j1 j2 F o1 o2 a b hend hl1 hl2 hv1 hv2 hc1 hd1 hc2 hd2 s F₁ A Q E bs hF held rm q
    have hx:vs1.toArray[j1]?=none ∨ vs2.toArray[j2]?=none:=by
      have e1:=hv1.length
      have e2:=hv2.length
      rcases hend with h | h <;> rw [List.drop_eq_nil_iff] at h
      · left; simp; omega
      · right; simp; omega
    have hz:=held.has _ (.head _)
    have hTO:=held.has _ (.tail _ (.head _))
    have h1:=held.has _ (.tail _ (.tail _ (.head _)))
    have h2:=held.has _ (.tail _ (.tail _ (.tail _ (.head _))))
    have hTI:=held.has _ (.tail _ (.tail _ (.tail _ (.tail _ (.head _)))))
    refine any_hz (wpAny_pyNext_zip_end rm.handled D hz hTI hTO ⟨o1,h1,hc1,hd1⟩ ⟨o2,h2,hc2,hd2⟩ (isList_of bs (hF.obs _ hl1)) (isList_of bs (hF.obs _ hl2)) hx fun h' hk g1 g2=>?_)
    refine q _ F₁ (GrowX.ext bs (fun c o hc=>?_) (fun c hc p hp=>?_) (fun c hc=>?_) g1)
    · simp at hc
      exact hk c o hc.1 hc.2.1 hc.2.2.1 hc.2.2.2.1
    · obtain ⟨u,hu,rfl⟩:=List.mem_map.mp hc
      exact held.off u hu p hp
    · obtain ⟨u,hu,rfl⟩:=List.mem_map.mp hc
      exact held.tab u hu
  induction r1 with
  | nil =>
    intro r2 j1 j2 F o1 o2 a b hr1 hr2 hl1 hl2 hv1 hv2 hc1 hd1 hc2 hd2
    exact fin j1 j2 F o1 o2 a b (.inl hr1) hl1 hl2 hv1 hv2 hc1 hd1 hc2 hd2
  | cons d r1 ih =>
    intro r2 j1 j2 F o1 o2 a b hr1 hr2 hl1 hl2 hv1 hv2 hc1 hd1 hc2 hd2
    cases r2 with
    | nil=>exact fin j1 j2 F o1 o2 a b (.inr hr2) hl1 hl2 hv1 hv2 hc1 hd1 hc2 hd2
    | cons d' r2 =>
      intro s F₁ A Q E bs hF held rm q
      have hd1':ds1[j1]?=some d:=by
        have:=congrArg List.head? hr1
        simpa [List.head?_drop] using this
      have hd2':ds2[j2]?=some d':=by
        have:=congrArg List.head? hr2
        simpa [List.head?_drop] using this
      obtain ⟨u,hu1,hu2⟩:=hv1.get hd1'
      obtain ⟨v,hw1,hw2⟩:=hv2.get hd2'
      have hz:=held.has _ (.head _)
      have hTO:=held.has _ (.tail _ (.head _))
      have h1:=held.has _ (.tail _ (.tail _ (.head _)))
      have h2:=held.has _ (.tail _ (.tail _ (.tail _ (.head _))))
      have hTI:=held.has _ (.tail _ (.tail _ (.tail _ (.tail _ (.head _)))))
      refine wpAny_pyNext_zip_item D hz hTI hTO ⟨o1,h1,hc1,hd1⟩ ⟨o2,h2,hc2,hd2⟩ (isList_of bs (hF.obs _ hl1)) (isList_of bs (hF.obs _ hl2)) (x:=u) (y:=v) (by simpa using hu1) (by simpa using hw1) fun h' k1 k2 k3 k4 k5 k6 k7=>?_
      refine wpAny_letOwnedTupleGo_zip k1 fun h'' k8 hs=>?_
      obtain ⟨o1',ho1,hc1',hd1''⟩:=k3
      obtain ⟨o2',ho2,hc2',hd2''⟩:=k4
      have hTz:s.heap.objs.size≠z:=Nat.ne_of_gt (Heap.lt_size hz)
      have T':h''.get? s.heap.objs.size=some (pObj u v):=(hs.2 _ hTz).trans k5
      let N:Led:=[(z,zObj TI TO),(TO,pObj a b),(i1,o1),(i2,o2),(TI,pObj (.ref i1) (.ref i2))]
      have keep:∀ a o,a ∉ N.map (·.1)→s.heap.get? a=some o→h''.get? a=some o:=fun a o ha q=>by
        simp [N] at ha
        exact (hs.2 _ ha.1).trans (k7 _ _ ha.1 ha.2.1 ha.2.2.1 ha.2.2.2.1 q)
      let F₂:Fz:=F₁.ob s.heap.objs.size { cls:=.type "tuple",data:=.seq [u,v].toArray }
      have hle2:F₁.le F₂:=Fz.le_ob _ _ _
      have off:∀ p ∈ F₁.obs,p.1 ∉ N.map (·.1):=fun p hp q=>by
        obtain ⟨r,hr,e⟩:=List.mem_map.mp q
        exact held.off r hr p hp e.symm
      have g:GrowX W (N.map (·.1)) s { s with heap:=h'' } F₁ F₂:=by
        refine ⟨fun a o _ ha q=>keep a o ha q,fun p hp=>?_,hle2,fun p hp=>?_,bs.tok,Nat.le_refl _,?_,rfl,.rfl,?_⟩
        · rcases List.mem_cons.mp hp with rfl | hp
          · exact T'
          · exact keep _ _ (off p hp) (bs.has p hp)
        · rcases List.mem_cons.mp hp with rfl | hp
          · exact .inr (Nat.le_refl _)
          · exact .inl hp
        · show _≤h''.objs.size; rw [hs.1,k6]; omega
        · refine (bs.tabs.keeps fun a o ha q=>keep a o (fun m=>?_) q).mono hle2
          obtain ⟨r,hr,rfl⟩:=List.mem_map.mp m
          exact held.tab r hr ha
      refine q _ _ F₂ [(z,zObj TI TO),(TO,pObj u v),(i1,o1'),(i2,o2'),(TI,pObj (.ref i1) (.ref i2))] g rfl (fun p hp=>?_) (.tuple (.head _) (.cons (hu2.mono (hF.trans hle2)) (.cons (hw2.mono (hF.trans hle2)) .nil))) ?_
      · have hTIz:TI≠z:=D.TIz
        rcases List.mem_cons.mp hp with rfl | hp
        · exact k8
        rcases List.mem_cons.mp hp with rfl | hp
        · exact (hs.2 _ D.TOz).trans k2
        rcases List.mem_cons.mp hp with rfl | hp
        · exact (hs.2 _ D.i1z).trans ho1
        rcases List.mem_cons.mp hp with rfl | hp
        · exact (hs.2 _ D.i2z).trans ho2
        cases List.mem_singleton.mp hp
        exact (hs.2 _ D.TIz).trans (k7 _ _ D.TIz D.TITO D.TIi1 D.TIi2 hTI)
      · exact ih r2 (j1 + 1) (j2 + 1) F₂ o1' o2' u v (by rw [← List.drop_drop,hr1]; rfl) (by rw [← List.drop_drop,hr2]; rfl) ((hF.trans hle2).obs _ hl1) ((hF.trans hle2).obs _ hl2) (hv1.mono (hF.trans hle2)) (hv2.mono (hF.trans hle2)) hc1' hd1'' hc2' hd2''
theorem eit_zip {e e':Expr} {elts:List Expr} {x1:Nat} {tp:Pos} {y:Str} {p pos:Pos} {ds ds':List Dat} (hB:BName W sc y (.type "zip"))
    (he:Ev prog w W k sc fn Γ e (.dat (.list ds))) (he':Ev prog w W k sc fn Γ e' (.dat (.list ds')))
    (hs:∀ env,starEach [e,e'] env=[(false,eval e env),(false,eval e' env)]:=by intro _; rfl) (hs':∀ env,starEach [e'] env=[(false,eval e' env)]:=by intro _; rfl) :
    EvIter prog w W k sc fn Γ (.Tuple elts x1 tp) (.Call (.Name y p) [e,e'] [] pos) ((zipD ds ds').map V.dat):=fun fr P s F hsc st A Q E rm q=>by
  refine builtin_ctx hB.kind hB.glob hB.boot hB.nn hB.call (evl_two he he' hs hs') (fun env=>by rw [hs]; rfl) hB.nd hsc st rm fun vs s₁ F₁ g₁ hv=>?_
  cases hv with
  | cons h1 hr =>
    cases hr with
    | cons h2 hr =>
      cases hr
      cases h1 with
      | list hm hr1 =>
        cases h2 with
        | list hm' hr2 =>
          rename_i a1 vs1 n1 a2 vs2 n2
          have b:=(st.step g₁).base
          have hlt1:a1 < s₁.heap.objs.size:=Heap.lt_size (b.has _ hm)
          have hlt2:a2 < s₁.heap.objs.size:=Heap.lt_size (b.has _ hm')
          refine call_zip_2 (isList_of b hm) (isList_of b hm') fun h' k1 k2 k3 k4 k5 k6 k7=>wpAny_pyIter_zip k1 ?_
          obtain ⟨o1,ho1,hc1,hd1⟩:=k4
          obtain ⟨o2,ho2,hc2,hd2⟩:=k5
          have g:Grow W s₁ { s₁ with heap:=h' } F₁ F₁:=Grow.of_keeps [] b k7 (fun _ h=>nomatch h) (by show _≤h'.objs.size; rw [k6]; omega) (Nat.le_refl _) rfl .rfl
          have D:ZipApart (s₁.heap.objs.size + 4) (s₁.heap.objs.size + 2) (s₁.heap.objs.size + 3) s₁.heap.objs.size (s₁.heap.objs.size + 1) a1 a2:=by
            have hn:∀ {a b:Nat},a≠b→a≠b:=fun h=>h
            constructor <;> (refine hn ?_; omega)
          have off:∀ n,s₁.heap.objs.size≤n→∀ r ∈ F₁.obs,r.1≠n:=fun n hn r hr e=>absurd (Heap.lt_size (b.has r hr)) (by rw [e]; exact Nat.not_lt.mpr hn)
          refine q _ _ F₁ [(s₁.heap.objs.size + 4,zObj _ _),(s₁.heap.objs.size + 3,pObj .none .none),(s₁.heap.objs.size,o1),(s₁.heap.objs.size + 1,o2),(s₁.heap.objs.size + 2,pObj (.ref s₁.heap.objs.size) (.ref (s₁.heap.objs.size + 1)))]
            (g₁.trans g) (fun p hp=>?_) (iter_zip D ds ds' 0 0 F₁ o1 o2 .none .none rfl rfl hm hm' hr1 hr2 hc1 hd1 hc2 hd2) (fun _ _ _ _ h hq=>wpAny_pyIter_zip (h _ (.head _)) hq)
          have sz:=g₁.size
          have at':∀ (a:Nat) (o:Obj),h'.get? a=some o→s₁.heap.objs.size≤a→h'.get? a=some o∧s.heap.objs.size≤a∧∀ q ∈ F₁.obs,q.1≠a:=fun a o h1 h2=>⟨h1,Nat.le_trans sz h2,off _ h2⟩
          rcases List.mem_cons.mp hp with rfl | hp
          · exact at' _ _ k1 (by omega)
          rcases List.mem_cons.mp hp with rfl | hp
          · exact at' _ _ k3 (by omega)
          rcases List.mem_cons.mp hp with rfl | hp
          · exact at' _ _ ho1 (by omega)
          rcases List.mem_cons.mp hp with rfl | hp
          · exact at' _ _ ho2 (by omega)
          cases List.mem_singleton.mp hp
          exact at' _ _ k2 (by omega)
theorem iter_rev {tgt:Expr} (ht:nameTgt tgt=true) {l n it:Nat} {vs:List Value} {ds:List Dat} (hne:it≠l) :
    ∀ (i:Nat) (F:Fz) (o:Obj),i≤ds.length→(l,listOf vs.toArray n) ∈ F.obs→Reps F vs ds→o.cls=.type "list_reverseiterator"→o.data=.fields #[.ref l,rawInt ((i:Int) - 1)] →
      Iter prog w W k tgt (.ref it) ((ds.take i).reverse.map V.dat) F [(it,o)]:=by
  intro i
  induction i with
  | zero =>
    intro F o hi hl hv hc hd s F₁ A Q E b hF held rm q
    refine any_hz (wpAny_pyNext_rev_end (l:=l) rm.handled ⟨o,held.has _ (.head _),hc,by simpa using hd⟩ fun h' he h1 h2=>?_)
    exact q _ F₁ (end1 b held he h1)
  | succ i ih =>
    intro F o hi hl hv hc hd
    have hlt:i < ds.length:=by omega
    have e:(ds.take (i + 1)).reverse=ds[i] :: (ds.take i).reverse:=by
      rw [List.take_succ_eq_append_getElem hlt,List.reverse_append]; rfl
    rw [e]
    intro s F₁ A Q E b hF held rm q
    obtain ⟨v,hv1,hv2⟩:=hv.get (List.getElem?_eq_getElem hlt)
    refine wpAny_pyNext_rev_item (i:=i) ⟨o,held.has _ (.head _),hc,by rw [hd,show ((i + 1:Nat):Int) - 1=(i:Int) by omega]⟩ (isList_of b (hF.obs _ hl)) (x:=v) (by simpa using hv1) fun h' hit hs=>?_
    refine wpAny_of_eq (go_name ht _ _) ?_
    obtain ⟨o',ho',hc',hd''⟩:=hit
    have g:=GrowX.same (t:=s.toks) b hs (held.off _ (.head _)) (held.tab _ (.head _)) (Nat.le_refl _)
    refine q v _ F₁ [(it,o')] g rfl (fun p hp=>by cases List.mem_singleton.mp hp; exact ho') (hv2.mono hF) ?_
    exact ih F₁ o' (by omega) (hF.obs _ hl) (hv.mono hF) hc' hd''
theorem eit_rev {tgt e:Expr} {y:Str} {p pos:Pos} {ds:List Dat} (hB:BName W sc y (.type "reversed"))
    (he:Ev prog w W k sc fn Γ e (.dat (.list ds))) (ht:nameTgt tgt=true) (hs:∀ env,starEach [e] env=[(false,eval e env)]:=by intro _; rfl) :
    EvIter prog w W k sc fn Γ tgt (.Call (.Name y p) [e] [] pos) (ds.reverse.map V.dat):=fun fr P s F hsc st A Q E rm q=>by
  refine builtin_ctx hB.kind hB.glob hB.boot hB.nn hB.call (evl_cons he evl_nil (fun env=>by rw [hs]; rfl)) (star1 hs) hB.nd hsc st rm fun vs s₁ F₁ g₁ hv=>?_
  cases hv with
  | cons h1 hr =>
    cases hr
    cases h1 with
    | list hm hr =>
      rename_i l vs n
      have b:=(st.step g₁).base
      have hlt:l < s₁.heap.objs.size:=Heap.lt_size (b.has _ hm)
      have hz:(vs.toArray.size:Int)=(ds.length:Int):=by simp [hr.length]
      refine call_reversed_list (isList_of b hm) (wpAny_pyIter_revIter (l:=l) (i:=(ds.length:Int) - 1) ⟨_,Heap.get?_push_size _ rfl,rfl,by rw [hz]; rfl⟩ ?_)
      rw [hz]
      refine q _ _ F₁ [(s₁.heap.objs.size,revObj l ((ds.length:Int) - 1))] (g₁.trans (Grow.pushed b _ (Nat.le_refl _))) (fun p hp=>?_) (by simpa using iter_rev ht (Nat.ne_of_gt hlt) ds.length F₁ _ (Nat.le_refl _) hm hr rfl rfl) (fun _ _ _ _ h hq=>wpAny_pyIter_revIter (l:=l) (i:=(ds.length:Int) - 1) ⟨_,h _ (.head _),rfl,rfl⟩ hq)
      cases List.mem_singleton.mp hp
      exact ⟨Heap.get?_push_size _ rfl,g₁.size,fun r hr e=>absurd (Heap.lt_size (b.has r hr)) (by rw [e]; exact Nat.lt_irrefl _)⟩
end Mine
namespace Mine
theorem St.perm {prog:Program} {w:World} {W:Wd} {fr:Frm} {fn:Bool} {Γ:Ctx'} {P P':Led} {s:Shared} {F:Fz} (x:St prog w W fr fn Γ P s F) (h:∀ p ∈ P',p ∈ P):St prog w W fr fn Γ P' s F:=by
  refine ⟨x.base,x.grow,x.bsize,x.glob,x.blt,x.kind,x.ns,x.nsNew,x.nsF,fun p hp=>x.nsP p (h p hp),fun p hp=>x.prv p (h p hp),fun n c hc=>?_,x.inj,x.cells,fun z b hz=>?_,x.apart⟩
  · obtain ⟨h1,h2,h3,h4,h5,h6⟩:=x.cell n c hc
    exact ⟨h1,h2,h3,fun p hp=>h4 p (h p hp),h5,h6⟩
  · obtain ⟨v,h1,h2⟩:=x.vars z b hz
    have pr:∀ a,Priv fr P F a→Priv fr P' F a:=fun a p=>⟨p.new,p.loc,p.cel,fun q hq=>p.prv q (h q hq),p.frz⟩
    refine ⟨v,h1,?_⟩
    cases b with
    | val x=>exact h2
    | lst ds=>obtain ⟨a,vs,n,e,h3,h4,h5⟩:=h2; exact ⟨a,vs,n,e,h3,h4,pr a h5⟩
    | byt bs=>obtain ⟨a,n,e,h3,h5⟩:=h2; exact ⟨a,n,e,h3,pr a h5⟩
    | dic kvs=>obtain ⟨a,kvv,e,h3,h4,h5⟩:=h2; exact ⟨a,kvv,e,h3,h4,pr a h5⟩
structure AccK where
  σ:Type
  ok:σ→Obj→Fz→Prop
  mono:∀ a o F F',Fz.le F F'→ok a o F→ok a o F'
def listK:AccK:=⟨List Dat,fun ds o F=>∃ (vs:List Value) (n:Nat),o=listOf vs.toArray n∧Reps F vs ds,fun _ _ _ _ h x=>let ⟨vs,n,e,r⟩:=x; ⟨vs,n,e,r.mono h⟩⟩
section
variable (prog:Program) (w:World) (W:Wd)
def Emit (k:Nat) (sc:Scope) (Γ:Ctx') (K:AccK) (M:Value→Env→Sem Unit) (a a':K.σ):Prop :=
  ∀ fr P s F D o,fr.env.scope=sc→St prog w W fr false Γ ((D,o) :: P) s F→fr.sb.heap.objs.size≤D→(∀ p ∈ P,p.1≠D)→K.ok a o F →
    ∀ (A:Around) (Q:Unit→Shared→Prop) (E:Value→Shared→Prop),Room k A →
      (∀ s' F' o',St prog w W fr false Γ ((D,o') :: P) s' F'→K.ok a' o' F'→F.le F'→Q () s')→wpAny (model prog w) A (M (.ref D) fr.env) Q E s
def EvT (k:Nat) (sc:Scope) (Γ:Ctx') (ifs:List Expr) (b:Bool):Prop :=
  ∀ fr P s F,fr.env.scope=sc→St prog w W fr false Γ P s F→GivesB prog w W k (forIn ifs true fun c r=>if r=true then do let ok ← isTrue c fr.env (eval c fr.env); pure (ForInStep.yield ok) else pure (ForInStep.yield r)) s F b
def CTurn (k:Nat) (sc:Scope) (Γ:Ctx') (K:AccK) (tgt:Expr) (ifs:List Expr) (M:Value→Env→Sem Unit) (x:V) (a a':K.σ):Prop :=
  ∃ Γ₁ b,Asg prog w W k sc false Γ tgt x Γ₁∧(∀ y b,Γ.lookup y=some b→Γ₁.lookup y=some b)∧EvT prog w W k sc Γ₁ ifs b ∧
    (b=true→Emit prog w W k sc Γ₁ K M a a')∧(b=false→a'=a)
def CLoop (k:Nat) (sc:Scope) (Γ:Ctx') (K:AccK) (e:Expr) (d:Nat) (tgt:Expr) (xs:List V) (a a':K.σ):Prop :=
  ∀ fr P s F it D N o,fr.env.scope=sc→St prog w W fr false Γ (N ++ (D,o) :: P) s F→(∀ p ∈ N,fr.sb.heap.objs.size≤p.1)→fr.sb.heap.objs.size≤D→(∀ q ∈ N,q.1≠D)→(∀ p ∈ P,∀ q ∈ N,q.1≠p.1)→(∀ p ∈ P,p.1≠D) →
    K.ok a o F→Iter prog w W k tgt it xs F N→∀ (A:Around) (R:Result→Shared→Prop),Room k A →
      (∀ s' F' o',St prog w W fr false Γ ((D,o') :: P) s' F'→K.ok a' o' F'→F.le F'→R (.ok .next) s')→codeAny (model prog w) A (.compLoop e d it (.ref D) fr.env) R s
end
section
variable {prog:Program} {w:World} {W:Wd} {k:Nat} {sc:Scope} {Γ:Ctx'} {K:AccK}
theorem evt_nil:EvT prog w W k sc Γ [] true:=fun fr P s F hsc st A Q E rm q=>wpAny_tests_nil (q _ _ (Grow.refl st.base))
theorem evt_one {c:Expr} {b:Bool} (h:EvB prog w W k sc false Γ c b):EvT prog w W k sc Γ [c] b:=fun fr P s F hsc st A Q E rm q=>wpAny_tests_one (h fr P s F hsc st A Q E rm q)
theorem Iter.mono {tgt:Expr} {it:Value} {xs:List V} {F F':Fz} {N:Led} (h:Iter prog w W k tgt it xs F N) (hF:F.le F'):Iter prog w W k tgt it xs F' N:=by
  cases xs with
  | nil=>exact fun s F₁ A Q E b hle hh r q=>h s F₁ A Q E b (hF.trans hle) hh r q
  | cons x r=>exact fun s F₁ A Q E b hle hh r q=>h s F₁ A Q E b (hF.trans hle) hh r q
theorem comp_loop {e:Expr} {d:Nat} {tgt:Expr} {ifs:List Expr} {M:Value→Env→Sem Unit} {xs:List V} {as:Nat→K.σ} {p:Pos}
    (turn:∀ i x,xs[i]?=some x→CTurn prog w W k sc Γ K tgt ifs M x (as i) (as (i + 1)))
    (hden:∀ (it:Value) (D:Addr) (env:Env),(model prog w).den (.compLoop e d it (.ref D) env)=(compTurn e d it (.ref D) env).onRaise (fun x=>do noteFrame x env; theTreesLotGoes x))
    (hq:∀ (it:Value) (D:Addr) (env:Env),Code.quiet (.compLoop e d it (.ref D) env)=true)
    (hu:∀ (A:Around) (it:Value) (D:Addr) (env:Env),A.under (.compLoop e d it (.ref D) env)=A)
    (heq:∀ (it:Value) (D:Addr) (env:Env),compTurn e d it (.ref D) env=(do
      standAt p
      match ← pyNext it with
      | none=>pure (.done .next)
      | some v =>
        letOwnedTupleGo tgt it v
        assign tgt env v
        let mut ok:=true
        for c in ifs do
          if ok then ok ← isTrue c env (eval c env)
        if ok then
          M (.ref D) env
        again (.compLoop e d it (.ref D) env))):CLoop prog w W k sc Γ K e d tgt xs (as 0) (as xs.length):=by
  intro fr P s F it D N o hsc st hnew hD hND hPN hPD hok hI A R rm q
  refine codeAny_loop (hq _ _ _) (fun m s'=>∃ i N' F' o',m=xs.length + 1 - i∧i≤xs.length∧F.le F'∧St prog w W fr false Γ (N' ++ (D,o') :: P) s' F'∧(∀ p ∈ N',fr.sb.heap.objs.size≤p.1)∧(∀ q ∈ N',q.1≠D)∧(∀ p ∈ P,∀ q ∈ N',q.1≠p.1)∧K.ok (as i) o' F'∧Iter prog w W k tgt it (xs.drop i) F' N')
    ?_ (xs.length + 1) ⟨0,N,F,o,rfl,Nat.zero_le _,.rfl,st,hnew,hND,hPN,hok,by simpa using hI⟩
  rintro m s' ⟨i,N',F',o',rfl,hil,hF,st',hnew',hND',hPN',hok',hI'⟩
  rw [hu,hden]
  refine wpAny_noted ?_
  rw [heq]
  refine wpAny_bind (wpAny_standAt ?_)
  have held:=Held.of_st st' hnew'
  by_cases hi:i < xs.length
  · rw [List.drop_eq_getElem_cons hi] at hI'
    have hx:xs[i]?=some xs[i]:=List.getElem?_eq_getElem hi
    obtain ⟨Γ₁,b,hasg,hkeep,htest,hemit,hskip⟩:=turn i _ hx
    refine wpAny_bind (wpAny_mono (hI' s' F' A (fun v s₂=>wpAny (model prog w) A (do
        assign tgt fr.env v
        let mut ok:=true
        for c in ifs do
          if ok then ok ← isTrue c fr.env (eval c fr.env)
        if ok then
          M (.ref D) fr.env
        again (.compLoop e d it (.ref D) fr.env)) (fun fin s'=>match fin with | .done f=>R (.ok f) s' | .again c'=>c'=.compLoop e d it (.ref D) fr.env∧∃ m,m < xs.length + 1 - i∧(∃ i N' F' o',m=xs.length + 1 - i∧i≤xs.length∧F.le F'∧St prog w W fr false Γ (N' ++ (D,o') :: P) s' F'∧(∀ p ∈ N',fr.sb.heap.objs.size≤p.1)∧(∀ q ∈ N',q.1≠D)∧(∀ p ∈ P,∀ q ∈ N',q.1≠p.1)∧K.ok (as i) o' F'∧Iter prog w W k tgt it (xs.drop i) F' N')) (notedBy (model prog w) A fr.env fun e s'=>R (.error e) s') s₂) _ st'.base .rfl held rm ?_) (fun r s₁ h=>?_) fun _ _ h=>h)
    · intro v s₃ F₃ N₃ g₃ hN₃ hin₃ hv hI₃
      have mem:∀ p ∈ N₃,∃ q ∈ N',q.1=p.1:=fun p hp=>let ⟨q,hq,e⟩:=List.mem_map.mp (hN₃ ▸ List.mem_map_of_mem hp:p.1 ∈ N'.map (·.1)); ⟨q,hq,e⟩
      have hPND:∀ p ∈ (D,o') :: P,∀ q ∈ N',q.1≠p.1:=fun p hp q hq=>by
        rcases List.mem_cons.mp hp with rfl | hp
        · exact hND' q hq
        · exact hPN' p hp q hq
      have st₃:=st'.stepX g₃ (fun p hp=>hN₃ ▸ List.mem_map_of_mem hp) hin₃ hPND hnew'
      have hnew₃:∀ p ∈ N₃,fr.sb.heap.objs.size≤p.1:=fun p hp=>let ⟨q,hq,e⟩:=mem p hp; e ▸ hnew' q hq
      have hND₃:∀ q ∈ N₃,q.1≠D:=fun r hr=>let ⟨q,hq,e⟩:=mem r hr; e ▸ hND' q hq
      have hPN₃:∀ p ∈ P,∀ q ∈ N₃,q.1≠p.1:=fun p hp r hr=>let ⟨q,hq,e⟩:=mem r hr; e ▸ hPN' p hp q hq
      refine wpAny_bind (hasg fr _ s₃ F₃ v hsc st₃ hv A _ _ rm fun s₄ F₄ st₄ hF₄=>?_)
      refine wpAny_bind (htest fr _ s₄ F₄ hsc st₄ A _ _ rm fun s₅ F₅ g₅=>?_)
      have st₅:=st₄.step g₅
      cases b with
      | false =>
        refine wpAny_pure ⟨rfl,xs.length + 1 - (i + 1),by omega,i + 1,N₃,F₅,o',rfl,hi,((hF.trans g₃.sub).trans hF₄).trans g₅.sub,st₅.weaken hkeep,hnew₃,hND₃,hPN₃,?_,?_⟩
        · rw [hskip rfl]; exact K.mono _ _ _ _ ((g₃.sub.trans hF₄).trans g₅.sub) hok'
        · exact hI₃.mono (hF₄.trans g₅.sub)
      | true =>
        refine wpAny_bind (hemit rfl fr (N₃ ++ P) s₅ F₅ D o' hsc (st₅.perm fun p hp=>?_) hD (fun p hp=>?_) (K.mono _ _ _ _ ((g₃.sub.trans hF₄).trans g₅.sub) hok') A _ _ rm fun s₆ F₆ o₆ st₆ hok₆ hF₆=>?_)
        · rcases List.mem_cons.mp hp with rfl | hp
          · exact List.mem_append_right _ (.head _)
          · rcases List.mem_append.mp hp with h | h
            · exact List.mem_append_left _ h
            · exact List.mem_append_right _ (.tail _ h)
        · rcases List.mem_append.mp hp with h | h
          · exact hND₃ p h
          · exact hPD p h
        · refine wpAny_pure ⟨rfl,xs.length + 1 - (i + 1),by omega,i + 1,N₃,F₆,o₆,rfl,hi,(((hF.trans g₃.sub).trans hF₄).trans g₅.sub).trans hF₆,(st₆.perm fun p hp=>?_).weaken hkeep,hnew₃,hND₃,hPN₃,hok₆,hI₃.mono ((hF₄.trans g₅.sub).trans hF₆)⟩
          rcases List.mem_append.mp hp with h | h
          · exact .tail _ (List.mem_append_left _ h)
          · rcases List.mem_cons.mp h with rfl | h
            · exact .head _
            · exact .tail _ (List.mem_append_right _ h)
    · cases r with
      | none=>exact h.elim
      | some v=>exact wpAny_bind (wpAny_mono h (fun _ s₂ h₂=>h₂) fun _ _ h=>h)
  · have hie:i=xs.length:=by omega
    have hd:xs.drop i=[]:=List.drop_eq_nil_of_le (by omega)
    rw [hd] at hI'
    refine wpAny_bind (hI' s' F' A _ _ st'.base .rfl held rm fun s₃ F₃ g₃=>?_)
    have st₃:St prog w W fr false Γ ((D,o') :: P) s₃ F₃:=st'.stepX (N':=[]) g₃ (fun _ h=>nomatch h) (fun _ h=>nomatch h) (fun p hp q hq=>by
        rcases List.mem_cons.mp hp with rfl | hp
        · exact hND' q hq
        · exact hPN' p hp q hq) hnew'
    exact wpAny_pure (q s₃ F₃ o' st₃ (K.mono _ _ _ _ g₃.sub (hie ▸ hok')) (hF.trans g₃.sub))
end
end Mine
namespace Mine
def storedD {K:Type} [DecidableEq K] (kvs:List (K × Dat)) (k:K) (v:Dat):List (K × Dat) :=
  if kvs.any (fun kv=>kv.1=k) then kvs.map (fun kv=>if kv.1=k then (kv.1,v) else kv) else kvs ++ [(k,v)]
theorem Pairs.any {F:Fz} {K:Type} [DecidableEq K] {k:K} {es:List (K × Value)} {kvs:List (K × Dat)} (h:Pairs F es kvs):es.any (fun kv=>decide (kv.1=k))=kvs.any (fun kv=>decide (kv.1=k)):=by
  induction h with
  | nil=>rfl
  | cons _ _ ih=>simp [ih]
theorem Pairs.length {F:Fz} {K:Type} {es:List (K × Value)} {kvs:List (K × Dat)} (h:Pairs F es kvs):es.length=kvs.length:=by
  induction h with
  | nil=>rfl
  | cons _ _ ih=>simp [ih]
theorem Pairs.append {F:Fz} {K:Type} {es es':List (K × Value)} {kvs kvs':List (K × Dat)} (h:Pairs F es kvs) (h':Pairs F es' kvs'):Pairs F (es ++ es') (kvs ++ kvs'):=by
  induction h with
  | nil=>exact h'
  | cons h1 _ ih=>exact .cons h1 ih
theorem Pairs.stored {F:Fz} {K:Type} [DecidableEq K] {k:K} {v:Value} {d:Dat} {es:List (K × Value)} {kvs:List (K × Dat)} (h:Pairs F es kvs) (hv:Rep F v d):Pairs F (PySem.stored es k v) (storedD kvs k d):=by
  unfold PySem.stored storedD
  rw [h.any]
  split
  · rename_i hany
    clear hany
    induction h with
    | nil=>exact .nil
    | @cons k' v' d' _ _ h1 _ ih =>
      simp only [List.map_cons]
      by_cases e:k'=k
      · simp only [e,if_true]; exact .cons hv ih
      · simp only [e,if_false]; exact .cons h1 ih
  · exact h.append (.cons hv .nil)
theorem strKind_is {prog:Program} {w:World} {x:Str} {t:Nat}:(strKind prog w).is x (.str x t)=true:=by
  show Value.isStrOf x (.str x t)=true
  simp [Value.isStrOf]
def dictK (prog:Program) (w:World):AccK:=⟨List (Str × Dat),fun kvs o F=>∃ kvv,o.IsDictOf (strKind prog w) kvv∧Pairs F kvv kvs,fun _ _ _ _ h x=>let ⟨vs,e,r⟩:=x; ⟨vs,e,r.mono h⟩⟩
section
variable {prog:Program} {w:World} {W:Wd} {k:Nat} {sc:Scope} {Γ:Ctx'} {K:AccK}
theorem emit_list {elt:Expr} {d:Dat} {a:List Dat} (he:Ev prog w W k sc false Γ elt (.dat d)) (hz:a.length≤sizeLine) :
    Emit prog w W k sc Γ listK (fun acc env=>do let _ ← call (.builtin "list.append") [acc,← eval elt env]) a (a ++ [d]):=by
  intro fr P s F D o hsc st hD hPD hok A Q E rm q
  obtain ⟨vs,n,rfl,hr⟩:=hok
  refine wpAny_bind (he fr _ s F hsc st A _ E rm fun v s₁ F₁ g₁ hv=>?_)
  have st₁:=st.step g₁
  obtain ⟨hDo,hDt,hDF⟩:=st₁.prv _ (.head _)
  refine wpAny_bind (wpAny_list_append_plain ⟨n,hDo⟩ (fun h' hp hs=>wpAny_pure ?_) (by rw [List.size_toArray,hr.length]; exact hz))
  obtain ⟨n',hp⟩:=hp
  have e:(vs.toArray).push v=(vs ++ [v]).toArray:=by simp
  rw [e] at hp
  have st₂:=St.stepX (N:=[(D,listOf vs.toArray n)]) (N':=[(D,listOf (vs ++ [v]).toArray n')]) (P:=P) st₁ (s':={ s₁ with heap:=h',toks:=s₁.toks }) (GrowX.same st₁.base hs hDF hDt (Nat.le_refl _)) (fun p hp=>by cases List.mem_singleton.mp hp; exact .head _)
    (fun p h=>by cases List.mem_singleton.mp h; exact hp) (fun p hp q hq=>by cases List.mem_singleton.mp hq; exact Ne.symm (hPD p hp)) (fun p hp=>by cases List.mem_singleton.mp hp; exact hD)
  exact q _ F₁ _ st₂ ⟨vs ++ [v],n',rfl,(hr.mono g₁.sub).append (.one hv)⟩ g₁.sub
theorem emit_dict {kx vx:Expr} {x:Str} {d:Dat} {a:List (Str × Dat)} (hk:Ev prog w W k sc false Γ kx (.dat (.str x))) (he:Ev prog w W k sc false Γ vx (.dat d)) (hz:a.length≤sizeLine) :
    Emit prog w W k sc Γ (dictK prog w) (fun acc env=>do
        let kv ← eval kx env
        let vv ← holding [kv] (eval vx env)
        match acc with
        | .ref d=>do
          standAt { kx.pos with endLine:=vx.pos.endLine,endCol:=vx.pos.endCol }
          holding [kv,vv] (dictSet d kv vv)
        | _=>unsupported "internal:dictcomp") a (storedD a x d):=by
  intro fr P s F D o hsc st hD hPD hok A Q E rm q
  obtain ⟨kvv,hdic,hr⟩:=hok
  refine wpAny_bind (hk fr _ s F hsc st A _ E rm fun kv s₀ F₀ g₀ hkv=>?_)
  have st₀:=st.step g₀
  refine wpAny_bind (wpAny_holding (he fr _ s₀ F₀ hsc st₀ A _ E rm fun v s₁ F₁ g₁ hv=>?_))
  have st₁:=st₀.step g₁
  obtain ⟨hDo,hDt,hDF⟩:=st₁.prv _ (.head _)
  cases hkv with
  | str hm =>
    refine wpAny_bind (wpAny_standAt (wpAny_holding (wpAny_dictSet_pairs (knd:=strKind prog w) (k:=x) strKind_is (Heap.dictOf_iff.mpr ⟨o,hDo,hdic⟩) (fun h' hp hs=>?_) (by rw [hr.length]; exact hz))))
    obtain ⟨o',ho',hd'⟩:=Heap.dictOf_iff.mp hp
    have st₂:=St.stepX (N:=[(D,o)]) (N':=[(D,o')]) (P:=P) st₁ (s':={ s₁ with heap:=h',toks:=s₁.toks + 1 }) (GrowX.same st₁.base hs hDF hDt (Nat.le_succ _)) (fun p hp=>by cases List.mem_singleton.mp hp; exact .head _)
      (fun p h=>by cases List.mem_singleton.mp h; exact ho') (fun p hp q hq=>by cases List.mem_singleton.mp hq; exact Ne.symm (hPD p hp)) (fun p hp=>by cases List.mem_singleton.mp hp; exact hD)
    exact q _ F₁ _ st₂ ⟨_,hd',((hr.mono g₀.sub).mono g₁.sub).stored hv⟩ (g₀.sub.trans g₁.sub)
theorem emit_node {e iter tgt:Expr} {d:Nat} {p:Pos} {xs:List V} {a a':K.σ} (hit:EvIter prog w W k sc false Γ tgt iter xs) (hl:CLoop prog w W k sc Γ K e d tgt xs a a')
    (hst:∀ (it:Value) (D:Addr) (env:Env) (A:Around) (R:Result→Shared→Prop) (s:Shared),codeAny (model prog w) A (.compLoop e d it (.ref D) env) R s →
      wpAny (model prog w) A (pyIter it) (fun it' s'=>codeAny (model prog w) A (.compLoop e d it' (.ref D) env) R s') (notedBy (model prog w) A env fun x s'=>R (.error x) s') s→codeAny (model prog w) A (.compStart e d it (.ref D) env) R s)
    (hs:∀ env x,foldedSetIterable iter env x=pure x:=by intro _ _; rfl) :
    Emit prog w W k sc Γ K (fun acc env=>do
        let x ← eval iter env
        standAt p
        let x ← foldedSetIterable iter env x
        let _ ← runOwn (.compStart e d (← holding [x] (pyIter x)) acc env) env) a a':=by
  intro fr P s F D o hsc st hD hPD hok A Q E rm q
  refine wpAny_bind (wpAny_mono (hit fr _ s F hsc st A (fun it s'=>wpAny (model prog w) A (runOwn (.compStart e d it (.ref D) fr.env) fr.env) (fun _ s''=>Q () s'') E s') E rm ?_) (fun v s₁ h₁=>?_) fun _ _ e=>e)
  · intro it s₁ F₁ N g₁ hN hI hS
    refine wpAny_runOwn ?_
    have st₁:=St.frame (N:=N) st g₁ hN
    have hnew:∀ p ∈ N,fr.sb.heap.objs.size≤p.1:=fun p hp=>Nat.le_trans st.grow.size (hN p hp).2.1
    have hold:∀ p ∈ (D,o) :: P,∀ q ∈ N,q.1≠p.1:=fun p hp r hr e=>absurd (Heap.lt_size (st.prv p hp).1) (Nat.not_lt.mpr (e ▸ (hN r hr).2.1))
    have loop:codeAny (model prog w) (A.mark none) (.compLoop e d it (.ref D) fr.env) (fun r s'=>match r with | .ok f=>Q () s' | .error e=>cameBackBy (model prog w) A fr.env E e s') s₁ :=
      hl fr P s₁ F₁ it D N o hsc st₁ hnew hD (fun q hq=>hold _ (.head _) q hq) (fun p hp q hq=>hold p (.tail _ hp) q hq) hPD (K.mono _ _ _ _ g₁.sub hok) hI _ _ rm.mark fun s' F' o' st' hok' hF'=>q s' F' o' st' hok' (g₁.sub.trans hF')
    exact hst _ _ _ _ _ _ loop (hS _ _ _ _ (fun p hp=>(hN p hp).1) loop)
  · refine wpAny_bind (wpAny_standAt (wpAny_bind (wpAny_of_eq (hs _ _) (wpAny_bind (wpAny_holding (wpAny_mono h₁ (fun it s₂ h₂=>wpAny_bind (wpAny_mono h₂ (fun _ s₃ h₃=>wpAny_pure h₃) fun _ _ e=>e)) fun _ _ e=>e))))))
end
end Mine
namespace Mine
def relab (sc scope:Scope):Scope :=
  { scope with names:=scope.names.map fun (n,k)=>if (k == .free && sc.kind == .function && sc.names.lookup n == some .cell) then (n,.cell) else (n,k) }
theorem relab_eq {scope:Scope} {env:Env}:relabel scope env=relab env.scope scope:=rfl
def clOf (cells:List (Str × Addr)):List (Str × NameKind)→List (Str × Addr)
  | []=>[]
  | (n,k) :: r=>clOf cells r ++ (if k == .free then [(n,(cells.lookup n).getD 0)] else [])
theorem closure_of {scope:Scope} {env:Env} (h:∀ x ∈ scope.names,x.2=.free→∃ c,env.cells.lookup x.1=some c):closureFor scope env=pure (clOf env.cells scope.names):=by
  have key:∀ (names:List (Str × NameKind)) (cs:List (Str × Addr)),(∀ x ∈ names,x.2=.free→∃ c,env.cells.lookup x.1=some c) →
      (forIn names cs fun x cs=>do if x.2 == .free then pure (ForInStep.yield ((x.1,← cellOf env x.1) :: cs)) else pure (ForInStep.yield cs):Sem (List (Str × Addr)))=pure (clOf env.cells names ++ cs):=by
    intro names
    induction names with
    | nil=>intro cs _; rfl
    | cons x r ih =>
      intro cs hx
      obtain ⟨n,k⟩:=x
      rw [List.forIn_cons]
      cases hk:(k == NameKind.free) with
      | true =>
        obtain ⟨c,hc⟩:=hx _ (.head _) (eq_of_beq hk)
        have e:cellOf env n=pure c:=by
          have hc':env.cells.lookup n=some c:=hc
          unfold cellOf; rw [hc']
        simp only [hk,if_true,clOf]
        rw [e]
        have hc':env.cells.lookup n=some c:=hc
        rw [hc',Option.getD_some,List.append_assoc]
        exact ih _ fun y hy=>hx y (.tail _ hy)
      | false =>
        simp only [hk,clOf,Bool.false_eq_true,if_false,List.append_nil]
        exact ih _ fun y hy=>hx y (.tail _ hy)
  have e:=congrArg (fun (m:Sem (List (Str × Addr)))=>m >>= fun cs=>pure cs) (key scope.names [] h)
  rw [List.append_nil] at e
  exact e
theorem clOf_mem {cells:List (Str × Addr)}:∀ {names:List (Str × NameKind)} {n:Str} {c:Addr},(n,c) ∈ clOf cells names→(n,NameKind.free) ∈ names∧(cells.lookup n).getD 0=c
  | [],_,_,h=>nomatch h
  | (m,k) :: r,n,c,h=>by
    unfold clOf at h
    rcases List.mem_append.mp h with h | h
    · exact ⟨.tail _ (clOf_mem h).1,(clOf_mem h).2⟩
    · split at h
      · rename_i hk
        cases List.mem_singleton.mp h
        rw [eq_of_beq hk]; exact ⟨.head _,rfl⟩
      · cases h
theorem clOf_lookup {cells:List (Str × Addr)} {names:List (Str × NameKind)} {n:Str} {c:Addr} (hn:(n,NameKind.free) ∈ names) (hc:cells.lookup n=some c):(clOf cells names).lookup n=some c:=by
  induction names with
  | nil=>cases hn
  | cons x r ih =>
    obtain ⟨m,k⟩:=x
    unfold clOf
    rw [List.lookup_append]
    rcases List.mem_cons.mp hn with h | h
    · cases h
      cases e:(clOf cells r).lookup n with
      | none=>simp [hc]
      | some c' =>
        have:=(clOf_mem (mem_of_lookup e)).2
        rw [hc] at this
        simp at this
        simp [this]
    · rw [ih h]; rfl
def capt (sc scope:Scope) (Γ:Ctx'):Ctx':=scope.names.filterMap fun (y,k) =>
  if k == .free && sc.names.lookup y == some .cell && scope.names.lookup y == some .free then (match Γ.lookup y with | some (.val x)=>some (y,.val x) | _=>none) else none
theorem capt_spec {sc scope:Scope} {Γ:Ctx'} {y:Str} {b:Bd} (h:(capt sc scope Γ).lookup y=some b) :
    (y,NameKind.free) ∈ scope.names∧scope.names.lookup y=some .free∧sc.names.lookup y=some .cell∧∃ x,b=.val x∧Γ.lookup y=some (.val x):=by
  obtain ⟨⟨z,k⟩,hm,e⟩:=List.mem_filterMap.mp (mem_of_lookup h)
  dsimp only at e
  split at e
  · rename_i hc
    simp only [Bool.and_eq_true,beq_iff_eq] at hc
    obtain ⟨⟨rfl,h1⟩,h2⟩:=hc
    split at e
    · rename_i x hx
      cases e
      exact ⟨hm,h2,h1,x,rfl,hx⟩
    · cases e
  · cases e
def scOk (sc scope:Scope):Bool :=
  scope.kind == .function && sc.kind == .function && scope.names.all (fun x=>x.2 != .cell) && scope.names.all (fun x=>x.2 != .local || scope.names.lookup x.1 == some .local) &&
    scope.names.all (fun x=>x.2 != .free || sc.names.lookup x.1 == some .cell)
structure ScOk (sc scope:Scope):Prop where
  kind:scope.kind=.function
  kind':sc.kind=.function
  cell:∀ x ∈ scope.names,x.2≠.cell
  loc:∀ x ∈ scope.names,x.2=.local→scope.names.lookup x.1=some .local
  free:∀ x ∈ scope.names,x.2=.free→sc.names.lookup x.1=some .cell
theorem scOk_spec {sc scope:Scope} (h:scOk sc scope=true):ScOk sc scope:=by
  unfold scOk at h
  simp only [Bool.and_eq_true,List.all_eq_true,beq_iff_eq,bne_iff_ne,Bool.or_eq_true] at h
  obtain ⟨⟨⟨⟨h1,h2⟩,h3⟩,h4⟩,h5⟩:=h
  exact ⟨h1,h2,h3,fun x hx e=>(h4 x hx).resolve_left fun q=>q e,fun x hx e=>(h5 x hx).resolve_left fun q=>q e⟩
theorem lookup_relab {sc:Scope}:∀ {names:List (Str × NameKind)} {x:Str},(names.map fun (n,k)=>if (k == NameKind.free && sc.kind == .function && sc.names.lookup n == some .cell) then (n,NameKind.cell) else (n,k)).lookup x =
    (names.lookup x).map fun k=>if (k == NameKind.free && sc.kind == .function && sc.names.lookup x == some .cell) then NameKind.cell else k
  | [],_=>rfl
  | (n,k) :: r,x=>by
    have ih:=@lookup_relab sc r x
    rw [List.map_cons]
    cases hx:x == n with
    | true =>
      have e:=eq_of_beq hx
      subst e
      dsimp only
      by_cases hc:(k == NameKind.free && sc.kind == .function && sc.names.lookup x == some .cell)=true
      · rw [if_pos hc]
        simp only [List.lookup_cons,beq_self_eq_true,Option.map_some,hc,if_true]
      · rw [if_neg hc]
        simp only [List.lookup_cons,beq_self_eq_true,Option.map_some,hc,Bool.false_eq_true,if_false]
    | false =>
      dsimp only
      split <;> simp only [List.lookup_cons,hx] <;> exact ih
section
variable {prog:Program} {w:World} {W:Wd} {k:Nat} {sc:Scope} {fn:Bool} {Γ:Ctx'} {K:AccK}
theorem comp_frame {fr:Frm} {P N:Led} {s s₂:Shared} {F F₂:Fz} {scope:Scope} {o:Obj} {h₁:Heap} (st:St prog w W fr fn Γ P s F) (hsc:fr.env.scope=sc) (hok:ScOk sc scope) (g:Grow W s s₂ F F₂)
    (hN:∀ p ∈ N,s₂.heap.get? p.1=some p.2∧s.heap.objs.size≤p.1∧∀ q ∈ F₂.obs,q.1≠p.1) (hfr:o.isFreed=false) (cenv:Env)
    (hns:h₁.Ns (s₂.heap.objs.size + 1) (fun _=>none)) (hsb:Heap.SameBut (s₂.heap.objs.size + 1) ((s₂.heap.push o).push { cls:=.type "dict",data:=.dict #[] }) h₁)
    (e1:cenv.scope=relab sc scope) (e2:cenv.locals=s₂.heap.objs.size + 1) (e3:cenv.globals=fr.env.globals) (e4:cenv.cells=clOf fr.env.cells scope.names) (e5:cenv.builtins=fr.env.builtins) {t:Nat} (ht:s₂.toks≤t) :
    St prog w W ⟨s,F,cenv⟩ false (capt sc scope Γ) (N ++ [(s₂.heap.objs.size,o)]) { s₂ with heap:=h₁,toks:=t } F₂:=by
  have st₂:=st.step g
  have b₂:=st₂.base
  have keep:∀ a o',s₂.heap.get? a=some o'→h₁.get? a=some o':=fun a o' e=>by
    have hlt:=Heap.lt_size e
    exact (hsb.2 a (fun q=>by rw [q] at hlt; exact absurd hlt (by simp))).trans (Heap.get?_push_of_some _ (Heap.get?_push_of_some _ e))
  have hD:h₁.get? s₂.heap.objs.size=some o:=(hsb.2 _ (Nat.ne_of_lt (Nat.lt_succ_self _))).trans (Heap.get?_push_of_some _ (Heap.get?_push_size _ hfr))
  have g':Grow W s₂ { s₂ with heap:=h₁,toks:=t } F₂ F₂:=Grow.of_keeps [] b₂ keep (fun _ h=>nomatch h) (by show _≤h₁.objs.size; rw [hsb.1]; simp; omega) ht rfl .rfl
  have st₄:=st₂.step g'
  have off:∀ a,s₂.heap.objs.size≤a→∀ p ∈ F₂.obs,p.1≠a:=fun a ha p hp e=>absurd (Heap.lt_size (b₂.has p hp)) (Nat.not_lt.mpr (e ▸ ha))
  have hg:=g.size
  have bk:cenv.scope.names=(relab sc scope).names:=by rw [e1]
  have hk:∀ x,cenv.kindOf x=(scope.names.lookup x).map fun k=>if (k == NameKind.free && sc.kind == .function && sc.names.lookup x == some .cell) then NameKind.cell else k:=fun x=>by
    show cenv.scope.names.lookup x=_
    rw [e1]; exact lookup_relab
  have hout:∀ n c,cenv.cells.lookup n=some c→fr.env.cells.lookup n=some c∧(n,NameKind.free) ∈ scope.names:=fun n c h=>by
    rw [e4] at h
    obtain ⟨h1,h2⟩:=clOf_mem (mem_of_lookup h)
    obtain ⟨c',hc'⟩:=st.cells n (by have:=hok.free _ h1 rfl; rw [← hsc] at this; exact this)
    rw [hc'] at h2
    exact ⟨hc'.trans (congrArg some h2),h1⟩
  refine ⟨st₄.base,g.trans g',Nat.le_trans st.base.size (Nat.le_refl _),e3 ▸ st.glob,e5 ▸ st.blt,by show cenv.scope.kind=_; rw [e1]; exact hok.kind,⟨_,by rw [e2]; exact hns⟩,?_,fun p hp=>?_,fun p hp=>?_,fun p hp=>?_,fun n c hc=>?_,fun n n' c h1 h2=>?_,fun x hx=>?_,fun x b hx=>?_,?_⟩
  · show s.heap.objs.size≤cenv.locals
    rw [e2]; omega
  · show p.1≠cenv.locals
    rw [e2]; exact off _ (Nat.le_succ _) p hp
  · show p.1≠cenv.locals
    rw [e2]
    rcases List.mem_append.mp hp with h | h
    · have:=Heap.lt_size (hN p h).1
      exact Nat.ne_of_lt (Nat.lt_succ_of_lt this)
    · cases List.mem_singleton.mp h
      exact Nat.ne_of_lt (Nat.lt_succ_self _)
  · rcases List.mem_append.mp hp with h | h
    · exact ⟨keep _ _ (hN p h).1,st.base.not_tab_of_size (hN p h).2.1,(hN p h).2.2⟩
    · cases List.mem_singleton.mp h
      exact ⟨hD,b₂.not_tab_of_size (Nat.le_refl _),off _ (Nat.le_refl _)⟩
  · obtain ⟨hc',_⟩:=hout n c hc
    obtain ⟨⟨v,h1⟩,h2,h3,h4,h5,h6⟩:=st₄.cell n c hc'
    obtain ⟨⟨v₀,h1₀⟩,_⟩:=st.cell n c hc'
    have hlt:=h1₀.lt
    obtain ⟨⟨v₂,h1₂⟩,_⟩:=st₂.cell n c hc'
    have hlt₂:=h1₂.lt
    refine ⟨⟨v,h1⟩,?_,(fun h=>by cases h),fun p hp=>?_,h5,fun h=>by cases h⟩
    · show c≠cenv.locals
      rw [e2]; exact Nat.ne_of_lt (Nat.lt_succ_of_lt hlt₂)
    · rcases List.mem_append.mp hp with h | h
      · exact fun e=>absurd hlt (Nat.not_lt.mpr (e ▸ (hN p h).2.1))
      · cases List.mem_singleton.mp h
        exact Nat.ne_of_gt hlt₂
  · exact st.inj _ _ _ (hout _ _ h1).1 (hout _ _ h2).1
  · have hx':=(hk x).symm.trans hx
    cases hl:scope.names.lookup x with
    | none=>rw [hl] at hx'; cases hx'
    | some kd =>
      have hm:=mem_of_lookup hl
      rw [hl,Option.map_some] at hx'
      have hfree:kd=.free:=by
        injection hx' with hx'
        split at hx'
        · rename_i hc; simp only [Bool.and_eq_true,beq_iff_eq] at hc; exact hc.1.1
        · exact absurd hx' (hok.cell _ hm)
      subst hfree
      obtain ⟨c',hc'⟩:=st.cells x (by have:=hok.free _ hm rfl; rw [← hsc] at this; exact this)
      exact ⟨c',by show cenv.cells.lookup x=_; rw [e4]; exact clOf_lookup hm hc'⟩
  · obtain ⟨h1,h2,h3,y,rfl,h4⟩:=capt_spec hx
    obtain ⟨v,hv,hd⟩:=st₄.vars x _ h4
    refine ⟨v,?_,hd⟩
    have hk₀:fr.env.kindOf x=some .cell:=by have:=h3; rw [← hsc] at this; exact this
    rcases hv with ⟨kk,_⟩ | ⟨_,c,hc,hv⟩
    · rw [hk₀] at kk; cases kk
    · refine .inr ⟨.inl ?_,c,by show cenv.cells.lookup x=_; rw [e4]; exact clOf_lookup h1 hc,hv⟩
      show cenv.kindOf x=_
      rw [hk,h2,h3,hok.kind']
      rfl
  · intro x y bx by' a hne h1 h2 o1 o2
    obtain ⟨_,_,_,z,rfl,_⟩:=capt_spec h1
    cases o1
theorem comp_run {fr:Frm} {P:Led} {s:Shared} {F:Fz} {scope:Scope} {e iter tgt:Expr} {ifs:List Expr} {gs:List Comprehension} {pos:Pos} {newAcc:Sem Value} {a a':K.σ} {xs:List V} {o₀:Obj} {use:Option (Value→Sem Unit)}
    {A:Around} {Q:Value→Shared→Prop} {E:Value→Shared→Prop}
    (st:St prog w W fr fn Γ P s F) (hsc:fr.env.scope=sc) (rm:Room k A) (hok:scOk sc scope=true) (hcl:clausesOf e=⟨tgt,iter,ifs,0⟩ :: gs) (hit:EvIter prog w W k sc fn Γ tgt iter xs)
    (hacc:∀ (s:Shared) (Q:Value→Shared→Prop),Q (.ref s.heap.objs.size) { s with heap:=s.heap.push o₀ }→wpAny (model prog w) A newAcc Q E s) (hfr:o₀.isFreed=false) (hok₀:∀ F,K.ok a o₀ F)
    (hl:CLoop prog w W k (relab sc scope) (capt sc scope Γ) K e 0 tgt xs a a')
    (hst:∀ (it:Value) (D:Addr) (env:Env) (A:Around) (R:Result→Shared→Prop) (s:Shared),codeAny (model prog w) A (.compLoop e 0 it (.ref D) env) R s →
      wpAny (model prog w) A (pyIter it) (fun it' s'=>codeAny (model prog w) A (.compLoop e 0 it' (.ref D) env) R s') (notedBy (model prog w) A env fun x s'=>R (.error x) s') s→codeAny (model prog w) A (.compStart e 0 it (.ref D) env) R s)
    (hs:∀ x,foldedSetIterable iter fr.env x=pure x)
    (q:∀ s' F' C D o m,Grow W s s' F F'→s'.heap.get? D=some o→K.ok a' o F'→s.heap.objs.size≤D→(∀ p ∈ F'.obs,p.1≠D)→s'.heap.Ns C m→s.heap.objs.size≤C→(∀ p ∈ F'.obs,p.1≠C)→C≠D→compPost (model prog w) A E use Q (.ref D) C (.ok .next) s') :
    wpAny (model prog w) A (comprehension e scope fr.env pos newAcc false (eval iter fr.env) use) Q E s:=by
  have ok:=scOk_spec hok
  have hclos:=closure_of (scope:=scope) (env:=fr.env) fun x hx hf=>st.cells x.1 (by have:=ok.free x hx hf; rw [← hsc] at this; exact this)
  refine wpAny_comprehension_free hcl hs hclos ok.kind ok.loc ?_
  refine hit fr P s F hsc st A _ E rm fun it s₂ F₂ N g hN hI hS=>?_
  refine hacc s₂ _ ?_
  refine wpAny_newFunctionEnv ok.cell (by intro y hy; simp at hy) (fun h₁ hns hsb=>?_) ok.kind
  dsimp only at hns hsb ⊢
  rw [show (s₂.heap.push o₀).objs.size=s₂.heap.objs.size + 1 by simp] at hns hsb ⊢
  have e1:relabel scope fr.env=relab sc scope:=by rw [relab_eq,hsc]
  rw [e1]
  let cenv:Env:={ newEnv scope (s₂.heap.objs.size + 1) fr.env.globals (clOf fr.env.cells scope.names) fr.env.qual none .none (some fr.env) fr.env.builtins with scope:=relab sc scope }
  have st₄:=comp_frame (P:=P) (N:=N) (t:=s₂.toks + ([]:List (Str × Value)).length) st hsc ok g hN hfr cenv hns hsb rfl rfl rfl rfl rfl (by simp)
  have hg:=g.size
  have loop:codeAny (model prog w) A (.compLoop e 0 it (.ref s₂.heap.objs.size) cenv) (compPost (model prog w) A E use Q (.ref s₂.heap.objs.size) cenv.locals) { s₂ with heap:=h₁,toks:=s₂.toks + ([]:List (Str × Value)).length }:=by
    refine hl ⟨s,F,cenv⟩ [] _ F₂ it s₂.heap.objs.size N o₀ rfl st₄ (fun p hp=>(hN p hp).2.1) g.size (fun q hq=>Nat.ne_of_lt (Heap.lt_size (hN q hq).1)) (fun _ h=>nomatch h) (fun _ h=>nomatch h) (hok₀ _) hI A _ rm fun s' F' o' st' hok' hF'=>?_
    obtain ⟨m,hm⟩:=st'.ns
    obtain ⟨hDo,_,hDF⟩:=st'.prv _ (.head _)
    exact q s' F' (s₂.heap.objs.size + 1) s₂.heap.objs.size o' m st'.grow hDo hok' g.size hDF hm (Nat.le_succ_of_le g.size) st'.nsF (Nat.ne_of_gt (Nat.lt_succ_self _))
  refine hst _ _ _ _ _ _ loop (hS _ _ _ _ (fun p hp=>?_) loop)
  exact (st₄.prv p (List.mem_append_left _ hp)).1
end
end Mine
namespace Mine
abbrev listM (elt:Expr):Value→Env→Sem Unit:=fun acc env=>do let _ ← call (.builtin "list.append") [acc,← eval elt env]
abbrev nodeM (e:Expr) (d:Nat) (iter:Expr):Value→Env→Sem Unit:=fun acc env=>do
        let x ← eval iter env
        standAt iter.pos
        let x ← foldedSetIterable iter env x
        let _ ← runOwn (.compStart e d (← holding [x] (pyIter x)) acc env) env
section
variable (prog:Program) (w:World) (W:Wd)
def EmitL (k:Nat) (sc:Scope) (Γ:Ctx') (M:Value→Env→Sem Unit) (out:List Dat):Prop :=
  ∀ a:List Dat,a.length + out.length≤sizeLine→Emit prog w W k sc Γ listK M a (a ++ out)
def TurnL (k:Nat) (sc:Scope) (Γ:Ctx') (tgt:Expr) (ifs:List Expr) (M:Value→Env→Sem Unit) (x:V) (out:List Dat):Prop :=
  ∃ Γ₁ b,Asg prog w W k sc false Γ tgt x Γ₁∧(∀ y b,Γ.lookup y=some b→Γ₁.lookup y=some b)∧EvT prog w W k sc Γ₁ ifs b ∧
    (b=true→EmitL prog w W k sc Γ₁ M out)∧(b=false→out=[])
end
section
variable {prog:Program} {w:World} {W:Wd} {k:Nat} {sc:Scope} {fn:Bool} {Γ:Ctx'}
theorem emitL_leaf {elt:Expr} {d:Dat} (he:Ev prog w W k sc false Γ elt (.dat d)):EmitL prog w W k sc Γ (listM elt) [d]:=fun a ha=>emit_list he (Nat.le_trans (Nat.le_add_right _ _) ha)
theorem take_flat {α:Type} {f:α→List Dat} {l:List α} {i:Nat} {x:α} (h:l[i]?=some x):(l.take (i + 1)).flatMap f=(l.take i).flatMap f ++ f x:=by
  rw [List.take_add_one,h,List.flatMap_append]
  simp
theorem take_flat_le {α:Type} {f:α→List Dat} {l:List α} {i:Nat}:((l.take i).flatMap f).length≤(l.flatMap f).length:=by
  have e:l.flatMap f=(l.take i).flatMap f ++ (l.drop i).flatMap f:=by rw [← List.flatMap_append,List.take_append_drop]
  rw [e,List.length_append]; omega
theorem loopL {α:Type} {e:Expr} {d:Nat} {tgt:Expr} {ifs:List Expr} {M:Value→Env→Sem Unit} {l:List α} {g:α→V} {f:α→List Dat} {p:Pos} {a:List Dat} (ha:a.length + (l.flatMap f).length≤sizeLine)
    (turn:∀ x ∈ l,TurnL prog w W k sc Γ tgt ifs M (g x) (f x))
    (hden:∀ (it:Value) (D:Addr) (env:Env),(model prog w).den (.compLoop e d it (.ref D) env)=(compTurn e d it (.ref D) env).onRaise (fun x=>do noteFrame x env; theTreesLotGoes x))
    (hq:∀ (it:Value) (D:Addr) (env:Env),Code.quiet (.compLoop e d it (.ref D) env)=true)
    (hu:∀ (A:Around) (it:Value) (D:Addr) (env:Env),A.under (.compLoop e d it (.ref D) env)=A)
    (heq:∀ (it:Value) (D:Addr) (env:Env),compTurn e d it (.ref D) env=(do
      standAt p
      match ← pyNext it with
      | none=>pure (.done .next)
      | some v =>
        letOwnedTupleGo tgt it v
        assign tgt env v
        let mut ok:=true
        for c in ifs do
          if ok then ok ← isTrue c env (eval c env)
        if ok then
          M (.ref D) env
        again (.compLoop e d it (.ref D) env))):CLoop prog w W k sc Γ listK e d tgt (l.map g) a (a ++ l.flatMap f):=by
  have:=comp_loop (prog:=prog) (w:=w) (W:=W) (k:=k) (sc:=sc) (Γ:=Γ) (K:=listK) (e:=e) (d:=d) (tgt:=tgt) (ifs:=ifs) (M:=M) (xs:=l.map g) (as:=fun i=>a ++ (l.take i).flatMap f) (p:=p) (fun i x hx=>?_) hden hq hu heq
  · simpa using this
  · rw [List.getElem?_map] at hx
    cases h:l[i]? with
    | none=>rw [h] at hx; cases hx
    | some y =>
      rw [h] at hx
      cases hx
      obtain ⟨Γ₁,b,h1,h2,h3,h4,h5⟩:=turn y (List.mem_of_getElem? h)
      have e1:a ++ (l.take (i + 1)).flatMap f=(a ++ (l.take i).flatMap f) ++ f y:=by rw [take_flat h,List.append_assoc]
      have le:=take_flat_le (f:=f) (l:=l) (i:=i + 1)
      rw [take_flat h,List.length_append] at le
      refine ⟨Γ₁,b,h1,h2,h3,fun hb=>?_,fun hb=>?_⟩
      · show Emit prog w W k sc Γ₁ listK M (a ++ (l.take i).flatMap f) (a ++ (l.take (i + 1)).flatMap f)
        rw [e1]
        exact h4 hb _ (by rw [List.length_append]; omega)
      · show a ++ (l.take (i + 1)).flatMap f=a ++ (l.take i).flatMap f
        rw [e1,h5 hb,List.append_nil]
theorem start2 {elt:Expr} {g0:Comprehension} {target iter:Expr} {ifs:List Expr} {scope:Scope} {pos:Pos} {A:Around} {R:Result→Shared→Prop} {s:Shared} {it acc:Value} {env:Env}
    (h0:codeAny (model prog w) A (.compLoop (.ListComp elt [g0,⟨target,iter,ifs,0⟩] scope pos) 1 it acc env) R s)
    (h:wpAny (model prog w) A (pyIter it) (fun it' s'=>codeAny (model prog w) A (.compLoop (.ListComp elt [g0,⟨target,iter,ifs,0⟩] scope pos) 1 it' acc env) R s')
      (notedBy (model prog w) A env fun x s'=>R (.error x) s') s) :
    codeAny (model prog w) A (.compStart (.ListComp elt [g0,⟨target,iter,ifs,0⟩] scope pos) 1 it acc env) R s:=by
  refine codeAny_of_tree ?_
  show wpAny _ A ((compStart (.ListComp elt [g0,⟨target,iter,ifs,0⟩] scope pos) 1 it acc env).onRaise (fun x=>do noteFrame x env; standAt theWindowsPlace)) _ _ s
  refine wpAny_notedAt ?_
  unfold compStart
  show wpAny _ _ (ask >>= _) _ _ s
  refine wpAny_bind (wpAny_askSetting (wpAny_ite ?_))
  split
  · first
      | exact wpAny_bind (wpAny_pure (wpAny_pure (And.intro rfl h0)))
      | exact wpAny_pure (And.intro rfl h0)
  · first
      | exact wpAny_bind (wpAny_rule (wpAny_bind (wpAny_standAt (wpAny_bind (wpAny_mono h (fun it' s' h'=>wpAny_pure (And.intro rfl h')) fun _ _ x=>x)))))
      | (refine wpAny_bind (wpAny_rule ?_); show wpAny _ _ (standAt iter.pos >>= _) _ _ s; exact wpAny_bind (wpAny_standAt (wpAny_bind (wpAny_mono h (fun it' s' h'=>wpAny_pure (And.intro rfl h')) fun _ _ x=>x))))
theorem compTurn_node (elt target iter:Expr) (ifs:List Expr) (g1:Comprehension) (hg:g1.is_async=0) (scope:Scope) (pos:Pos) (it acc:Value) (env:Env) :
    compTurn (.ListComp elt [⟨target,iter,ifs,0⟩,g1] scope pos) 0 it acc env=(do
      standAt iter.pos
      match ← pyNext it with
      | none=>pure (.done .next)
      | some v =>
        letOwnedTupleGo target it v
        assign target env v
        let mut ok:=true
        for c in ifs do
          if ok then ok ← isTrue c env (eval c env)
        if ok then
          nodeM (.ListComp elt [⟨target,iter,ifs,0⟩,g1] scope pos) 1 g1.iter acc env
        again (.compLoop (.ListComp elt [⟨target,iter,ifs,0⟩,g1] scope pos) 0 it acc env)):=by
  obtain ⟨a,b,c,d⟩:=g1
  have hg':d=0:=hg
  subst hg'
  refine bind_congr fun _=>bind_congr fun r=>?_
  cases r with
  | none=>rfl
  | some v =>
    refine bind_congr fun _=>bind_congr fun _=>bind_congr fun ok=>?_
    cases ok with
    | false=>rfl
    | true =>
      simp only [nodeM,if_true,bind_assoc]
      rfl
theorem compTurn_leaf2 (elt target iter:Expr) (ifs:List Expr) (g0:Comprehension) (scope:Scope) (pos:Pos) (it acc:Value) (env:Env) :
    compTurn (.ListComp elt [g0,⟨target,iter,ifs,0⟩] scope pos) 1 it acc env=(do
      standAt iter.pos
      match ← pyNext it with
      | none=>pure (.done .next)
      | some v =>
        letOwnedTupleGo target it v
        assign target env v
        let mut ok:=true
        for c in ifs do
          if ok then ok ← isTrue c env (eval c env)
        if ok then
          listM elt acc env
        again (.compLoop (.ListComp elt [g0,⟨target,iter,ifs,0⟩] scope pos) 1 it acc env)):=by rfl
theorem cl1 {α:Type} {elt tgt iter:Expr} {ifs:List Expr} {scope:Scope} {pos:Pos} {l:List α} {g:α→V} {f:α→List Dat} {a:List Dat} (ha:a.length + (l.flatMap f).length≤sizeLine)
    (turn:∀ x ∈ l,TurnL prog w W k sc Γ tgt ifs (listM elt) (g x) (f x)):CLoop prog w W k sc Γ listK (.ListComp elt [⟨tgt,iter,ifs,0⟩] scope pos) 0 tgt (l.map g) a (a ++ l.flatMap f) :=
  loopL (ifs:=ifs) (M:=listM elt) (p:=iter.pos) ha turn (fun _ _ _=>rfl) (fun _ _ _=>rfl) (fun _ _ _ _=>rfl) (fun _ _ _=>rfl)
theorem cl2 {α:Type} {elt tgt iter:Expr} {ifs:List Expr} {g0:Comprehension} {scope:Scope} {pos:Pos} {l:List α} {g:α→V} {f:α→List Dat} {a:List Dat} (ha:a.length + (l.flatMap f).length≤sizeLine)
    (turn:∀ x ∈ l,TurnL prog w W k sc Γ tgt ifs (listM elt) (g x) (f x)):CLoop prog w W k sc Γ listK (.ListComp elt [g0,⟨tgt,iter,ifs,0⟩] scope pos) 1 tgt (l.map g) a (a ++ l.flatMap f) :=
  loopL (ifs:=ifs) (M:=listM elt) (p:=iter.pos) ha turn (fun _ _ _=>rfl) (fun _ _ _=>rfl) (fun _ _ _ _=>rfl) (fun _ _ _=>compTurn_leaf2 ..)
theorem cl0 {α:Type} {elt tgt iter tgt' iter':Expr} {ifs ifs':List Expr} {scope:Scope} {pos:Pos} {l:List α} {g:α→V} {f:α→List Dat} {a:List Dat} (ha:a.length + (l.flatMap f).length≤sizeLine)
    (turn:∀ x ∈ l,TurnL prog w W k sc Γ tgt ifs (nodeM (.ListComp elt [⟨tgt,iter,ifs,0⟩,⟨tgt',iter',ifs',0⟩] scope pos) 1 iter') (g x) (f x)) :
    CLoop prog w W k sc Γ listK (.ListComp elt [⟨tgt,iter,ifs,0⟩,⟨tgt',iter',ifs',0⟩] scope pos) 0 tgt (l.map g) a (a ++ l.flatMap f) :=
  loopL (ifs:=ifs) (M:=nodeM (.ListComp elt [⟨tgt,iter,ifs,0⟩,⟨tgt',iter',ifs',0⟩] scope pos) 1 iter') (p:=iter.pos) ha turn (fun _ _ _=>rfl) (fun _ _ _=>rfl) (fun _ _ _ _=>rfl) (fun _ _ _=>compTurn_node _ _ _ _ _ rfl ..)
theorem emitL_node {α:Type} {elt tgt iter:Expr} {ifs:List Expr} {g0:Comprehension} {scope:Scope} {pos:Pos} {l:List α} {g:α→V} {f:α→List Dat} (hit:EvIter prog w W k sc false Γ tgt iter (l.map g))
    (turn:∀ x ∈ l,TurnL prog w W k sc Γ tgt ifs (listM elt) (g x) (f x)) (hs:∀ env x,foldedSetIterable iter env x=pure x:=by intro _ _; rfl) :
    EmitL prog w W k sc Γ (nodeM (.ListComp elt [g0,⟨tgt,iter,ifs,0⟩] scope pos) 1 iter) (l.flatMap f):=fun a ha =>
  emit_node hit (cl2 ha turn) (fun _ _ _ _ _ _ h h'=>start2 h h') hs
theorem ev_comp {elt iter tgt:Expr} {ifs:List Expr} {gs:List Comprehension} {scope:Scope} {pos:Pos} {xs:List V} {out:List Dat} (hok:scOk sc scope=true) (hit:EvIter prog w W k sc fn Γ tgt iter xs)
    (hl:CLoop prog w W k (relab sc scope) (capt sc scope Γ) listK (.ListComp elt (⟨tgt,iter,ifs,0⟩ :: gs) scope pos) 0 tgt xs [] out)
    (hs:∀ env x,foldedSetIterable iter env x=pure x:=by intro _ _; rfl):Ev prog w W k sc fn Γ (.ListComp elt (⟨tgt,iter,ifs,0⟩ :: gs) scope pos) (.dat (.list out)):=by
  intro fr P s F hsc st A Q E rm q
  rw [eval_ListComp]
  refine comp_run (K:=listK) (a:=[]) (o₀:=listOf ([]:List Value).toArray 0) st hsc rm hok rfl hit (fun s Q h=>wpAny_newObj_type h) rfl (fun F=>⟨[],0,rfl,.nil⟩) hl (fun _ _ _ _ _ _ h h'=>codeAny_compStart_list h h') (hs _) ?_
  intro s' F' C D o m g hD hok' hDn hDF hC hCn hCF hCD
  obtain ⟨vs,n,rfl,hr⟩:=hok'
  refine ⟨m,hC,fun h' hs'=>?_⟩
  have b':=st.base.grow g
  have hCl:=hC.lt
  have g₁:Grow W s { s' with heap:=h' } F F':=by
    refine ⟨fun a o ht e=>(hs'.2 a (fun q=>?_)).trans (g.keep a o ht e),fun p hp=>(hs'.2 _ (hCF p hp)).trans (g.has p hp),g.sub,g.new,g.tok,g.toks,?_,g.os,g.gens,g.tabs.keeps fun a o ha e=>(hs'.2 a fun q=>?_).trans e⟩
    · rw [q] at e; exact absurd (Heap.lt_size e) (Nat.not_lt.mpr hCn)
    · show _≤h'.objs.size; rw [hs'.1]; exact g.size
    · rw [q] at ha; exact st.base.not_tab_of_size hCn ha
  exact q _ _ _ (g₁.freeze hDn ((hs'.2 _ (Ne.symm hCD)).trans hD)) (.list (.head _) (hr.mono (Fz.le_ob _ _ _)))
theorem ev_lc1 {α:Type} {elt iter tgt:Expr} {ifs:List Expr} {scope:Scope} {pos:Pos} {l:List α} {g:α→V} (f:α→List Dat) (hok:scOk sc scope=true) (hit:EvIter prog w W k sc fn Γ tgt iter (l.map g))
    (turn:∀ x ∈ l,TurnL prog w W k (relab sc scope) (capt sc scope Γ) tgt ifs (listM elt) (g x) (f x)) (hz:(l.flatMap f).length≤sizeLine)
    (hs:∀ env x,foldedSetIterable iter env x=pure x:=by intro _ _; rfl):Ev prog w W k sc fn Γ (.ListComp elt [⟨tgt,iter,ifs,0⟩] scope pos) (.dat (.list (l.flatMap f))) :=
  ev_comp hok hit (by have:=cl1 (a:=[]) (elt:=elt) (iter:=iter) (scope:=scope) (pos:=pos) (by simpa using hz) turn; simpa using this) hs
theorem ev_lc2 {α:Type} {elt tgt iter tgt' iter':Expr} {ifs ifs':List Expr} {scope:Scope} {pos:Pos} {l:List α} {g:α→V} (f:α→List Dat) (hok:scOk sc scope=true) (hit:EvIter prog w W k sc fn Γ tgt iter (l.map g))
    (turn:∀ x ∈ l,TurnL prog w W k (relab sc scope) (capt sc scope Γ) tgt ifs (nodeM (.ListComp elt [⟨tgt,iter,ifs,0⟩,⟨tgt',iter',ifs',0⟩] scope pos) 1 iter') (g x) (f x)) (hz:(l.flatMap f).length≤sizeLine)
    (hs:∀ env x,foldedSetIterable iter env x=pure x:=by intro _ _; rfl):Ev prog w W k sc fn Γ (.ListComp elt [⟨tgt,iter,ifs,0⟩,⟨tgt',iter',ifs',0⟩] scope pos) (.dat (.list (l.flatMap f))) :=
  ev_comp hok hit (by have:=cl0 (a:=[]) (elt:=elt) (iter:=iter) (scope:=scope) (pos:=pos) (by simpa using hz) turn; simpa using this) hs
def swapsB (sc scope:Scope) (y:Str) (p pos:Pos):Bool :=
  (if sc.kind.isAnnotationScope then ScopeKind.function else sc.kind) == .function && sc.names.lookup y == some .local && p.line == pos.line && !(scope.names.any fun (n,k)=>n == y && (k == .local || k == .cell))
theorem swaps_true {sc scope:Scope} {y:Str} {p pos:Pos} {elt:Expr} {gens:List Comprehension} {line:Nat} (h:swapsB sc scope y p pos=true) (env:Env) (he:env.scope=sc):swapsWith (.ListComp elt gens scope pos) (some (.Name y p)) line env=pure true:=by
  subst he
  have e:swapsWith (.ListComp elt gens scope pos) (some (.Name y p)) line env=pure (swapsB env.scope scope y p pos):=rfl
  rw [e,h]
theorem ex1_assignComp {y:Str} {pos pos' spos:Pos} {elt iter tgt:Expr} {ifs:List Expr} {gs:List Comprehension} {scope:Scope} {xs:List V} {out:List Dat} (hok:scOk sc scope=true) (hit:EvIter prog w W k sc fn Γ tgt iter xs)
    (hl:CLoop prog w W k (relab sc scope) (capt sc scope Γ) listK (.ListComp elt (⟨tgt,iter,ifs,0⟩ :: gs) scope pos) 0 tgt xs [] out)
    (hk:sc.names.lookup y=some .local) (hsw:swapsB sc scope y pos' pos=true)
    (hs:∀ env x,foldedSetIterable iter env x=pure x:=by intro _ _; rfl) :
    Ex1 prog w W k sc fn Γ (.Assign [.Name y pos'] (.ListComp elt (⟨tgt,iter,ifs,0⟩ :: gs) scope pos) spos) (.next ((y,.val (.dat (.list out))) :: Γ)):=by
  intro fr P s F hsc st A Q E rm q
  rw [exec_Assign_Name_used _ _ _ _ (swaps_true hsw _ hsc)]
  refine wpAny_bind (wpAny_standAt (wpAny_bind ?_))
  show wpAny _ A (do let _ ← comprehension (.ListComp elt (⟨tgt,iter,ifs,0⟩ :: gs) scope pos) scope fr.env _ (newList []) false (eval iter fr.env) (some (assign (.Name y pos') fr.env))) _ _ s
  refine wpAny_bind (wpAny_mono (comp_run (Q:=fun _ s'=>Q .next s') (K:=listK) (a:=[]) (o₀:=listOf ([]:List Value).toArray 0) st hsc rm hok rfl hit (fun s Q h=>wpAny_newObj_type h) rfl (fun F=>⟨[],0,rfl,.nil⟩) hl (fun _ _ _ _ _ _ h h'=>codeAny_compStart_list h h') (hs _) ?_)
    (fun _ s' hq=>wpAny_pure (wpAny_pure hq)) fun _ _ e=>e)
  intro s' F' C D o m g hD hok' hDn hDF hC hCn hCF hCD
  obtain ⟨vs,n,rfl,hr⟩:=hok'
  obtain ⟨oC,esC,epC,hoC,rC⟩:=id hC
  have g₁:Grow W s s' F (F'.ob D (listOf vs.toArray n)):=g.freeze hDn hD
  have st₁:=St.frame (N:=[(C,oC)]) st g₁ (fun p hp=>by
    cases List.mem_singleton.mp hp
    refine ⟨hoC,hCn,fun q hq=>?_⟩
    rcases List.mem_cons.mp hq with rfl | hq
    · exact Ne.symm hCD
    · exact hCF q hq)
  have hd:V.is prog w (F'.ob D (listOf vs.toArray n)) (.ref D) (.dat (.list out)):=by
    refine Rep.list (.head _) (Reps.mono (F:=F') (Fz.le_ob _ _ _) ?_)
    simpa using hr
  show wpAny _ A (assign (.Name y pos') fr.env (.ref D)) _ _ _
  refine wpAny_assign_Name (st₁.storeV (d:=.dat (.list out)) hd (.inl (by rw [← hsc] at hk; exact hk)) fun s₂ st₂=>?_)
  obtain ⟨h2,h3,h4⟩:=st₂.prv _ (.head _)
  refine ⟨m,⟨oC,esC,epC,h2,rC⟩,fun h' hs'=>?_⟩
  have hPC:∀ p ∈ P,p.1≠C:=fun p hp e=>absurd (Heap.lt_size (st.prv p hp).1) (Nat.not_lt.mpr (by rw [e]; exact hCn))
  have st₃:=St.stepX (N:=[(C,oC)]) (N':=[]) (P:=P) st₂ (s':={ s₂ with heap:=h',toks:=s₂.toks }) (GrowX.same st₂.base hs' h4 h3 (Nat.le_refl _)) (fun _ h=>nomatch h) (fun _ h=>nomatch h)
    (fun p hp q hq=>by cases List.mem_singleton.mp hq; exact Ne.symm (hPC p hp)) (fun p hp=>by cases List.mem_singleton.mp hp; exact Nat.le_trans st.grow.size hCn)
  exact q _ _ _ ⟨rfl,st₃⟩ g₁.sub
end
end Mine
namespace Mine
structure FnOk (W:Wd) (d:DefRec) (a:Nat):Prop where
  glob:W.mg d.name=some (.ref a)
  obj:∃ o pm code doc,W.base.get? a=some o∧o.data=.func (docDef d.name d.params d.body d.scope pm code doc)∧W.base.CodeRec code d.name
theorem bindL_off {ko:Str→Option NameKind} {y:Str}:∀ {binds:List (Str × Value)} {m:Str→Option Value},y ∉ binds.map (·.1)→bindL ko binds m y=m y
  | [],_,_=>rfl
  | (n,v) :: r,m,h=>by
    simp only [List.map_cons,List.mem_cons,not_or] at h
    unfold bindL
    rw [bindL_off h.2]
    split
    · exact if_neg h.1
    · rfl
theorem bindC_off {ko:Str→Option NameKind} {y:Str}:∀ {binds:List (Str × Value)} {m:Str→Option Value},y ∉ binds.map (·.1)→bindC ko binds m y=m y
  | [],_,_=>rfl
  | (n,v) :: r,m,h=>by
    simp only [List.map_cons,List.mem_cons,not_or] at h
    unfold bindC
    rw [bindC_off h.2]
    split
    · rfl
    · exact if_neg h.1
theorem bindL_at {ko:Str→Option NameKind} {y:Str} {v:Value} (hk:ko y=some .local):∀ {binds:List (Str × Value)} {m:Str→Option Value},(binds.map (·.1)).Nodup→binds.lookup y=some v→bindL ko binds m y=some v
  | [],_,_,h=>nomatch h
  | (n,v') :: r,m,hn,h=>by
    simp only [List.map_cons,List.nodup_cons] at hn
    unfold bindL
    rw [List.lookup_cons] at h
    by_cases e:y=n
    · subst e
      rw [beq_self_eq_true] at h
      cases h
      rw [bindL_off hn.1,if_pos hk,if_pos rfl]
    · rw [beq_eq_false_iff_ne.mpr e] at h
      exact bindL_at hk hn.2 h
theorem bindC_at {ko:Str→Option NameKind} {y:Str} {v:Value} (hk:ko y=some .cell):∀ {binds:List (Str × Value)} {m:Str→Option Value},(binds.map (·.1)).Nodup→binds.lookup y=some v→bindC ko binds m y=some v
  | [],_,_,h=>nomatch h
  | (n,v') :: r,m,hn,h=>by
    simp only [List.map_cons,List.nodup_cons] at hn
    unfold bindC
    rw [List.lookup_cons] at h
    by_cases e:y=n
    · subst e
      rw [beq_self_eq_true] at h
      cases h
      rw [bindC_off hn.1,if_neg (by rw [hk]; intro h; cases h),if_pos rfl]
    · rw [beq_eq_false_iff_ne.mpr e] at h
      exact bindC_at hk hn.2 h
theorem cellsFrom_some {y:Str}:∀ {names:List (Str × NameKind)} {n:Nat} {acc:List (Str × Addr)},((y,NameKind.cell) ∈ names ∨ ∃ c,acc.lookup y=some c)→∃ c,(cellsFrom n names acc).lookup y=some c
  | [],_,_,h=>by
    rcases h with h | h
    · cases h
    · exact h
  | (m,kd) :: r,n,acc,h=>by
    unfold cellsFrom
    split
    · rename_i hc
      refine cellsFrom_some ?_
      rcases h with h | ⟨c,hc⟩
      · rcases List.mem_cons.mp h with h | h
        · cases h; exact .inr ⟨n,by rw [List.lookup_cons,beq_self_eq_true]⟩
        · exact .inl h
      · right
        rw [List.lookup_cons]
        cases y == m with
        | true=>exact ⟨_,rfl⟩
        | false=>exact ⟨c,hc⟩
    · rename_i hc
      refine cellsFrom_some ?_
      rcases h with h | h
      · rcases List.mem_cons.mp h with h | h
        · cases h; exact absurd rfl hc
        · exact .inl h
      · exact .inr h
def parOk (sc:Scope) (names:List Str):Bool :=
  sc.kind == .function && !sc.isCoroutine && !sc.isGenerator && names.all fun n=>sc.names.lookup n == some .local || sc.names.lookup n == some .cell
section
variable {prog:Program} {w:World} {W:Wd}
theorem call_frame {s s₁:Shared} {F:Fz} {sc:Scope} {env:Env} {binds:List (Str × Value)} {Γ:Ctx'} (b:Base W s F) (hsz:hz s≤hz s₁) (htk:s.toks≤s₁.toks)
    (hg:env.globals=mainGlobals) (hb:env.builtins=builtinsNs) (hsc:env.scope=sc) (hk:sc.kind=.function) (hcl:∃ n,env.cells=cellsFrom n sc.names [])
    (X:InCallC s env.locals (bindL env.kindOf binds fun _=>none) env.cells (bindC env.kindOf binds fun _=>none) s₁) (hn:(binds.map (·.1)).Nodup)
    (hΓ:∀ y bd,Γ.lookup y=some bd→(sc.names.lookup y=some .local ∨ sc.names.lookup y=some .cell)∧∃ x v,bd=.val x∧binds.lookup y=some v∧x.is prog w F v) :
    St prog w W ⟨s,F,env⟩ true Γ [] s₁ F:=by
  obtain ⟨⟨h',tk,e⟩,hns,keep,hL⟩:=X.toInCall
  have g:Grow W s s₁ F F:=Grow.of_keeps [] b keep (fun _ h=>nomatch h) hsz htk (by rw [e]) (by rw [e]; exact .rfl)
  have offF:∀ a,s.heap.objs.size≤a→∀ p ∈ F.obs,p.1≠a:=fun a ha p hp q=>absurd (Heap.lt_size (b.has p hp)) (Nat.not_lt.mpr (q ▸ ha))
  have hcell:∀ n c,env.cells.lookup n=some c→s₁.heap.IsCell c (bindC env.kindOf binds (fun _=>none) n)∧env.locals < c:=fun n c hc=>⟨X.cell n c hc,X.above n c (mem_of_lookup hc)⟩
  refine ⟨b.grow g,g,b.size,hg,hb,by show env.scope.kind=_; rw [hsc]; exact hk,⟨_,hns⟩,hL,offF _ hL,fun _ h=>(nomatch h),fun _ h=>(nomatch h),fun n c hc=>?_,fun n n' c h1 h2=>?_,fun x hx=>?_,fun y bd hy=>?_,?_⟩
  · obtain ⟨h1,h2⟩:=hcell n c hc
    exact ⟨⟨_,h1⟩,Nat.ne_of_gt h2,(fun _=>offF _ (Nat.le_trans hL (Nat.le_of_lt h2))),fun _ h=>(nomatch h),b.not_tab_of_size (Nat.le_trans hL (Nat.le_of_lt h2)),fun _=>Nat.le_trans hL (Nat.le_of_lt h2)⟩
  · exact name_of_addr X.apart (mem_of_lookup h1) (mem_of_lookup h2)
  · obtain ⟨n,hcl⟩:=hcl
    show ∃ c,env.cells.lookup x=some c
    rw [hcl]
    exact cellsFrom_some (.inl (mem_of_lookup (by rw [← hsc]; exact hx)))
  · obtain ⟨hkd,x,v,rfl,hv,hx⟩:=hΓ y bd hy
    refine ⟨v,?_,hx⟩
    rcases hkd with hkd | hkd
    · have hk':env.kindOf y=some .local:=by show env.scope.names.lookup y=_; rw [hsc]; exact hkd
      exact .inl ⟨hk',_,hns,bindL_at hk' hn hv⟩
    · have hk':env.kindOf y=some .cell:=by show env.scope.names.lookup y=_; rw [hsc]; exact hkd
      obtain ⟨n,hcl⟩:=hcl
      obtain ⟨c,hc⟩:=cellsFrom_some (n:=n) (acc:=[]) (.inl (mem_of_lookup hkd))
      rw [← hcl] at hc
      exact .inr ⟨.inl hk',c,hc,by have:=(hcell y c hc).1; rw [bindC_at hk' hn hv] at this; exact this⟩
  · intro x y bx by' a hne h1 h2 o1 o2
    obtain ⟨_,z,v,rfl,_⟩:=hΓ x bx h1
    cases o1
theorem VsIs.length {F:Fz} {vs:List Value} {xs:List V} (h:VsIs prog w F vs xs):vs.length=xs.length:=by
  induction h with
  | nil=>rfl
  | cons _ _ ih=>simp [ih]
theorem zip_lookup {F:Fz} {y:Str} {bd:Bd}:∀ {names:List Str} {vs:List Value} {xs:List V},VsIs prog w F vs xs→(names.zip (xs.map Bd.val)).lookup y=some bd→y ∈ names∧∃ x v,bd=.val x∧(names.zip vs).lookup y=some v∧x.is prog w F v
  | [],_,_,_,h=>by simp at h
  | n :: names,_,_,.nil,h=>by simp at h
  | n :: names,_,_,.cons (v:=v) (x:=x) hv hr,h=>by
    simp only [List.map_cons,List.zip_cons_cons,List.lookup_cons] at h ⊢
    cases e:y == n with
    | true =>
      rw [e] at h
      cases h
      exact ⟨by rw [eq_of_beq e]; exact .head _,x,v,rfl,rfl,hv⟩
    | false =>
      rw [e] at h
      obtain ⟨h1,h2⟩:=zip_lookup hr h
      exact ⟨.tail _ h1,h2⟩
theorem calls_def {d:DefRec} {k:Nat} {a:Nat} {xs:List V} {r:V} (fn:FnOk W d a) (names:List Str)
    (hb:∀ pm code doc (vs:List Value),vs.length=xs.length→bindArgs (docDef d.name d.params d.body d.scope pm code doc) ⟨vs,[]⟩=pure (names.zip vs))
    (hp:parOk d.scope names=true) (hn:names.Nodup) (hl:names.length=xs.length) (hex:Ex prog w W k d.scope true (names.zip (xs.map Bd.val)) d.body (.ret r)):Calls prog w W (k + 1) (.ref a) xs r:=by
  intro s F vs b hv A Q E rm q
  obtain ⟨o,pm,code,doc,ho,hd,hc⟩:=fn.obj
  unfold parOk at hp
  simp only [Bool.and_eq_true,beq_iff_eq,Bool.not_eq_true',List.all_eq_true,Bool.or_eq_true] at hp
  obtain ⟨⟨⟨hk,hco⟩,hgen⟩,hkinds⟩:=hp
  have vl:=hv.length
  refine wpAny_call ?_
  refine codeAny_call_function (fd:=docDef d.name d.params d.body d.scope pm code doc) rm.depth (b.base _ _ ho) hd hco hgen rfl (hc.keeps b.base) ?_
  rw [hb _ _ _ _ vl]
  have hbm:(names.zip vs).map (·.1)=names:=by
    rw [List.map_fst_zip]; omega
  have key:∀ x ∈ names.zip vs,d.scope.names.lookup x.1=some .local ∨ d.scope.names.lookup x.1=some .cell:=fun x hx=>hkinds x.1 (List.of_mem_zip hx).1
  refine wpAny_pure (any_hz (wpAny_newFunctionEnv_cells hk (fun x hx=>?_) fun env he s₁ X hz1 ht1=>?_))
  · rcases key x hx with h | h
    · exact .inl h
    · obtain ⟨c,hc⟩:=cellsFrom_some (n:=s.heap.objs.size + 1) (acc:=[]) (.inl (mem_of_lookup h))
      exact .inr ⟨h,by show ((cellsFrom (s.heap.objs.size + 1) d.scope.names []).lookup x.1).isSome=true; rw [hc]; rfl⟩
  · have es:env.scope=d.scope:=by rw [he]; rfl
    have st:St prog w W ⟨s,F,env⟩ true (names.zip (xs.map Bd.val)) [] s₁ F:=call_frame (sc:=d.scope) (binds:=names.zip vs) b hz1 ht1 (by rw [he]; rfl) (by rw [he]; rfl) es hk ⟨s.heap.objs.size + 1,by rw [he]; rfl⟩ X (by rw [hbm]; exact hn) fun y bd hy=>by
      obtain ⟨h1,x,v,e1,e2,e3⟩:=zip_lookup hv hy
      exact ⟨hkinds y h1,x,v,e1,e2,e3⟩
    refine ⟨W.nolimit.keeps (fun a o e=>X.toInCall.keep a o (b.base a o e)),codeAny_func ?_⟩
    refine hex ⟨s,F,env⟩ [] s₁ F es st _ _ _ (rm.deeper env) fun fl s' F' ho' hF'=>?_
    obtain ⟨v,rfl,hv',st'⟩:=ho'
    exact q v s' F' st'.grow hv'
end
end Mine
namespace Mine
variable {prog:Program} {w:World} {W:Wd} {k:Nat}
theorem bin_add {a b:Int}:BinG prog w W k .Add (.dat (.int a)) (.dat (.int b)) (.dat (.int (a + b))):=fun s F u v bs hu hv A Q E rm q=>by
  cases hu; cases hv; exact P.add_int (q _ _ _ (Grow.tk bs _) Rep.tk_int)
theorem bin_sub {a b:Int}:BinG prog w W k .Sub (.dat (.int a)) (.dat (.int b)) (.dat (.int (a - b))):=fun s F u v bs hu hv A Q E rm q=>by
  cases hu; cases hv; exact P.sub_int (q _ _ _ (Grow.tk bs _) Rep.tk_int)
theorem bin_mul {a b:Int} (hm:IntMulOk a b):BinG prog w W k .Mult (.dat (.int a)) (.dat (.int b)) (.dat (.int (a * b))):=fun s F u v bs hu hv A Q E rm q=>by
  cases hu; cases hv; exact P.mul_int (q _ _ _ (Grow.tk bs _) Rep.tk_int) hm
theorem bin_mod {a b:Int} (hb:b≠0):BinG prog w W k .Mod (.dat (.int a)) (.dat (.int b)) (.dat (.int (a.fmod b))):=fun s F u v bs hu hv A Q E rm q=>by
  cases hu; cases hv; exact PyProof.Rows.mod_int' hb (q _ _ _ (Grow.tk bs _) Rep.tk_int)
theorem bin_floordiv {a b:Int} (hb:b≠0) (hp:Builtin.divisionGoesByPylong a b=false):BinG prog w W k .FloorDiv (.dat (.int a)) (.dat (.int b)) (.dat (.int (a.fdiv b))):=fun s F u v bs hu hv A Q E rm q=>by
  cases hu; cases hv; exact PyProof.Rows.floordiv_int hb (q _ _ _ (Grow.tk bs _) Rep.tk_int) (.inl hp)
theorem bin_lshift {a n:Int} (hn:0≤n) (hz:(Builtin.Int.intBits a:Int) + n≤2 ^ 27):BinG prog w W k .LShift (.dat (.int a)) (.dat (.int n)) (.dat (.int (a * 2 ^ n.toNat))):=fun s F u v bs hu hv A Q E rm q=>by
  cases hu; cases hv; exact PyProof.Rows.lshift_int hn hz (q _ _ _ (Grow.tk bs _) Rep.tk_int)
theorem bin_rshift {a n:Int} (hn:0≤n):BinG prog w W k .RShift (.dat (.int a)) (.dat (.int n)) (.dat (.int (a.fdiv (2 ^ n.toNat)))):=fun s F u v bs hu hv A Q E rm q=>by
  cases hu; cases hv; exact PyProof.Rows.rshift_int hn (q _ _ _ (Grow.tk bs _) Rep.tk_int)
theorem bin_xor {a b:Int}:BinG prog w W k .BitXor (.dat (.int a)) (.dat (.int b)) (.dat (.int (Builtin.bitXor a b))):=fun s F u v bs hu hv A Q E rm q=>by
  cases hu; cases hv; exact PyProof.Rows.xor_int (q _ _ _ (Grow.tk bs _) Rep.tk_int)
theorem bin_sub_bool {a b:Bool}:BinG prog w W k .Sub (.dat (.bool a)) (.dat (.bool b)) (.dat (.int (PyProof.Rows.b2i a - PyProof.Rows.b2i b))):=fun s F u v bs hu hv A Q E rm q=>by
  cases hu; cases hv; exact PyProof.Rows.sub_bool (q _ _ _ (Grow.tk bs _) Rep.tk_int)
theorem un_neg {a:Int}:UnG prog w W k .USub (.dat (.int a)) (.dat (.int (-a))):=fun s F u bs hu A Q E rm q=>by
  cases hu; exact P.neg_int (q _ _ _ (Grow.tk bs _) Rep.tk_int)
theorem un_inv {a:Int}:UnG prog w W k .Invert (.dat (.int a)) (.dat (.int (Builtin.bitNot a))):=fun s F u bs hu A Q E rm q=>by
  cases hu; exact PyProof.Rows.invert_int (q _ _ _ (Grow.tk bs _) Rep.tk_int)
theorem cmp_eq {a b:Int}:CmpG prog w W k .Eq (.dat (.int a)) (.dat (.int b)) (.dat (.bool (a == b))):=fun s F u v bs hu hv A Q E rm q=>by
  cases hu; cases hv; exact P.eq_int (q _ _ _ (Grow.refl bs) (.bool _))
theorem cmp_ne {a b:Int}:CmpG prog w W k .NotEq (.dat (.int a)) (.dat (.int b)) (.dat (.bool (a != b))):=fun s F u v bs hu hv A Q E rm q=>by
  cases hu; cases hv; exact P.ne_int (q _ _ _ (Grow.refl bs) (.bool _))
theorem cmp_lt {a b:Int}:CmpG prog w W k .Lt (.dat (.int a)) (.dat (.int b)) (.dat (.bool (decide (a < b)))):=fun s F u v bs hu hv A Q E rm q=>by
  cases hu; cases hv; exact P.lt_int (q _ _ _ (Grow.refl bs) (.bool _))
theorem cmp_ge {a b:Int}:CmpG prog w W k .GtE (.dat (.int a)) (.dat (.int b)) (.dat (.bool (decide (a ≥ b)))):=fun s F u v bs hu hv A Q E rm q=>by
  cases hu; cases hv; exact P.ge_int (q _ _ _ (Grow.refl bs) (.bool _))
theorem cmp_le_num {a b:Int}:CmpG prog w W k .LtE (.dat (.int a)) (.num b) (.dat (.bool (decide (a≤b)))):=fun s F u v bs hu hv A Q E rm q=>by
  cases hu; obtain ⟨t,rfl⟩:=hv; exact P.le_int (q _ _ _ (Grow.refl bs) (.bool _))
theorem bin_add_str {x y:Str} (hz:(x ++ y).length≤sizeLine):BinG prog w W k .Add (.dat (.str x)) (.dat (.str y)) (.dat (.str (x ++ y))):=fun s F u v bs hu hv A Q E rm q=>by
  cases hu with
  | str hx =>
    cases hv with
    | str hy =>
      refine P.add_str ?_
      by_cases h1:(x.length == 0)=true
      · rw [if_pos h1]
        have e:x ++ y=y:=by
          have:x.cps.size=0:=beq_iff_eq.mp h1
          show (⟨x.cps ++ y.cps⟩:Str)=y
          rw [Array.size_eq_zero_iff.mp this]; simp
        rw [e] at q
        exact q _ _ _ (Grow.refl bs) (.str hy)
      · rw [if_neg h1]
        by_cases h2:(y.length == 0)=true
        · rw [if_pos h2]
          have e:x ++ y=x:=by
            have:y.cps.size=0:=beq_iff_eq.mp h2
            show (⟨x.cps ++ y.cps⟩:Str)=x
            rw [Array.size_eq_zero_iff.mp this]; simp
          rw [e] at q
          exact q _ _ _ (Grow.refl bs) (.str hx)
        · rw [if_neg h2]
          exact ⟨hz,q _ _ _ (Grow.tk bs _) Rep.tk_str⟩
theorem cmp_lt_str {x y:Str}:CmpG prog w W k .Lt (.dat (.str x)) (.dat (.str y)) (.dat (.bool (decide (x.cps.toList < y.cps.toList)))):=fun s F u v bs hu hv A Q E rm q=>by
  cases hu; cases hv; exact P.lt_str (q _ _ _ (Grow.refl bs) (.bool _))
theorem cmp_gt_str {x y:Str}:CmpG prog w W k .Gt (.dat (.str x)) (.dat (.str y)) (.dat (.bool (decide (y.cps.toList < x.cps.toList)))):=fun s F u v bs hu hv A Q E rm q=>by
  cases hu; cases hv; exact P.gt_str (q _ _ _ (Grow.refl bs) (.bool _))
def strIn (y x:Str):Bool:=!(Builtin.Str.occurrences x y 0 x.length 1).isEmpty
theorem cmp_in_str {x y:Str}:CmpG prog w W k .In (.dat (.str y)) (.dat (.str x)) (.dat (.bool (strIn y x))):=fun s F u v bs hu hv A Q E rm q=>by
  cases hu; cases hv; exact P.in_str (q _ _ _ (Grow.refl bs) (.bool _))
theorem cmp_notIn_str {x y:Str}:CmpG prog w W k .NotIn (.dat (.str y)) (.dat (.str x)) (.dat (.bool (!strIn y x))):=fun s F u v bs hu hv A Q E rm q=>by
  cases hu; cases hv; exact P.notIn_str (q _ _ _ (Grow.refl bs) (.bool _))
theorem tr_bool {b:Bool}:TrG prog w W k (.dat (.bool b)) b:=fun s F u bs hu A Q E rm q=>by
  cases hu; exact wpAny_truthy_bool (q _ _ (Grow.refl bs))
theorem tr_int {a:Int}:TrG prog w W k (.dat (.int a)) (a != 0):=fun s F u bs hu A Q E rm q=>by
  cases hu; exact P.truthy_int (q _ _ (Grow.refl bs))
theorem news_of {F:Fz} {s:Shared} (b:Base W s F):News { objs:=#[] } s.heap.objs.size s.heap F.obs:=fun p hp =>
  ⟨b.has p hp,Nat.ne_of_lt (Heap.lt_size (b.has p hp)),by simp [Heap.get?]⟩
open Classical in
theorem cmp_eq_list {ds es:List Dat} {c:Bool} (hc:c=true ↔ ds=es) (ha:∀ d ∈ ds,kqdOk 8 d=true) (hb:∀ d ∈ es,kqdOk 8 d=true):CmpG prog w W k .Eq (.dat (.list ds)) (.dat (.list es)) (.dat (.bool c)):=fun s F u v bs hu hv A Q E rm q=>by
  cases hu with
  | list hm hr =>
    cases hv with
    | list hm' hr' =>
      exact kqd_eq (news_of bs) hm rfl rfl hr.dat (fun p h=>h) hm' rfl rfl hr'.dat (fun p h=>h) ha hb rm.units (by
        have e:decide (ds=es)=c:=by cases c <;> simp_all
        rw [e]; exact q _ _ _ (Grow.refl bs) (.bool _))
open Classical in
theorem cmp_ne_list {ds es:List Dat} {c:Bool} (hc:c=true ↔ ds=es) (ha:∀ d ∈ ds,kqdOk 8 d=true) (hb:∀ d ∈ es,kqdOk 8 d=true):CmpG prog w W k .NotEq (.dat (.list ds)) (.dat (.list es)) (.dat (.bool (!c))):=fun s F u v bs hu hv A Q E rm q=>by
  cases hu with
  | list hm hr =>
    cases hv with
    | list hm' hr' =>
      exact kqd_ne (news_of bs) hm rfl rfl hr.dat (fun p h=>h) hm' rfl rfl hr'.dat (fun p h=>h) ha hb rm.units (by
        have e:decide (ds=es)=c:=by cases c <;> simp_all
        rw [e]; exact q _ _ _ (Grow.refl bs) (.bool _))
open Classical in
theorem cmp_notIn_list {ds:List Dat} {d:Dat} {c:Bool} (hc:c=true ↔ d ∈ ds) (ha:∀ d ∈ ds,kqdOk 8 d=true) (hd:kqdOk 8 d=true):CmpG prog w W k .NotIn (.dat d) (.dat (.list ds)) (.dat (.bool (!c))):=fun s F u v bs hu hv A Q E rm q=>by
  cases hv with
  | list hm hr=>exact kqd_notIn (news_of bs) hm rfl rfl hr.dat (fun p h=>h) (Rep.dat hu) (fun p h=>h) ha hd rm.units (by
        have e:decide (d ∈ ds)=c:=by cases c <;> simp_all
        rw [e]; exact q _ _ _ (Grow.refl bs) (.bool _))
theorem isL_of {F:Fz} {s:Shared} (b:Base W s F) {l n:Nat} {vs:List Value} (h:(l,listOf vs.toArray n) ∈ F.obs):IsL s.heap l vs.toArray n:=b.has _ h
theorem bin_add_list {ds es:List Dat} (hz:ds.length + es.length≤sizeLine):BinG prog w W k .Add (.dat (.list ds)) (.dat (.list es)) (.dat (.list (ds ++ es))):=fun s F u v bs hu hv A Q E rm q=>by
  cases hu with
  | list hm hr =>
    cases hv with
    | list hm' hr' =>
      refine P.add_list (isL_of bs hm) (isL_of bs hm') ?_ (by simpa [hr.length,hr'.length] using hz)
      rename_i a1 vs1 n1 a2 vs2 n2
      rw [show vs1.toArray ++ vs2.toArray=(vs1 ++ vs2).toArray by simp]
      exact q _ _ _ (Grow.push bs _ (Nat.le_refl _) rfl) (.list (.head _) ((hr.append hr').mono (Fz.le_ob _ _ _)))
theorem reps_replicate {F:Fz} {vs:List Value} {ds:List Dat} (h:Reps F vs ds):∀ n:Nat,Reps F ((List.replicate n vs).flatten) ((List.replicate n ds).flatten)
  | 0=>.nil
  | n + 1=>by
    rw [List.replicate_succ,List.replicate_succ,List.flatten_cons,List.flatten_cons]
    exact h.append (reps_replicate h n)
end Mine
namespace Mine
variable {prog:Program} {w:World} {W:Wd} {k:Nat} {sc:Scope} {fn:Bool} {Γ:Ctx'}
section
variable (prog w W)
def GetG (k:Nat) (x i z:V):Prop :=
  ∀ s F u v,Base W s F→x.is prog w F u→i.is prog w F v→(∃ T id,s.TypeIs u T∧typeLookup (.type T) "__getitem__"=pure (some (.builtin id)))∧Gives prog w W k (getItem u v) s F (Is prog w z)
end
theorem ev_sub {value slice:Expr} {pos:Pos} {x i z:V} (hx:Ev prog w W k sc fn Γ value x) (hi:Ev prog w W k sc fn Γ slice i) (hg:GetG prog w W k x i z)
    (hs:∀ o v,subscripted slice false o v=operate [o,v] (getItem o v):=by intro _ _; rfl):Ev prog w W k sc fn Γ (.Subscript value slice pos) z:=fun fr P s F hsc st A Q E rm q =>
  Subscript_ (hx fr P s F hsc st A _ E rm fun u s₁ F₁ g₁ hu=>hi fr P s₁ F₁ hsc (st.step g₁) A _ E rm fun v s₂ F₂ g₂ hv=>by
    obtain ⟨⟨T,id,hT,hl⟩,hg'⟩:=hg s₂ F₂ u v ((st.step g₁).step g₂).base (V.is.mono g₂.sub hu) hv
    exact tail_any hT hl (hg' A _ E rm fun z s₃ F₃ g₃ hz=>q z s₃ F₃ ((g₁.trans g₂).trans g₃) hz) (hs u v))
theorem get_list {ds:List Dat} {i:Int} {d:Dat} (h0:0≤i) (hfit:i < 2 ^ 63) (hd:ds[i.toNat]?=some d):GetG prog w W k (.dat (.list ds)) (.dat (.int i)) (.dat d):=fun s F u v b hu hv=>by
  cases hu with
  | list hm hr =>
    cases hv with
    | int ht =>
      have hl:=isList_of b hm
      obtain ⟨x,hx,hd'⟩:=hr.get hd
      exact ⟨⟨_,_,hl.typeIs,slot_list_getitem.lookup⟩,fun A Q E rm q=>wpAny_getItem_list hl h0 hfit (by simpa using hx) (q _ _ _ (Grow.refl b) hd')⟩
theorem get_bytes {bs:Array UInt8} {i:Int} {c:UInt8} (h0:0≤i) (hc:bs[i.toNat]?=some c) (hz:bs.size≤1099511627776):GetG prog w W k (.dat (.bytes bs)) (.dat (.int i)) (.dat (.int (c.toNat:Int))):=fun s F u v b hu hv=>by
  cases hu with
  | bytes =>
    cases hv with
    | int ht =>
      rename_i t₁ t₂
      refine ⟨⟨"bytes",_,typeIs_bytes _ _ _,FB.slot_bytes_getitem.lookup⟩,fun A Q E rm q=>?_⟩
      have hlt:i.toNat < bs.size:=by
        rw [Array.getElem?_eq_some_iff] at hc; exact hc.1
      refine getItem_gives (typeIs_bytes s _ _) (by decide) FB.slot_bytes_getitem FB.entry_bytes_getitem (FB.args_bytes_getitem_2 _ _) (gives_bytes_getitem _ i _ _ c ?_ ?_) (q _ _ _ (Grow.tk b _) Rep.tk_int)
      · simp only [Builtin.Bytes.fitsIndex,Bool.and_eq_true,decide_eq_true_eq]; omega
      · rw [seqIndex_of h0 (by omega)]
        simpa using hc
theorem get_str {x:Str} {i:Int} {c:Nat} (h0:0≤i) (hc:x.cps[i.toNat]?=some c) (hz:x.length≤sizeLine):GetG prog w W k (.dat (.str x)) (.dat (.int i)) (.dat (chr1 c)):=fun s F u v b hu hv=>by
  cases hu with
  | str hx =>
    cases hv with
    | int ht =>
      refine ⟨⟨"str",_,typeIs_str _ _ _,PySem.F.slot_str_getitem.lookup⟩,fun A Q E rm q=>?_⟩
      have hlt:i.toNat < x.cps.size:=by
        rw [Array.getElem?_eq_some_iff] at hc; exact hc.1
      have hz':x.cps.size≤16777216:=hz
      refine P.getItem_str (c:=c) ?_ ?_ (q _ _ _ (Grow.tk b _) Rep.tk_str)
      · simp; omega
      · rw [seqIndex_of (n:=x.length) h0 (by show i < (x.cps.size:Int); omega)]
        simpa using hc
theorem get_tuple {ds:List Dat} {i:Int} {d:Dat} (h0:0≤i) (hfit:i < 2 ^ 63) (hd:ds[i.toNat]?=some d):GetG prog w W k (.dat (.tuple ds)) (.dat (.int i)) (.dat d):=fun s F u v b hu hv=>by
  cases hu with
  | tuple hm hr =>
    cases hv with
    | int ht =>
      have hl:=isTuple_of b hm
      obtain ⟨x,hx,hd'⟩:=hr.get hd
      rename_i a vs n t
      have hlt:i.toNat < vs.length:=by
        rw [List.getElem?_eq_some_iff] at hx; exact hx.1
      exact ⟨⟨"tuple",_,⟨_,b.has _ hm,rfl⟩,slot_tuple_getitem.lookup⟩,fun A Q E rm q=>getItem_tuple (j:=i.toNat) (items:=vs.toArray) (isTuple_of b hm) (by omega) hfit (by rw [seqIndex_of h0 (by simp; omega)]) (by simpa using hx) (q _ _ _ (Grow.refl b) hd')⟩
def pickD (ds:List Dat) (lo hi st:Option Int):List Dat :=
  (sliceRange (sliceBounds lo hi st ds.length).1 (sliceBounds lo hi st ds.length).2.1 (sliceBounds lo hi st ds.length).2.2).filterMap (ds[·]?)
theorem reps_filterMap {F:Fz} {vs:List Value} {ds:List Dat} (h:Reps F vs ds):∀ (r:List Nat),Reps F (r.filterMap (vs[·]?)) (r.filterMap (ds[·]?))
  | []=>.nil
  | i :: r=>by
    have ih:=reps_filterMap h r
    cases hd:ds[i]? with
    | none=>simp only [List.filterMap_cons,hd,h.get_none hd]; exact ih
    | some d =>
      obtain ⟨v,hv,hr⟩:=h.get hd
      simp only [List.filterMap_cons,hd,hv]
      exact .cons hr ih
theorem reps_pick {F:Fz} {vs:List Value} {ds:List Dat} (h:Reps F vs ds) (lo hi st:Option Int):∃ ws:List Value,slicePick vs.toArray lo hi st=ws.toArray∧Reps F ws (pickD ds lo hi st):=by
  refine ⟨_,rfl,?_⟩
  unfold pickD
  have e:vs.toArray.size=ds.length:=by rw [List.size_toArray,h.length]
  rw [e]
  have:=reps_filterMap h (sliceRange (sliceBounds lo hi st ds.length).1 (sliceBounds lo hi st ds.length).2.1 (sliceBounds lo hi st ds.length).2.2)
  simpa using this
section
variable (prog w W)
def EvP (k:Nat) (sc:Scope) (fn:Bool) (Γ:Ctx') (e:Option Expr) (i:Option Int):Prop :=
  ∀ fr P s F,fr.env.scope=sc→St prog w W fr fn Γ P s F→∀ (A:Around) (Q:Value→Shared→Prop) (E:Value→Shared→Prop),Room k A →
    (∀ v s' F',Grow W s s' F F'→(∃ p:Option (Int × Tok),v=partValue p∧p.map (·.1)=i)→Q v s')→wpAny (model prog w) A (evalPart e fr.env) Q E s
end
theorem evp_none:EvP prog w W k sc fn Γ none none:=fun fr P s F hsc st A Q E rm q=>wpAny_pure (q _ _ _ (Grow.refl st.base) ⟨none,rfl,rfl⟩)
theorem evp_some {e:Expr} {i:Int} (h:Ev prog w W k sc fn Γ e (.dat (.int i))):EvP prog w W k sc fn Γ (some e) (some i):=fun fr P s F hsc st A Q E rm q =>
  h fr P s F hsc st A Q E rm fun v s' F' g hv=>by
    cases hv with
    | int ht=>exact q _ _ _ g ⟨some (i,_),rfl,rfl⟩
theorem isPart_of {p:Option (Int × Tok)} {i:Option Int} (h:p.map (·.1)=i):IsPart (partValue p) i:=by
  cases p with
  | none=>cases h; exact .none
  | some q=>cases h; exact .int _ _
theorem ev_slice_list {value:Expr} {lower upper:Option Expr} {p pos:Pos} {ds:List Dat} {lo hi:Option Int} (hx:Ev prog w W k sc fn Γ value (.dat (.list ds))) (hl:EvP prog w W k sc fn Γ lower lo) (hu:EvP prog w W k sc fn Γ upper hi) (hz:ds.length≤sizeLine) :
    Ev prog w W k sc fn Γ (.Subscript value (.Slice lower upper none p) pos) (.dat (.list (pickD ds lo hi none))):=fun fr P s F hsc st A Q E rm q =>
  Subscript_ (hx fr P s F hsc st A _ E rm fun u s₁ F₁ g₁ hu₁=>wpAny_Slice (hl fr P s₁ F₁ hsc (st.step g₁) A _ E rm fun vl s₂ F₂ g₂ hvl =>
    hu fr P s₂ F₂ hsc ((st.step g₁).step g₂) A _ E rm fun vu s₃ F₃ g₃ hvu=>wpAny_pure (by
      have b₃:=(((st.step g₁).step g₂).step g₃).base
      have g₄:=Grow.pushed b₃ { cls:=.type "slice",data:=.fields #[vl,vu,.none] } (Nat.le_refl s₃.toks)
      have b₄:=b₃.grow g₄
      have hu₄:=V.is.mono g₃.sub (V.is.mono g₂.sub hu₁)
      obtain ⟨pl,rfl,hpl⟩:=hvl
      obtain ⟨pu,rfl,hpu⟩:=hvu
      cases hu₄ with
      | list hm hr =>
        obtain ⟨ws,he,hw⟩:=reps_pick hr lo hi none
        have hls:=isList_of b₄ hm
        refine tail_any hls.typeIs list_getitem_lookup (wpAny_getItem_list_slice hls (Heap.IsSliceOf.new ..) (isPart_of hpl) (isPart_of hpu) .none (by simp) ?_ (by rw [List.size_toArray,hr.length]; exact hz)) rfl
        rw [he]
        exact q _ _ _ ((((g₁.trans g₂).trans g₃).trans g₄).trans (Grow.push b₄ _ (Nat.le_refl _) rfl)) (.list (.head _) (hw.mono (Fz.le_ob _ _ _))))))
theorem ev_slice_step {value step:Expr} {lower upper:Option Expr} {p pos:Pos} {ds:List Dat} {lo hi:Option Int} {c:Int} (hx:Ev prog w W k sc fn Γ value (.dat (.list ds))) (hl:EvP prog w W k sc fn Γ lower lo) (hu:EvP prog w W k sc fn Γ upper hi)
    (hc:Ev prog w W k sc fn Γ step (.dat (.int c))) (hc0:c≠0) (hz:ds.length≤sizeLine) :
    Ev prog w W k sc fn Γ (.Subscript value (.Slice lower upper (some step) p) pos) (.dat (.list (pickD ds lo hi (some c)))):=fun fr P s F hsc st A Q E rm q =>
  Subscript_ (hx fr P s F hsc st A _ E rm fun u s₁ F₁ g₁ hu₁=>wpAny_Slice (hl fr P s₁ F₁ hsc (st.step g₁) A _ E rm fun vl s₂ F₂ g₂ hvl =>
    hu fr P s₂ F₂ hsc ((st.step g₁).step g₂) A _ E rm fun vu s₃ F₃ g₃ hvu=>hc fr P s₃ F₃ hsc (((st.step g₁).step g₂).step g₃) A _ E rm fun vc s₅ F₅ g₅ hvc=>(by
      have b₃:=((((st.step g₁).step g₂).step g₃).step g₅).base
      have g₄:=Grow.pushed b₃ { cls:=.type "slice",data:=.fields #[vl,vu,vc] } (Nat.le_refl s₅.toks)
      have b₄:=b₃.grow g₄
      have hu₄:=V.is.mono g₅.sub (V.is.mono g₃.sub (V.is.mono g₂.sub hu₁))
      obtain ⟨pl,rfl,hpl⟩:=hvl
      obtain ⟨pu,rfl,hpu⟩:=hvu
      cases hvc with
      | int htc =>
      cases hu₄ with
      | list hm hr =>
        obtain ⟨ws,he,hw⟩:=reps_pick hr lo hi (some c)
        have hls:=isList_of b₄ hm
        refine tail_any hls.typeIs list_getitem_lookup (wpAny_getItem_list_slice hls (Heap.IsSliceOf.new ..) (isPart_of hpl) (isPart_of hpu) (.int _ _) (by simpa using hc0) ?_ (by rw [List.size_toArray,hr.length]; exact hz)) rfl
        rw [he]
        exact q _ _ _ (((((g₁.trans g₂).trans g₃).trans g₅).trans g₄).trans (Grow.push b₄ _ (Nat.le_refl _) rfl)) (.list (.head _) (hw.mono (Fz.le_ob _ _ _))))))
def pickS (x:Str) (lo hi:Option Int):Str:=⟨((Builtin.Str.strSliceIndices lo hi 1 x.length).filterMap (x.cps[·]?)).toArray⟩
theorem ev_slice_str {value:Expr} {lower upper:Option Expr} {p pos:Pos} {x:Str} {lo hi:Option Int} (hx:Ev prog w W k sc fn Γ value (.dat (.str x))) (hl:EvP prog w W k sc fn Γ lower lo) (hu:EvP prog w W k sc fn Γ upper hi)
    (hz:(pickS x lo hi).length≤sizeLine) (hw:(Builtin.Str.strSliceIndices lo hi 1 x.length).length=x.length→pickS x lo hi=x) :
    Ev prog w W k sc fn Γ (.Subscript value (.Slice lower upper none p) pos) (.dat (.str (pickS x lo hi))):=fun fr P s F hsc st A Q E rm q =>
  Subscript_ (hx fr P s F hsc st A _ E rm fun u s₁ F₁ g₁ hu₁=>wpAny_Slice (hl fr P s₁ F₁ hsc (st.step g₁) A _ E rm fun vl s₂ F₂ g₂ hvl =>
    hu fr P s₂ F₂ hsc ((st.step g₁).step g₂) A _ E rm fun vu s₃ F₃ g₃ hvu=>wpAny_pure (by
      have b₃:=(((st.step g₁).step g₂).step g₃).base
      have g₄:=Grow.pushed b₃ { cls:=.type "slice",data:=.fields #[vl,vu,.none] } (Nat.le_refl s₃.toks)
      have b₄:=b₃.grow g₄
      have hu₄:=V.is.mono g₃.sub (V.is.mono g₂.sub hu₁)
      obtain ⟨pl,rfl,hpl⟩:=hvl
      obtain ⟨pu,rfl,hpu⟩:=hvu
      cases hu₄ with
      | str hm =>
        rename_i tx
        have hpost:(sliceMade x tx pl pu none).post Q { s₃ with heap:=s₃.heap.push { cls:=.type "slice",data:=.fields #[partValue pl,partValue pu,.none] } }:=by
          unfold sliceMade slicePicked
          rw [hpl,hpu]
          by_cases hc:((((none:Option (Int × Tok)).map (·.1)).getD 1 == 1 && (Builtin.Str.strSliceIndices lo hi (((none:Option (Int × Tok)).map (·.1)).getD 1) x.length).length == x.length))=true
          · rw [if_pos hc]
            have e:=hw (by simpa using hc)
            rw [e] at q
            exact q _ _ _ (((g₁.trans g₂).trans g₃).trans g₄) (.str hm)
          · rw [if_neg hc]
            exact ⟨hz,q _ _ _ ((((g₁.trans g₂).trans g₃).trans g₄).trans (Grow.tk b₄ _)) Rep.tk_str⟩
        exact tail_any (typeIs_str _ _ _) PySem.F.slot_str_getitem.lookup (wpAny_getItem_str_slice (l:=pl) (u:=pu) (st:=none) ⟨_,Heap.get?_push_size _ rfl,rfl,rfl⟩ rfl hpost) rfl)))
end Mine
namespace Mine
variable {prog:Program} {w:World} {W:Wd} {k:Nat} {sc:Scope} {fn:Bool} {Γ:Ctx'}
theorem c_len_list {ds:List Dat} (hz:ds.length≤sizeLine):Calls prog w W k (.builtin "len") [.dat (.list ds)] (.dat (.int (ds.length:Int))):=fun s F vs b hv A Q E rm q=>by
  cases hv with
  | cons h1 hr =>
    cases hr
    cases h1 with
    | list hm hr =>
      have e:=hr.length
      have hz':ds.length≤16777216:=hz
      refine Calls.call_len_list (isList_of b hm) (by simp; omega) ?_
      rw [List.size_toArray,e]
      exact q _ _ _ ((Grow.more b (Nat.le_succ _)).trans (Grow.tk (b.grow (Grow.more b (Nat.le_succ _))) _)) Rep.tk_int
theorem c_len_str {x:Str} (hz:x.length≤sizeLine):Calls prog w W k (.builtin "len") [.dat (.str x)] (.dat (.int (x.length:Int))):=fun s F vs b hv A Q E rm q=>by
  cases hv with
  | cons h1 hr =>
    cases hr
    cases h1 with
    | str hm =>
      have hz':x.length≤16777216:=hz
      exact P.len_str (by omega) (q _ _ _ ((Grow.more b (Nat.le_succ _)).trans (Grow.tk (b.grow (Grow.more b (Nat.le_succ _))) _)) Rep.tk_int)
theorem c_len_bytes {x:Array UInt8} (hz:x.size≤sizeLine):Calls prog w W k (.builtin "len") [.dat (.bytes x)] (.dat (.int (x.size:Int))):=fun s F vs b hv A Q E rm q=>by
  cases hv with
  | cons h1 hr =>
    cases hr
    cases h1 with
    | bytes =>
      have hz':x.size≤16777216:=hz
      exact len_bytes (by omega) (q _ _ _ ((Grow.more b (Nat.le_succ _)).trans (Grow.tk (b.grow (Grow.more b (Nat.le_succ _))) _)) Rep.tk_int)
theorem c_int_bool {c:Bool}:Calls prog w W k (.type "int") [.dat (.bool c)] (.dat (.int (if c then 1 else 0))):=fun s F vs b hv A Q E rm q=>by
  cases hv with
  | cons h1 hr =>
    cases hr
    cases h1
    exact call_int_bool (q _ _ _ (Grow.tk b _) Rep.tk_int)
theorem c_bit_length {a:Int}:Calls prog w W k (.builtin "int.bit_length") [.dat (.int a)] (.dat (.int (Builtin.Int.intBits a:Int))):=fun s F vs b hv A Q E rm q=>by
  cases hv with
  | cons h1 hr =>
    cases hr
    cases h1
    exact call_int_bit_length (q _ _ _ (Grow.tk b _) Rep.tk_int)
theorem c_divmod {a c:Int} (hc:c≠0) (hp:Builtin.divisionGoesByPylong a c=false):Calls prog w W k (.builtin "divmod") [.dat (.int a),.dat (.int c)] (.dat (.tuple [.int (a.fdiv c),.int (a.fmod c)])):=fun s F vs b hv A Q E rm q=>by
  cases hv with
  | cons h1 hr =>
    cases hr with
    | cons h2 hr =>
      cases hr
      cases h1; cases h2
      refine divmod_int hc ?_ (.inl hp)
      have g1:=Grow.tk b (.int (a.fdiv c))
      have b1:=b.grow g1
      have g2:=Grow.tk b1 (.int (a.fmod c))
      have b2:=b1.grow g2
      refine q _ _ _ ((g1.trans g2).trans (Grow.push b2 { cls:=.type "tuple",data:=.seq [.int (a.fdiv c) s.toks,.int (a.fmod c) (s.toks + 1)].toArray } (Nat.le_refl _) rfl)) (.tuple (.head _) (.cons (.int ?_) (.cons (.int ?_) .nil)))
      · exact .tail _ (.head _)
      · exact .head _
theorem c_max2 {a c:Int}:Calls prog w W k (.builtin "max") [.dat (.int a),.dat (.int c)] (.dat (.int (if c > a then c else a))):=fun s F vs b hv A Q E rm q=>by
  cases hv with
  | cons h1 hr =>
    cases hr with
    | cons h2 hr =>
      cases hr
      cases h1 with
      | int h1 =>
        cases h2 with
        | int h2 =>
          refine any_hz (max_two_ints rm.handled fun h' tk hk hz1 ht1=>?_)
          refine q _ _ F (Grow.of_keeps [] b hk (fun _ h=>nomatch h) hz1 ht1 rfl .rfl) ?_
          show Rep F _ _
          split <;> exact .int (by assumption)
theorem c_min2 {a c:Int}:Calls prog w W k (.builtin "min") [.dat (.int a),.dat (.int c)] (.dat (.int (if c < a then c else a))):=fun s F vs b hv A Q E rm q=>by
  cases hv with
  | cons h1 hr =>
    cases hr with
    | cons h2 hr =>
      cases hr
      cases h1 with
      | int h1 =>
        cases h2 with
        | int h2 =>
          refine any_hz (min_two_ints rm.handled fun h' tk hk hz1 ht1=>?_)
          refine q _ _ F (Grow.of_keeps [] b hk (fun _ h=>nomatch h) hz1 ht1 rfl .rfl) ?_
          show Rep F _ _
          split <;> exact .int (by assumption)
theorem reps_ints {F:Fz}:∀ {vs:List Value} {ns:List Int},Reps F vs (ns.map Dat.int)→IntsAre vs ns
  | _,[],h=>by cases h; exact .nil
  | _,n :: ns,h=>by
    cases h with
    | cons h r=>cases h; exact .cons _ _ (reps_ints r)
theorem c_bytes {ns:List Int} (hr:∀ n ∈ ns,0≤n∧n < 256) (hz:ns.length≤sizeLine):Calls prog w W k (.type "bytes") [.dat (.list (ns.map Dat.int))] (.dat (.bytes (byteArr ns))):=fun s F vs b hv A Q E rm q=>by
  cases hv with
  | cons h1 hr' =>
    cases hr'
    cases h1 with
    | list hm hd =>
      have e:=hd.length
      refine any_hz (call_bytes_ints (isList_of b hm) (reps_ints hd) hr (by rw [e]; simpa using hz) rm.handled fun h' t k hk hz1 ht1=>?_)
      exact q _ _ F (Grow.of_keeps [] b hk (fun _ h=>nomatch h) hz1 ht1 rfl .rfl) .bytes
theorem c_list {ds:List Dat} (hz:ds.length≤sizeLine):Calls prog w W k (.type "list") [.dat (.list ds)] (.dat (.list ds)):=fun s F vs b hv A Q E rm q=>by
  cases hv with
  | cons h1 hr' =>
    cases hr'
    cases h1 with
    | list hm hd =>
      refine any_hz (call_list_seq _ (.inl rfl) (b.has _ hm) rfl rfl (fun h' c' hk hD hz1 ht1=>?_) (by rw [List.size_toArray,hd.length]; exact hz))
      have g:=Grow.of_keeps [] b hk (fun _ h=>nomatch h) hz1 ht1 rfl .rfl
      exact q _ _ _ (g.freeze (Nat.le_refl _) hD) (.list (.head _) (hd.mono (Fz.le_ob _ _ _)))
theorem c_isinstance_int_bool {a:Int}:Calls prog w W k (.builtin "isinstance") [.dat (.int a),.con (.type "bool")] (.dat (.bool false)):=fun s F vs b hv A Q E rm q=>by
  cases hv with
  | cons h1 hr =>
    cases hr with
    | cons h2 hr =>
      cases hr
      cases h1
      cases h2
      refine call_isinstance_of ?_
      have g:=Grow.more b (Nat.le_succ s.toks)
      obtain ⟨h,gg,d,t,os⟩:=s
      exact isinstance_nested_false_int (by decide) (by kernel_rfl) sub_int_bool (q _ _ _ g (.bool _))
theorem c_isinstance_bytes {a:Array UInt8}:Calls prog w W k (.builtin "isinstance") [.dat (.bytes a),.con (.type "bytes")] (.dat (.bool true)):=fun s F vs b hv A Q E rm q=>by
  cases hv with
  | cons h1 hr =>
    cases hr with
    | cons h2 hr =>
      cases hr
      cases h1
      cases h2
      exact call_isinstance_yes (Tx:="bytes") (typeIs_bytes _ _ _) (by kernel_rfl) (by rw [isSubtype_type]; kernel_rfl) (q _ _ _ (Grow.refl b) (.bool _))
theorem ev_bname {y:Str} {pos:Pos} {f:Value} (hB:BName W sc y f):Ev prog w W k sc fn Γ (.Name y pos) (.con f):=fun fr P s F hsc st A Q E rm q =>
  name_builtin st (hsc ▸ hB.kind) hB.glob hB.boot hB.nn (q _ _ _ (Grow.refl st.base) rfl) hB.nd
theorem ev_b {y:Str} {es:List Expr} {xs:List V} {p pos:Pos} {f:Value} {r:V} (hB:BName W sc y f) (ha:EvL prog w W k sc fn Γ es xs) (hc:Calls prog w W k f xs r)
    (hs:∀ env,(starEach es env).any (·.1)=false:=by intro _; rfl):Ev prog w W k sc fn Γ (.Call (.Name y p) es [] pos) r :=
  ev_callB hB.kind hB.glob hB.boot hB.nn hB.call ha hc hs hB.nd
theorem foldl_app:∀ (l:List (Array Value)) (acc:Array Value),l.foldl (fun x1 x2=>x1 ++ x2) acc=acc ++ (l.map Array.toList).flatten.toArray
  | [],acc=>by simp
  | a :: l,acc=>by
    rw [List.foldl_cons,foldl_app l]
    apply Array.ext'
    simp
theorem bin_mul_list {ds:List Dat} {n:Int} (h0:0≤n) (hz:ds.length * n.toNat≤2 ^ 24) (hn:n < 2 ^ 62):BinG prog w W k .Mult (.dat (.list ds)) (.dat (.int n)) (.dat (.list (List.replicate n.toNat ds).flatten)):=fun s F u v bs hu hv A Q E rm q=>by
  cases hu with
  | list hm hr =>
    cases hv with
    | int ht =>
      rename_i l vs c t
      have hl:=bs.has _ hm
      have hsz:vs.toArray.size * n.toNat≤2 ^ 24:=by rw [List.size_toArray,hr.length]; exact hz
      have e:List.foldl (fun x1 x2=>x1 ++ x2) #[] (List.replicate (if vs.toArray.isEmpty=true then 0 else n.toNat) vs.toArray)=((List.replicate n.toNat vs).flatten).toArray:=by
        rw [foldl_app]
        cases vs with
        | nil=>simp
        | cons a r=>simp
      refine wpAny_binaryOp_repeat_ref (T:="list") (U:="int") (by decide) ⟨_,hl,rfl⟩ (fun s'=>typeIs_int s' n t) noFill_list_mul PySem.F.fills_int_mul PySem.F.slot_int_rmul repeat_list PySem.F.slot_int_index.lookup
        (call_meets PySem.F.slot_int_rmul (typeIs_int s n t) PySem.F.entry_int_rmul (PySem.F.args_int_rmul_2 _ _) (int___rmul___int_list n t l vs.toArray c)
          ⟨hl,rfl,⟨_,hl,rfl⟩,call_meets PySem.F.slot_list_mul ⟨_,hl,rfl⟩ PySem.F.entry_list_mul (PySem.F.args_list_mul_2 _ _)
            (AutoListH.list___mul___list_int_3 l vs.toArray c n t (by simp [Builtin.List.listFitsIndex]; omega) (by omega) (by simp [Builtin.List.listTooLong,sizeLine]; omega))
            ⟨hl,?_⟩⟩)
      rw [e]
      exact q _ _ _ (Grow.push bs _ (Nat.le_refl _) rfl) (.list (.head _) ((reps_replicate hr _).mono (Fz.le_ob _ _ _)))
theorem ev_meth0 {o:Expr} {name:Str} {apos pos:Pos} {x r:V} {id:String} (ho:Ev prog w W k sc fn Γ o x)
    (hm:∀ (s:Shared) (F:Fz) (u:Value) (pl:Sem Bool) (A:Around) (Q:Value × List Value→Shared→Prop) (E:Value→Shared→Prop),x.is prog w F u→Q (.builtin id,[u]) s→wpAny (model prog w) A (getMethod u name pl) Q E s)
    (hc:Calls prog w W k (.builtin id) [x] r)
    (he:∃ pl:Env→Sem Bool,∀ env,eval (.Call (.Attribute o name apos) [] [] pos) env=(do
      let ov ← eval o env
      standAt apos.atName
      let (f,first) ← holding [ov] (getMethod ov name (pl env))
      callWith pos f first (backTo pos (starEach [] env)) []):=by exact ⟨_,fun _=>rfl⟩):Ev prog w W k sc fn Γ (.Call (.Attribute o name apos) [] [] pos) r:=fun fr P s F hsc st A Q E rm q=>by
  obtain ⟨pl,he⟩:=he
  refine MethodCall_ (pl:=pl fr.env) (ho fr P s F hsc st A _ E rm fun u s₁ F₁ g₁ hu=>?_) (he _)
  refine hm s₁ F₁ u _ A _ E hu ?_
  exact callWith_method0 (hc s₁ F₁ [u] (st.step g₁).base (.cons hu .nil) A Q E rm fun z s₂ F₂ g₂ hz=>q z s₂ F₂ (g₁.trans g₂) hz)
theorem ev_meth1 {o e:Expr} {name:Str} {apos pos:Pos} {x y r:V} {id:String} (ho:Ev prog w W k sc fn Γ o x) (hy:Ev prog w W k sc fn Γ e y)
    (hm:∀ (s:Shared) (F:Fz) (u:Value) (pl:Sem Bool) (A:Around) (Q:Value × List Value→Shared→Prop) (E:Value→Shared→Prop),x.is prog w F u→Q (.builtin id,[u]) s→wpAny (model prog w) A (getMethod u name pl) Q E s)
    (hc:Calls prog w W k (.builtin id) [x,y] r)
    (he:∃ pl:Env→Sem Bool,∀ env,eval (.Call (.Attribute o name apos) [e] [] pos) env=(do
      let ov ← eval o env
      standAt apos.atName
      let (f,first) ← holding [ov] (getMethod ov name (pl env))
      callWith pos f first (backTo pos (starEach [e] env)) []):=by exact ⟨_,fun _=>rfl⟩)
    (hs:∀ env,starEach [e] env=[(false,eval e env)]:=by intro _; rfl):Ev prog w W k sc fn Γ (.Call (.Attribute o name apos) [e] [] pos) r:=fun fr P s F hsc st A Q E rm q=>by
  obtain ⟨pl,he⟩:=he
  refine MethodCall_ (pl:=pl fr.env) (ho fr P s F hsc st A _ E rm fun u s₁ F₁ g₁ hu=>?_) (he _)
  refine hm s₁ F₁ u _ A _ E hu ?_
  have hl:EvL prog w W k sc fn Γ [e] [y]:=evl_cons hy evl_nil (fun env=>by rw [hs]; rfl)
  refine callWith_method1 (hl fr P s₁ F₁ hsc (st.step g₁) pos A _ E rm fun vs s₂ F₂ g₂ hv=>?_) (hs _) rfl
  cases hv with
  | cons h1 hr =>
    cases hr
    exact hc s₂ F₂ _ ((st.step g₁).step g₂).base (.cons (V.is.mono g₂.sub hu) (.cons h1 .nil)) A Q E rm fun z s₃ F₃ g₃ hz=>q z s₃ F₃ ((g₁.trans g₂).trans g₃) hz
theorem ev_bit_length {o:Expr} {apos pos:Pos} {a:Int} (ho:Ev prog w W k sc fn Γ o (.dat (.int a)))
    (hpl:∃ pl:Env→Sem Bool,∀ env,eval (.Call (.Attribute o "bit_length" apos) [] [] pos) env=(do
      let ov ← eval o env
      standAt apos.atName
      let (f,first) ← holding [ov] (getMethod ov "bit_length" (pl env))
      callWith pos f first (backTo pos (starEach [] env)) []):=by exact ⟨_,fun _=>rfl⟩) :
    Ev prog w W k sc fn Γ (.Call (.Attribute o "bit_length" apos) [] [] pos) (.dat (.int (Builtin.Int.intBits a:Int))) :=
  ev_meth0 (id:="int.bit_length") ho (fun s F u pl A Q E hu h=>by cases hu; exact getMethod_int_bit_length h) c_bit_length hpl
theorem reps_strs {F:Fz}:∀ {vs:List Value} {xs:List Str},Reps F vs (xs.map Dat.str)→∃ l:List (Str × Tok),vs=strValues l∧l.map (·.1)=xs∧∀ p ∈ l,(p.2,Dat.str p.1) ∈ F.tks
  | _,[],h=>by cases h; exact ⟨[],rfl,rfl,fun _ h=>nomatch h⟩
  | _,x :: xs,h=>by
    cases h with
    | cons h r =>
      cases h with
      | str ht =>
        obtain ⟨l,rfl,e,hl⟩:=reps_strs r
        refine ⟨(x,_) :: l,rfl,by simp [e],fun p hp=>?_⟩
        rcases List.mem_cons.mp hp with rfl | hp
        · exact ht
        · exact hl p hp
theorem c_join {x:Str} {xs:List Str} (hok:JoinOk x xs=true):Calls prog w W k (.builtin "str.join") [.dat (.str x),.dat (.list (xs.map Dat.str))] (.dat (.str (Txt.join x xs))):=fun s F vs b hv A Q E rm q=>by
  cases hv with
  | cons h1 hr =>
    cases hr with
    | cons h2 hr =>
      cases hr
      cases h1 with
      | str hx =>
        cases h2 with
        | list hm hd =>
          obtain ⟨l,rfl,rfl,hl⟩:=reps_strs hd
          have hL:=isList_of b hm
          unfold JoinOk at hok
          rw [Bool.not_eq_true'] at hok
          refine call_meets PySem.F.slot_str_join (typeIs_str _ _ _) PySem.F.entry_str_join (PySem.F.args_str_join_2 _ _) (meets_str_join_list x _ _ l hok) ⟨hL,?_⟩
          have hlen:=joinFit_length hok
          match l,hl,q,hlen with
          | [],_,q,hlen=>exact ⟨hlen,q _ _ _ (Grow.tk b _) Rep.tk_str⟩
          | [p],hl,q,_=>exact q (.str p.1 p.2) s F (Grow.refl b) (.str (hl p (.head _)))
          | _ :: _ :: _,_,q,hlen=>exact ⟨hlen,q _ _ _ (Grow.tk b _) Rep.tk_str⟩
theorem ev_join {o e:Expr} {apos pos:Pos} {x:Str} {xs:List Str} (ho:Ev prog w W k sc fn Γ o (.dat (.str x))) (he:Ev prog w W k sc fn Γ e (.dat (.list (xs.map Dat.str)))) (hok:JoinOk x xs=true)
    (hpl:∃ pl:Env→Sem Bool,∀ env,eval (.Call (.Attribute o "join" apos) [e] [] pos) env=(do
      let ov ← eval o env
      standAt apos.atName
      let (f,first) ← holding [ov] (getMethod ov "join" (pl env))
      callWith pos f first (backTo pos (starEach [e] env)) []):=by exact ⟨_,fun _=>rfl⟩)
    (hs:∀ env,starEach [e] env=[(false,eval e env)]:=by intro _; rfl) :
    Ev prog w W k sc fn Γ (.Call (.Attribute o "join" apos) [e] [] pos) (.dat (.str (Txt.join x xs))) :=
  ev_meth1 (id:="str.join") ho he (fun s F u pl A Q E hu h=>by cases hu; exact GM.join h) (c_join hok) hpl hs
end Mine
namespace Mine
abbrev pw:Program:=PySem.Challenge.pw_wy0028_01
def stmtAt (i:Nat):Stmt:=(pw.main.body)[i]?.getD (.Pass ⟨0,0,0,0⟩)
def recOf:Stmt→DefRec
  | .FunctionDef name args body _ _ _ scope _ _ pos=>⟨name,args,body,scope,pos⟩
  | _=>⟨Str.empty,⟨[],[],none,[],[],none,[]⟩,[],⟨.function,[],false,false,[]⟩,⟨0,0,0,0⟩⟩
def dRec (i:Nat):DefRec:=recOf (stmtAt i)
def fnIdx:List Nat:=[1,4,5,6,7,8,9,11,12,14,16,17,18,19,20,21,22,23,25,26,27,28,29,30,31,32,33,34,35,36]
structure Wok (W:Wd):Prop where
  fns:∀ i ∈ fnIdx,∃ a,FnOk W (dRec i) a
  free:∀ x ∈ (["len","range","enumerate","zip","reversed","bytearray","bytes","divmod","sum","isinstance","bool","str","list","max","min","int","sorted","ValueError"]:List Str),W.mg x=none
  lim:∃ t,W.mg "_DIV_LIMIT"=some (.int 4000 t)
  cmax:∃ t,W.mg "CHAR_MAX"=some (.int 127 t)
def Spec (w:World) (W:Wd) (k:Nat) (i:Nat) (xs:List V) (r:V):Prop:=∀ a,FnOk W (dRec i) a→Calls pw w W k (.ref a) xs r
section
variable {w:World} {W:Wd} {k:Nat}
theorem sp_of {i:Nat} {xs:List V} {r:V} (names:List Str)
    (hb:∀ pm code doc (vs:List Value),vs.length=xs.length→bindArgs (docDef (dRec i).name (dRec i).params (dRec i).body (dRec i).scope pm code doc) ⟨vs,[]⟩=pure (names.zip vs))
    (hp:parOk (dRec i).scope names=true) (hn:names.Nodup) (hl:names.length=xs.length) (hex:Ex pw w W k (dRec i).scope true (names.zip (xs.map Bd.val)) (dRec i).body (.ret r)):Spec w W (k + 1) i xs r :=
  fun a fn=>calls_def fn names hb hp hn hl hex
theorem ev_fn {sc:Scope} {fn:Bool} {Γ:Ctx'} (ok:Wok W) {i:Nat} {y:Str} {es:List Expr} {xs:List V} {p pos:Pos} {r:V} (hc:Spec w W k i xs r) (ha:EvL pw w W k sc fn Γ es xs)
    (hk:sc.names.lookup y=some .globalImplicit:=by rfl) (hm:i ∈ fnIdx:=by decide) (hn:(dRec i).name=y:=by rfl)
    (hs:∀ env,(starEach es env).any (·.1)=false:=by intro _; rfl) (hd:(y == ("__debug__":Str))=false:=by decide):Ev pw w W k sc fn Γ (.Call (.Name y p) es [] pos) r:=by
  obtain ⟨a,f⟩:=ok.fns i hm
  obtain ⟨o,pm,code,doc,h1,h2,_⟩:=f.obj
  exact ev_call (ev_glob hk (by rw [← hn]; exact f.glob) hd) h1 h2 ha (hc a f) hs
end
end Mine
namespace Mine
section
variable {prog:Program} {w:World} {W:Wd} {fr:Frm} {fn:Bool} {Γ:Ctx'} {P:Led} {s:Shared} {F:Fz} {k:Nat} {sc:Scope}
theorem St.turn (x:St prog w W fr fn Γ P s F) {y:Str} {a t:Nat} {b₀ b':Bd} {h':Heap} (hy:Γ.lookup y=some b₀) (ho:b₀.own=true) (hv:VarAt s.heap fr.env y (.ref a)) (hp:Priv fr P F a)
    (hs:Heap.SameBut a s.heap h') (ht:s.toks≤t) (hb:b'.ok prog w fr P F h' (.ref a)):St prog w W fr fn ((y,b') :: Γ) P { s with heap:=h',toks:=t } F:=by
  obtain ⟨b1,g1⟩:=touch x hs hp.new hp.frz ht
  have hL:fr.env.locals≠a:=Ne.symm hp.loc
  have hC:∀ n c,fr.env.cells.lookup n=some c→c≠a:=fun n c hc=>hp.cel n c hc
  have va:∀ z u,VarAt s.heap fr.env z u→VarAt h' fr.env z u:=fun z u q=>q.keeps (fun m h=>h.sameBut hs hL) fun c v hc h=>h.sameBut hs (hC _ _ hc)
  refine ⟨b1,g1,x.bsize,x.glob,x.blt,x.kind,let ⟨m,hm⟩:=x.ns; ⟨m,hm.sameBut hs hL⟩,x.nsNew,x.nsF,x.nsP,fun p hq=>?_,fun n c hc=>?_,x.inj,x.cells,fun z bz hz=>?_,?_⟩
  · obtain ⟨h1,h2⟩:=x.prv p hq
    exact ⟨(hs.2 _ (hp.prv p hq)).trans h1,h2⟩
  · obtain ⟨⟨u,h1⟩,h2⟩:=x.cell n c hc
    exact ⟨⟨u,h1.sameBut hs (hC _ _ hc)⟩,h2⟩
  · by_cases e:z=y
    · subst e; rw [lookup_cons_self] at hz; cases hz
      exact ⟨_,va _ _ hv,hb⟩
    · rw [lookup_cons_ne e] at hz
      obtain ⟨u,h1,h2⟩:=x.vars z bz hz
      refine ⟨u,va z u h1,?_⟩
      cases hbz:bz.own with
      | false =>
        cases bz with
        | val x=>exact h2
        | _=>cases hbz
      | true =>
        refine Bd.ok_same h2 hs fun c _ hc q=>?_
        subst q
        rw [hc] at h1
        exact x.apart z y bz b₀ _ e hz hy hbz ho h1 hv
  · intro z z' bz bz' c hne h1 h2 o1 o2 v1 v2
    have back:∀ z bz,z≠y→Γ.lookup z=some bz→VarAt h' fr.env z (.ref c)→VarAt s.heap fr.env z (.ref c):=fun z bz _ hz v=>by
      obtain ⟨u,w1,_⟩:=x.vars z bz hz
      cases (va _ _ w1).unique v; exact w1
    by_cases e:z=y
    · have e':z'≠y:=fun q=>hne (e.trans q.symm)
      rw [lookup_cons_ne e'] at h2
      rw [e] at v1
      cases (va _ _ hv).unique v1
      exact x.apart z' y bz' b₀ a e' h2 hy o2 ho (back _ _ e' h2 v2) hv
    · rw [lookup_cons_ne e] at h1
      by_cases e':z'=y
      · rw [e'] at v2
        cases (va _ _ hv).unique v2
        exact x.apart z y bz b₀ a e h1 hy o1 ho (back _ _ e h1 v1) hv
      · rw [lookup_cons_ne e'] at h2
        exact x.apart z z' bz bz' c hne h1 h2 o1 o2 (back _ _ e h1 v1) (back _ _ e' h2 v2)
theorem St.new (x:St prog w W fr fn Γ P s F):Priv fr P F s.heap.objs.size where
  new:=x.grow.size
  loc:=by obtain ⟨m,hm⟩:=x.ns; exact Nat.ne_of_gt hm.lt
  cel:=fun n c hc=>by obtain ⟨⟨v,h1⟩,_⟩:=x.cell n c hc; exact Nat.ne_of_lt h1.lt
  prv:=fun p hp=>Nat.ne_of_lt (Heap.lt_size (x.prv p hp).1)
  frz:=fun p hp=>Nat.ne_of_lt (Heap.lt_size (x.base.has p hp))
theorem St.new_apart (x:St prog w W fr fn Γ P s F) {z:Str} {bz:Bd} {a:Nat} (hz:Γ.lookup z=some bz) (ho:bz.own=true) (hv:VarAt s.heap fr.env z (.ref a)):a < s.heap.objs.size:=by
  obtain ⟨u,h1,h2⟩:=x.vars z bz hz
  cases h1.unique hv
  cases bz with
  | val x=>cases ho
  | lst ds=>obtain ⟨c,vs,n,e,h3,_⟩:=h2; cases e; exact Heap.lt_size h3
  | byt b=>obtain ⟨c,n,e,h3,_⟩:=h2; cases e; exact Heap.lt_size h3
  | dic kvs=>obtain ⟨c,kvv,e,h3,_⟩:=h2; cases e; exact DictOf.lt h3
theorem St.store_new (x:St prog w W fr fn Γ P s F) {y:Str} {o:Obj} {b:Bd} {A:Around} (hb:b.ok prog w fr P F (s.heap.push o) (.ref s.heap.objs.size))
    (hk:fr.env.kindOf y=some .local ∨ (fr.env.kindOf y=some .cell∧fn=true))
    {Q:Unit→Shared→Prop} {E:Value→Shared→Prop} (h:∀ s',St prog w W fr fn ((y,b) :: Γ) P s' F→Q () s'):wpAny (model prog w) A (storeName fr.env y (.ref s.heap.objs.size)) Q E { s with heap:=s.heap.push o }:=by
  have g:Grow W s { s with heap:=s.heap.push o,toks:=s.toks } F F:=Grow.pushed x.base o (Nat.le_refl _)
  have x':=x.step g
  refine x'.store hb hk (fun z bz a hz h1 h2 _ h4 e=>?_) h
  cases e
  obtain ⟨u,w1,_⟩:=x.vars z bz h1
  have hv:VarAt (s.heap.push o) fr.env z u:=w1.keeps (fun m h=>Ns.off (W:=W) h x.tabL g.keep) fun c v hc hv=>IsCell.off (W:=W) hv (x.cell _ _ hc).2.2.2.2.1 g.keep
  cases hv.unique h4
  exact Nat.lt_irrefl _ (x.new_apart h1 h2 w1)
theorem ex1_newlist {y:Str} {pos pos' lpos:Pos} {es:List Expr} {ds:List Dat} (he:EvL prog w W k sc fn Γ es (ds.map V.dat)) (hk:sc.names.lookup y=some .local ∨ (sc.names.lookup y=some .cell∧fn=true)) (hz:ds.length≤sizeLine:=by first | decide | simp [sizeLine]) :
    Ex1 prog w W k sc fn Γ (.Assign [.Name y pos'] (.List es lpos) pos) (.next ((y,.lst ds) :: Γ)):=fun fr P s F hsc st A Q E rm q =>
  wpAny_Assign_Name (List_ (he fr P s F hsc st lpos A _ E rm fun vs s₁ F₁ g₁ hv=>by
    have st₁:=st.step g₁
    have hr:=VsIs.reps hv
    refine wpAny_newObj_type (st₁.store_new (o:={ cls:=.type "list",data:=.seq vs.toArray }) (b:=.lst ds) ⟨_,vs,_,rfl,Heap.get?_push_size _ rfl,hr,st₁.new⟩ (by rw [← hsc] at hk; exact hk) fun s' st'=>q _ s' F₁ ⟨rfl,st'⟩ g₁.sub)
      (by show vs.toArray.size≤sizeLine; rw [List.size_toArray,hr.length]; exact hz)))
theorem ex1_newdict {y:Str} {pos pos' lpos:Pos} (hk:sc.names.lookup y=some .local ∨ (sc.names.lookup y=some .cell∧fn=true)) :
    Ex1 prog w W k sc fn Γ (.Assign [.Name y pos'] (.Dict [] [] lpos) pos) (.next ((y,.dic []) :: Γ)):=fun fr P s F hsc st A Q E rm q =>
  wpAny_Assign_Name (wpAny_Dict_empty (st.store_new (o:={ cls:=.type "dict",data:=.dict #[] }) (b:=.dic []) ⟨_,[],rfl,Heap.DictOf.new s.heap,.nil,st.new⟩ (by rw [← hsc] at hk; exact hk) fun s' st'=>q _ s' F ⟨rfl,st'⟩ .rfl))
theorem load_own {y:Str} {pos:Pos} {b:Bd} {A:Around} {Q:Value→Shared→Prop} {E:Value→Shared→Prop} (st:St prog w W fr fn Γ P s F) (hy:Γ.lookup y=some b) (q:∀ v,VarAt s.heap fr.env y v→b.ok prog w fr P F s.heap v→Q v s)
    (hd:(y == ("__debug__":Str))=false) (hn:(y == ("__classdict__":Str))=false):wpAny (model prog w) A (eval (.Name y pos) fr.env) Q E s:=by
  obtain ⟨v,h1,h2⟩:=st.vars y b hy
  exact st.load_any h1 (q v h1 h2) hd hn
theorem ex1_append {y:Str} {p apos pos spos:Pos} {e:Expr} {ds:List Dat} {d:Dat} (hy:Γ.lookup y=some (.lst ds)) (he:Ev prog w W k sc fn Γ e (.dat d)) (hz:ds.length≤sizeLine)
    (hev:∃ pl:Env→Sem Bool,∀ env,eval (.Call (.Attribute (.Name y p) "append" apos) [e] [] pos) env=(do
      let ov ← eval (.Name y p) env
      standAt apos.atName
      let (f,first) ← holding [ov] (getMethod ov "append" (pl env))
      callWith pos f first (backTo pos (starEach [e] env)) []):=by exact ⟨_,fun _=>rfl⟩)
    (hs:∀ env,starEach [e] env=[(false,eval e env)]:=by intro _; rfl) (hi:∀ env,env.scope.kind=.function→interactive env=false:=by intro _ h; unfold interactive; rw [h]; rfl)
    (hsw:∀ env,swapsWith (.Call (.Attribute (.Name y p) "append" apos) [e] [] pos) none spos.line env=pure false:=by intro _; rfl)
    (hd:(y == ("__debug__":Str))=false:=by decide) (hn:(y == ("__classdict__":Str))=false:=by decide) :
    Ex1 prog w W k sc fn Γ (.Expr (.Call (.Attribute (.Name y p) "append" apos) [e] [] pos) spos) (.next ((y,.lst (ds ++ [d])) :: Γ)):=fun fr P s F hsc st A Q E rm q=>by
  obtain ⟨pl,hev⟩:=hev
  refine wpAny_Expr ?_ (hi _ st.kind) (hsw _)
  refine MethodCall_ (pl:=pl fr.env) (load_own st hy (fun v hv hb=>?_) hd hn) (hev _)
  obtain ⟨a,vs,n,rfl,ho,hr,hp⟩:=hb
  refine getMethod_list_append ho rfl rfl ?_
  have hl:EvL prog w W k sc fn Γ [e] [.dat d]:=evl_cons he evl_nil (fun env=>by rw [hs]; rfl)
  refine callWith_method1 (hl fr P s F hsc st pos A _ E rm fun us s₁ F₁ g₁ hu=>?_) (hs _) rfl
  cases hu with
  | cons h1 hr' =>
    cases hr'
    rename_i u
    have st₁:=st.step g₁
    obtain ⟨v,hv₁,a',vs',n',e₁,ho₁,hr₁,hp₁⟩:=st₁.vars y _ hy
    have hv₀:VarAt s₁.heap fr.env y (.ref a):=hv.keeps (fun m h=>Ns.off (W:=W) h st.tabL g₁.keep) fun c v hc hv=>IsCell.off (W:=W) hv (st.cell _ _ hc).2.2.2.2.1 g₁.keep
    cases hv₁.unique hv₀
    cases e₁
    refine wpAny_list_append_plain ⟨n',ho₁⟩ (fun h' hpl hs'=>?_) (by rw [List.size_toArray,hr₁.length]; exact hz)
    obtain ⟨n'',hpl⟩:=hpl
    have e2:(vs'.toArray).push u=(vs' ++ [u]).toArray:=by simp
    rw [e2] at hpl
    exact q _ _ F₁ ⟨rfl,st₁.turn hy rfl hv₀ hp₁ hs' (Nat.le_refl s₁.toks) ⟨a,vs' ++ [u],n'',rfl,hpl,hr₁.append (.one h1),hp₁⟩⟩ g₁.sub
theorem St.freeze (x:St prog w W fr fn Γ P s F) {y:Str} {ds:List Dat} (hy:Γ.lookup y=some (.lst ds)):∃ F',F.le F'∧St prog w W fr fn ((y,.val (.dat (.list ds))) :: Γ) P s F':=by
  obtain ⟨v,hv,a,vs,n,rfl,ho,hr,hp⟩:=x.vars y _ hy
  have le:F.le (F.ob a (listOf vs.toArray n)):=Fz.le_ob _ _ _
  refine ⟨F.ob a (listOf vs.toArray n),le,?_⟩
  have off:∀ c,c≠a→(∀ p ∈ F.obs,p.1≠c)→∀ p ∈ (F.ob a (listOf vs.toArray n)).obs,p.1≠c:=fun c hc h p hq=>by
    rcases List.mem_cons.mp hq with rfl | hq
    · exact Ne.symm hc
    · exact h p hq
  have has:∀ p ∈ (F.ob a (listOf vs.toArray n)).obs,s.heap.get? p.1=some p.2:=fun p hq=>by
    rcases List.mem_cons.mp hq with rfl | hq
    · exact ho
    · exact x.base.has p hq
  have offT:∀ p ∈ (F.ob a (listOf vs.toArray n)).obs,¬ W.tab p.1:=fun p hq=>by
    rcases List.mem_cons.mp hq with rfl | hq
    · exact hp.tab x.bsize
    · exact x.base.off p hq
  refine ⟨⟨x.base.base,has,x.base.tok,x.base.tabs.mono le,offT,x.base.size⟩,⟨x.grow.keep,has,x.grow.sub.trans le,fun p hq=>?_,x.grow.tok,x.grow.toks,x.grow.size,x.grow.os,x.grow.gens,x.grow.tabs.mono le⟩,
    x.bsize,x.glob,x.blt,x.kind,x.ns,x.nsNew,off _ (Ne.symm hp.loc) x.nsF,x.nsP,fun p hq=>?_,fun n c hc=>?_,x.inj,x.cells,fun z bz hz=>?_,?_⟩
  · rcases List.mem_cons.mp hq with rfl | hq
    · exact .inr hp.new
    · exact x.grow.new p hq
  · obtain ⟨h1,h2,h3⟩:=x.prv p hq
    exact ⟨h1,h2,off _ (hp.prv p hq) h3⟩
  · obtain ⟨h1,h2,h3,h4⟩:=x.cell n c hc
    exact ⟨h1,h2,fun hf=>off _ (hp.cel n c hc) (h3 hf),h4⟩
  · by_cases e:z=y
    · subst e; rw [lookup_cons_self] at hz; cases hz
      exact ⟨_,hv,Rep.list (.head _) (hr.mono le)⟩
    · rw [lookup_cons_ne e] at hz
      obtain ⟨u,h1,h2⟩:=x.vars z bz hz
      refine ⟨u,h1,?_⟩
      have pr:∀ c,u=.ref c→bz.own=true→Priv fr P F c→Priv fr P (F.ob a (listOf vs.toArray n)) c:=fun c hc hown q=>⟨q.new,q.loc,q.cel,q.prv,off _ (fun e'=>by
        subst e'; rw [hc] at h1
        exact x.apart z y bz _ _ e hz hy hown rfl h1 hv) q.frz⟩
      cases bz with
      | val x=>exact V.is.mono le h2
      | lst ds=>obtain ⟨c,us,m,e,h3,h4,h5⟩:=h2; exact ⟨c,us,m,e,h3,h4.mono le,pr c e rfl h5⟩
      | byt bs=>obtain ⟨c,m,e,h3,h5⟩:=h2; exact ⟨c,m,e,h3,pr c e rfl h5⟩
      | dic kvs=>obtain ⟨c,kvv,e,h3,h4,h5⟩:=h2; exact ⟨c,kvv,e,h3,h4.mono le,pr c e rfl h5⟩
  · intro z z' bz bz' c hne h1 h2 o1 o2 v1 v2
    by_cases e:z=y
    · rw [e,lookup_cons_self] at h1; cases h1; cases o1
    · rw [lookup_cons_ne e] at h1
      by_cases e':z'=y
      · rw [e',lookup_cons_self] at h2; cases h2; cases o2
      · rw [lookup_cons_ne e'] at h2
        exact x.apart z z' bz bz' c hne h1 h2 o1 o2 v1 v2
theorem ex_freeze {y:Str} {ds:List Dat} {ss:List Stmt} {o:Out} (hy:Γ.lookup y=some (.lst ds)) (h:Ex prog w W k sc fn ((y,.val (.dat (.list ds))) :: Γ) ss o):Ex prog w W k sc fn Γ ss o:=fun fr P s F hsc st A Q E rm q=>by
  obtain ⟨F',le,st'⟩:=st.freeze hy
  exact h fr P s F' hsc st' A Q E rm fun fl s' F'' ho hF=>q fl s' F'' ho (le.trans hF)
end
end Mine
namespace Mine
section
variable {prog:Program} {w:World} {W:Wd} {fr:Frm} {fn:Bool} {Γ Γ':Ctx'} {P:Led} {s:Shared} {F:Fz} {k:Nat} {sc:Scope}
theorem unpack2 {A:Around} {Q:List Value→Shared→Prop} {E:Value→Shared→Prop} {v:Value} {d e:Dat} (b:Base W s F) (rm:Room k A) (hv:V.is prog w F v (.dat (.tuple [d,e])))
    (q:∀ u t s',Grow W s s' F F→Rep F u d→Rep F t e→Q [u,t] s'):wpAny (model prog w) A (unpackItems v 2 none) Q E s:=by
  cases hv with
  | tuple hm hr =>
    cases hr with
    | cons h1 hr =>
      cases hr with
      | cons h2 hr =>
        cases hr
        rename_i a n u t
        refine any_hz (wpAny_unpackItems_tuple (items:=[u,t].toArray) rm.handled (isTuple_of b hm) fun h' hx hz1 ht1=>?_)
        exact q u t _ (Grow.of_keeps [] b (fun a o e=>hx a o (Nat.ne_of_lt (Heap.lt_size e)) e) (fun _ h=>nomatch h) hz1 (Nat.le_refl _) rfl .rfl) h1 h2
theorem asg_tuple2 {y z:Str} {p1 p2 pos:Pos} {x1:Nat} {d e:Dat} (hy:sc.names.lookup y=some .local ∨ (sc.names.lookup y=some .cell∧fn=true)) (hz:sc.names.lookup z=some .local ∨ (sc.names.lookup z=some .cell∧fn=true))
    (he:∀ env,assignEach [.Name y p1,.Name z p2] env=[(false,assign (.Name y p1) env),(false,assign (.Name z p2) env)]:=by intro _; rfl) :
    Asg prog w W k sc fn Γ (.Tuple [.Name y p1,.Name z p2] x1 pos) (.dat (.tuple [d,e])) ((z,.val (.dat e)) :: (y,.val (.dat d)) :: Γ):=fun fr P s F v hsc st hv A Q E rm q=>by
  rw [arm_assign_Tuple,he]
  refine wpAny_bind (wpAny_standAt ?_)
  unfold unpack
  refine wpAny_bind (wpAny_holding (unpack2 st.base rm hv fun u t s' g h1 h2=>?_))
  show wpAny _ A (assignInOrder [assign (.Name y p1) fr.env,assign (.Name z p2) fr.env] [u,t]) Q E s'
  unfold assignInOrder
  refine wpAny_bind (wpAny_holding (wpAny_assign_Name ?_))
  refine (st.step g).storeV (d:=.dat d) h1 (by rw [← hsc] at hy; exact hy) fun s₁ st₁=>?_
  unfold assignInOrder
  refine wpAny_bind (wpAny_holding (wpAny_assign_Name (st₁.storeV (d:=.dat e) h2 (by rw [← hsc] at hz; exact hz) fun s₂ st₂=>?_)))
  unfold assignInOrder
  exact wpAny_pure (q s₂ F st₂ .rfl)
theorem ex1_assignT {y z:Str} {p1 p2 tpos pos:Pos} {x1:Nat} {value:Expr} {d e:Dat} (hv:Ev prog w W k sc fn Γ value (.dat (.tuple [d,e])))
    (hy:sc.names.lookup y=some .local ∨ (sc.names.lookup y=some .cell∧fn=true)) (hz:sc.names.lookup z=some .local ∨ (sc.names.lookup z=some .cell∧fn=true))
    (hs:∀ env,env.scope=sc→swapsWithSole [.Tuple [.Name y p1,.Name z p2] x1 tpos] value pos.line env=pure false:=by intro _ _; rfl)
    (hw:∀ env,env.scope=sc→swappedStores [.Tuple [.Name y p1,.Name z p2] x1 tpos] value env=pure none:=by intro _ _; rfl) :
    Ex1 prog w W k sc fn Γ (.Assign [.Tuple [.Name y p1,.Name z p2] x1 tpos] value pos) (.next ((z,.val (.dat e)) :: (y,.val (.dat d)) :: Γ)):=fun fr P s F hsc st A Q E rm q =>
  Assign_Tuple (hv fr P s F hsc st A _ E rm fun v s₁ F₁ g₁ hv₁=>asg_tuple2 hy hz (fun _=>rfl) fr P s₁ F₁ v hsc (st.step g₁) hv₁ A _ E rm fun s₂ F₂ st₂ hF₂=>q _ s₂ F₂ ⟨rfl,st₂⟩ (g₁.sub.trans hF₂)) (hs _ hsc) (hw _ hsc)
theorem load_val {y:Str} {x:V} {A:Around} {Q:Value→Shared→Prop} {E:Value→Shared→Prop} (st:St prog w W fr fn Γ P s F) (hy:Γ.lookup y=some (.val x)) (q:∀ v,x.is prog w F v→Q v s)
    (hn:(y == ("__classdict__":Str))=false):wpAny (model prog w) A (loadName fr.env y) Q E s:=by
  obtain ⟨v,h1,h2⟩:=st.vars y _ hy
  rcases h1 with ⟨kk,m,hm,hv⟩ | ⟨kk | kk,c,hc,hv⟩
  · exact wpAny_loadName_local st.kind kk hm hv (q v h2)
  · exact wpAny_loadName_cell st.kind kk hc hv (q v h2)
  · exact wpAny_loadName_free st.kind kk hc hv (q v h2) hn
theorem ex1_aug_add {y:Str} {pos' pos:Pos} {e:Expr} {a b:Int} (hy:Γ.lookup y=some (.val (.dat (.int a)))) (he:Ev prog w W k sc fn Γ e (.dat (.int b))) (hk:sc.names.lookup y=some .local ∨ (sc.names.lookup y=some .cell∧fn=true))
    (hn:(y == ("__classdict__":Str))=false:=by decide):Ex1 prog w W k sc fn Γ (.AugAssign (.Name y pos') .Add e pos) (.next ((y,.val (.dat (.int (a + b)))) :: Γ)):=fun fr P s F hsc st A Q E rm q =>
  wpAny_AugAssign_Name (load_val st hy (fun v hv=>he fr P s F hsc st A _ E rm fun u s₁ F₁ g₁ hu=>by
    have hv':=V.is.mono g₁.sub hv
    have st₁:=st.step g₁
    cases hv'; cases hu
    have g₂:=Grow.tk st₁.base (.int (a + b))
    exact PySem.P.iadd_int ((st₁.step g₂).storeV (d:=.dat (.int (a + b))) Rep.tk_int (by rw [← hsc] at hk; exact hk) fun s₂ st₂=>q _ s₂ _ ⟨rfl,st₂⟩ (g₁.sub.trans g₂.sub))) hn)
theorem while_loop {test:Expr} {body:List Stmt} {pos:Pos} {Γs:Nat→Ctx'} (n:Nat) (h0:∀ y b,(Γs 0).lookup y=some b→Γ.lookup y=some b)
    (turn:∀ i,i < n→EvB prog w W k sc fn (Γs i) test true∧Ex prog w W k sc fn (Γs i) body (.next (Γs (i + 1)))) (last:EvB prog w W k sc fn (Γs n) test false) :
    Ex1 prog w W k sc fn Γ (.While test body [] pos) (.next (Γs n)):=fun fr P s F hsc st A Q E rm q=>by
  refine wpAny_While ?_
  refine codeAny_whileLoop (fun m s'=>∃ i F',m=n - i∧i≤n∧F.le F'∧St prog w W fr fn (Γs i) P s' F') ?_ n ⟨0,F,rfl,Nat.zero_le _,.rfl,st.weaken h0⟩
  rintro m s' ⟨i,F',rfl,hi,hF,st'⟩
  by_cases hlt:i < n
  · obtain ⟨h1,h2⟩:=turn i hlt
    refine h1 fr P s' F' hsc st' A _ _ rm fun s₁ F₁ g₁=>?_
    rw [if_pos rfl]
    refine h2 fr P s₁ F₁ hsc (st'.step g₁) A _ _ rm fun fl s₂ F₂ ho hF₂=>?_
    obtain ⟨rfl,st₂⟩:=ho
    exact ⟨n - (i + 1),by omega,i + 1,F₂,rfl,hlt,(hF.trans g₁.sub).trans hF₂,st₂⟩
  · have:i=n:=by omega
    subst this
    refine last fr P s' F' hsc st' A _ _ rm fun s₁ F₁ g₁=>?_
    rw [if_neg Bool.false_ne_true]
    exact wpAny_execs_nil (q _ s₁ F₁ ⟨rfl,st'.step g₁⟩ (hF.trans g₁.sub))
theorem intKind_is {x:Int} {t:Nat}:(intKind prog w).is x (.int x t)=true:=by
  show Value.isInt x (.int x t)=true
  simp [Value.isInt]
theorem Priv.notModules {a:Nat} (p:Priv fr P F a) (st:St prog w W fr fn Γ P s F):(a == sysModules)=false:=by
  obtain ⟨mc,hm,_⟩:=W.nodigits
  have h1:=hm.lt
  have h2:=Nat.le_trans st.bsize p.new
  have h3:(2:Nat) < W.base.objs.size:=h1
  have:a≠1:=by omega
  exact beq_eq_false_iff_ne.mpr this
theorem own_dic (st:St prog w W fr fn Γ P s F) {y:Str} {kvs:List (Int × Dat)} (hy:Γ.lookup y=some (.dic kvs)):∃ a kvv,VarAt s.heap fr.env y (.ref a)∧s.heap.DictOf (intKind prog w) a kvv∧Pairs F kvv kvs∧Priv fr P F a∧(a == sysModules)=false:=by
  obtain ⟨v,h1,a,kvv,rfl,h2,h3,h4⟩:=st.vars y _ hy
  exact ⟨a,kvv,h1,h2,h3,h4,h4.notModules st⟩
theorem VarAt.step {s':Shared} {F':Fz} {v:Value} {y:Str} (st:St prog w W fr fn Γ P s F) (g:Grow W s s' F F') (h:VarAt s.heap fr.env y v):VarAt s'.heap fr.env y v :=
  h.keeps (fun m h=>Ns.off (W:=W) h st.tabL g.keep) fun c v hc hv=>IsCell.off (W:=W) hv (st.cell _ _ hc).2.2.2.2.1 g.keep
theorem ev_load {y:Str} {pos:Pos} {v:Value} {A:Around} {Q:Value→Shared→Prop} {E:Value→Shared→Prop} (st:St prog w W fr fn Γ P s F) (hv:VarAt s.heap fr.env y v) (q:Q v s)
    (hd:(y == ("__debug__":Str))=false) (hn:(y == ("__classdict__":Str))=false):wpAny (model prog w) A (eval (.Name y pos) fr.env) Q E s:=st.load_any hv q hd hn
theorem ex1_setdic {y:Str} {p spos pos:Pos} {i e:Expr} {kvs:List (Int × Dat)} {x:Int} {d:Dat} (hy:Γ.lookup y=some (.dic kvs)) (he:Ev prog w W k sc fn Γ e (.dat d)) (hi:Ev prog w W k sc fn Γ i (.dat (.int x))) (hz:kvs.length≤sizeLine)
    (hs:∀ env,swapsWith e (some (.Subscript (.Name y p) i spos)) pos.line env=pure false:=by intro _; rfl)
    (hd:(y == ("__debug__":Str))=false:=by decide) (hn:(y == ("__classdict__":Str))=false:=by decide) :
    Ex1 prog w W k sc fn Γ (.Assign [.Subscript (.Name y p) i spos] e pos) (.next ((y,.dic (storedD kvs x d)) :: Γ)):=fun fr P s F hsc st A Q E rm q =>
  wpAny_Assign_Subscript (he fr P s F hsc st A _ E rm fun u s₁ F₁ g₁ hu=>by
    have st₁:=st.step g₁
    obtain ⟨a,kvv,hv,_⟩:=own_dic st₁ hy
    refine ev_load st₁ hv ?_ hd hn
    refine hi fr P s₁ F₁ hsc st₁ A _ E rm fun iv s₂ F₂ g₂ hiv=>?_
    have st₂:=st₁.step g₂
    obtain ⟨a',kvv',hv',hD,hpr,hp,hm⟩:=own_dic st₂ hy
    cases (hv.step st₁ g₂).unique hv'
    cases hiv
    refine wpAny_setItem_pairs (knd:=intKind prog w) (k:=x) intKind_is hD (fun h' hD' hs'=>?_) (by rw [hpr.length]; exact hz)
    exact q _ _ F₂ ⟨rfl,st₂.turn hy rfl hv' hp hs' (Nat.le_succ s₂.toks) ⟨_,_,rfl,hD',hpr.stored (Rep.mono g₂.sub hu),hp⟩⟩ (g₁.sub.trans g₂.sub)) (hs _)
theorem pairs_value {F:Fz} {x:Int}:∀ {es:List (Int × Value)} {kvs:List (Int × Dat)},Pairs F es kvs→(valueAt es x).isSome=kvs.any (fun p=>decide (p.1=x))
  | _,_,.nil=>rfl
  | _,_,.cons (k:=k) h r=>by
    have ih:=pairs_value (x:=x) r
    unfold valueAt at ih ⊢
    rw [List.find?_cons,List.any_cons]
    by_cases e:k=x
    · simp [e]
    · simp only [e,decide_false,Bool.false_or]
      exact ih
def atD (kvs:List (Int × Dat)) (x:Int):Option Dat:=(kvs.find? fun kv=>kv.1=x).map (·.2)
theorem pairs_at {F:Fz} {x:Int} {d:Dat}:∀ {es:List (Int × Value)} {kvs:List (Int × Dat)},Pairs F es kvs→atD kvs x=some d→∃ v,valueAt es x=some v∧Rep F v d
  | _,_,.nil,h=>nomatch h
  | _,_,.cons (k:=k) (v:=v) h r,hd=>by
    unfold valueAt
    unfold atD at hd
    rw [List.find?_cons] at hd ⊢
    by_cases e:k=x
    · simp only [e,decide_true] at hd ⊢
      cases hd
      exact ⟨v,rfl,h⟩
    · simp only [e,decide_false] at hd ⊢
      exact pairs_at r hd
theorem evb_in_dic {y:Str} {p pos:Pos} {e:Expr} {kvs:List (Int × Dat)} {x:Int} (hy:Γ.lookup y=some (.dic kvs)) (he:Ev prog w W k sc fn Γ e (.dat (.int x)))
    (hm:behindInMarks .In (.Name y p)=false:=by with_unfolding_all rfl) (hd:(y == ("__debug__":Str))=false:=by decide) (hn:(y == ("__classdict__":Str))=false:=by decide) :
    EvB prog w W k sc fn Γ (.Compare e [.In] [.Name y p] pos) (kvs.any fun p=>decide (p.1=x)):=fun fr P s F hsc st A Q E rm q =>
  wpAny_isTrue_Compare1 (he fr P s F hsc st A _ E rm fun u s₁ F₁ g₁ hu=>by
    have st₁:=st.step g₁
    obtain ⟨a,kvv,hv,hD,hpr,hp,hm'⟩:=own_dic st₁ hy
    refine ev_load st₁ hv ?_ hd hn
    cases hu
    refine wpAny_in_of (knd:=intKind prog w) (k:=x) intKind_is hm' hD.mapOf ?_
    rw [pairs_value hpr]
    exact wpAny_truthy_bool (q _ F₁ (g₁.trans (Grow.more st₁.base (Nat.le_succ _))))) hm
theorem ev_get_dic {y:Str} {p pos:Pos} {i:Expr} {kvs:List (Int × Dat)} {x:Int} {d:Dat} (hy:Γ.lookup y=some (.dic kvs)) (hi:Ev prog w W k sc fn Γ i (.dat (.int x))) (hx:atD kvs x=some d)
    (hs:∀ o v,subscripted i false o v=operate [o,v] (getItem o v):=by intro _ _; rfl) (hd:(y == ("__debug__":Str))=false:=by decide) (hn:(y == ("__classdict__":Str))=false:=by decide) :
    Ev prog w W k sc fn Γ (.Subscript (.Name y p) i pos) (.dat d):=fun fr P s F hsc st A Q E rm q=>by
  obtain ⟨a,kvv,hv,_⟩:=own_dic st hy
  refine Subscript_ (ev_load st hv (hi fr P s F hsc st A _ E rm fun u s₁ F₁ g₁ hu=>?_) hd hn)
  have st₁:=st.step g₁
  obtain ⟨a',kvv',hv',hD,hpr,hp,hm'⟩:=own_dic st₁ hy
  cases (hv.step st g₁).unique hv'
  cases hu
  obtain ⟨v,hv₁,hr⟩:=pairs_at hpr hx
  have g₂:=Grow.more st₁.base (Nat.le_succ s₁.toks)
  exact tail_any (T:="dict") hD.mapOf.typeIs slot_dict_getitem.lookup (wpAny_getItem_of (knd:=intKind prog w) (k:=x) intKind_is hD.mapOf hv₁ (q v _ F₁ (g₁.trans g₂) hr)) (hs _ _)
theorem ev_len_dic {y f:Str} {p p' pos:Pos} {kvs:List (Int × Dat)} (hB:BName W sc f (.builtin "len")) (hy:Γ.lookup y=some (.dic kvs)) (hz:kvs.length≤sizeLine)
    (hs:∀ env,starEach [.Name y p] env=[(false,eval (.Name y p) env)]:=by intro _; rfl) (hd:(y == ("__debug__":Str))=false:=by decide) (hn:(y == ("__classdict__":Str))=false:=by decide) :
    Ev prog w W k sc fn Γ (.Call (.Name f p') [.Name y p] [] pos) (.dat (.int (kvs.length:Int))):=fun fr P s F hsc st A Q E rm q=>by
  have e:eval (.Call (.Name f p') [.Name y p] [] pos) fr.env=(do callWith pos (← eval (.Name f p') fr.env) [] (backTo pos (starEach [.Name y p] fr.env)) []):=rfl
  rw [e]
  refine wpAny_bind (name_builtin st (hsc ▸ hB.kind) hB.glob hB.boot hB.nn ?_ hB.nd)
  obtain ⟨a,kvv,hv,hD,hpr,hp,hm'⟩:=own_dic st hy
  refine callWith_builtin (by rw [hs]; rfl) ?_
  rw [hs]
  refine evalArgs_plain (spliced_cons (ev_load st hv (spliced_nil ?_) hd hn))
  have hz':kvs.length≤16777216:=hz
  refine call_len_dict hm' hD (by rw [hpr.length]; omega) ?_
  rw [hpr.length]
  exact q _ _ _ ((Grow.more st.base (Nat.le_succ _)).trans (Grow.tk (st.base.grow (Grow.more st.base (Nat.le_succ _))) _)) Rep.tk_int
end
end Mine
namespace Mine
variable {w:World} {W:Wd} {k:Nat}
theorem sp_add_int {a b:Int}:Spec w W (k + 1) 16 [.dat (.int a),.dat (.int b)] (.dat (.int (a + b))) :=
  sp_of ["a","b"] (fun pm code doc vs h=>by match vs,h with | [u,v],_=>rfl) (by decide) (by decide) rfl
    (ex_stop (ex1_return (ev_bin (ev_name rfl) (ev_name rfl) bin_add)))
theorem sp_add_str {a b:Str} (hz:(a ++ b).length≤sizeLine):Spec w W (k + 1) 16 [.dat (.str a),.dat (.str b)] (.dat (.str (a ++ b))) :=
  sp_of ["a","b"] (fun pm code doc vs h=>by match vs,h with | [u,v],_=>rfl) (by decide) (by decide) rfl
    (ex_stop (ex1_return (ev_bin (ev_name rfl) (ev_name rfl) (bin_add_str hz))))
theorem sp_lshift {a b:Int} (hn:0≤b) (hz:(Builtin.Int.intBits a:Int) + b≤2 ^ 27):Spec w W (k + 1) 17 [.dat (.int a),.dat (.int b)] (.dat (.int (a * 2 ^ b.toNat))) :=
  sp_of ["a","b"] (fun pm code doc vs h=>by match vs,h with | [u,v],_=>rfl) (by decide) (by decide) rfl
    (ex_stop (ex1_return (ev_bin (ev_name rfl) (ev_name rfl) (bin_lshift hn hz))))
theorem sp_mul {a b:Int} (hm:IntMulOk a b):Spec w W (k + 1) 18 [.dat (.int a),.dat (.int b)] (.dat (.int (a * b))) :=
  sp_of ["a","b"] (fun pm code doc vs h=>by match vs,h with | [u,v],_=>rfl) (by decide) (by decide) rfl
    (ex_stop (ex1_return (ev_bin (ev_name rfl) (ev_name rfl) (bin_mul hm))))
theorem sp_sub {a b:Int}:Spec w W (k + 1) 19 [.dat (.int a),.dat (.int b)] (.dat (.int (a - b))) :=
  sp_of ["a","b"] (fun pm code doc vs h=>by match vs,h with | [u,v],_=>rfl) (by decide) (by decide) rfl
    (ex_stop (ex1_return (ev_bin (ev_name rfl) (ev_name rfl) bin_sub)))
theorem sp_xor {a b:Int}:Spec w W (k + 1) 20 [.dat (.int a),.dat (.int b)] (.dat (.int (Builtin.bitXor a b))) :=
  sp_of ["a","b"] (fun pm code doc vs h=>by match vs,h with | [u,v],_=>rfl) (by decide) (by decide) rfl
    (ex_stop (ex1_return (ev_bin (ev_name rfl) (ev_name rfl) bin_xor)))
theorem pairs_find {F:Fz} {x:Str}:∀ {es:List (Str × Value)} {kvs:List (Str × Dat)},Pairs F es kvs→(valueAt es x).isSome=kvs.any (fun p=>decide (p.1=x))
  | _,_,.nil=>rfl
  | _,_,.cons (k:=k) h r=>by
    have ih:=pairs_find (x:=x) r
    unfold valueAt at ih ⊢
    rw [List.find?_cons,List.any_cons]
    by_cases e:k=x
    · simp [e]
    · simp only [e,decide_false,Bool.false_or]
      exact ih
theorem cmp_in_dic {x:Str} {kvs:List (Str × Dat)}:CmpG pw w W k .In (.dat (.str x)) (.dic kvs) (.dat (.bool (kvs.any fun p=>decide (p.1=x)))):=fun s F u v bs hu hv A Q E rm q=>by
  cases hu with
  | str hx =>
    obtain ⟨a,o,kvv,rfl,hm,hs,hd,hp⟩:=hv
    have hD:s.heap.DictOf (PySem.strKind pw w) a kvv:=Heap.dictOf_iff.mpr ⟨o,bs.has _ hm,hd⟩
    refine wpAny_in_of (knd:=PySem.strKind pw w) (k:=x) strKind_is hs hD.mapOf ?_
    rw [pairs_find hp]
    exact q _ _ _ (Grow.more bs (Nat.le_succ _)) (.bool _)
theorem sp_contains {x:Str} {kvs:List (Str × Dat)}:Spec w W (k + 1) 21 [.dic kvs,.dat (.str x)] (.dat (.bool (kvs.any fun p=>decide (p.1=x)))) :=
  sp_of ["a","b"] (fun pm code doc vs h=>by match vs,h with | [u,v],_=>rfl) (by decide) (by decide) rfl
    (ex_stop (ex1_return (ev_cmp (ev_name rfl) (ev_name rfl) cmp_in_dic)))
theorem sp_strcoll {a b:Str}:Spec w W (k + 1) 11 [.dat (.str a),.dat (.str b)] (.dat (.int (PyProof.Rows.b2i (decide (b.cps.toList < a.cps.toList)) - PyProof.Rows.b2i (decide (a.cps.toList < b.cps.toList))))) :=
  sp_of ["a","b"] (fun pm code doc vs h=>by match vs,h with | [u,v],_=>rfl) (by decide) (by decide) rfl
    (ex_stop (ex1_return (ev_bin (ev_cmp (ev_name rfl) (ev_name rfl) cmp_gt_str) (ev_cmp (ev_name rfl) (ev_name rfl) cmp_lt_str) bin_sub_bool)))
theorem sp_strxfrm {x:V}:Spec w W (k + 1) 12 [x] x :=
  sp_of ["s"] (fun pm code doc vs h=>by match vs,h with | [u],_=>rfl) (by decide) (by decide) rfl
    (ex_stop (ex1_return (ev_name rfl)))
theorem ev_num {prog:Program} {sc:Scope} {fn:Bool} {Γ:Ctx'} {y:Str} {pos:Pos} {i:Int} (hk:sc.names.lookup y=some .globalImplicit) (hg:∃ t,W.mg y=some (.int i t)) (hd:(y == ("__debug__":Str))=false:=by decide) :
    Ev prog w W k sc fn Γ (.Name y pos) (.num i):=fun fr P s F hsc st A Q E rm q=>by
  obtain ⟨t,hg⟩:=hg
  exact Name_function_global st.kind (by rw [← hsc] at hk; exact hk) (loadGlobal_global (by rw [st.glob]; exact W.g.keeps st.base.base) hg (q _ _ _ (Grow.refl st.base) ⟨t,rfl⟩)) hd
theorem bname (ok:Wok W) {sc:Scope} {y:Str} {f:Value} (hy:y ∈ (["len","range","enumerate","zip","reversed","bytearray","bytes","divmod","sum","isinstance","bool","str","list","max","min","int","sorted","ValueError"]:List Str))
    (hk:sc.names.lookup y=some .globalImplicit) (hb:bootBuiltins y=some f) (hn:y≠"__name__":=by decide) (hd:(y == ("__debug__":Str))=false:=by decide) (hc:(∃ id,f=.builtin id) ∨ ∃ T,f=.type T:=by first | exact .inl ⟨_,rfl⟩ | exact .inr ⟨_,rfl⟩):BName W sc y f :=
  ⟨hk,ok.free y hy,hb,hn,hd,hc⟩
theorem sp_div2n1n (ok:Wok W) {a b n:Int} (hz:(Builtin.Int.intBits a:Int) - n≤4000) (hb:b≠0) (hp:Builtin.divisionGoesByPylong a b=false) :
    Spec w W (k + 1) 4 [.dat (.int a),.dat (.int b),.dat (.int n)] (.dat (.tuple [.int (a.fdiv b),.int (a.fmod b)])) :=
  sp_of ["a","b","n"] (fun pm code doc vs h=>by match vs,h with | [u,v,x],_=>rfl) (by decide) (by decide) rfl
    (ex_stop (ex1_if (b:=true) (evb_cmp (ev_bin (ev_bit_length (ev_name rfl)) (ev_name rfl) bin_sub) (ev_num rfl ok.lim) cmp_le_num (by rw [decide_eq_true hz]; exact tr_bool))
      (fun _=>ex_stop (ex1_return (ev_b (bname ok (by decide) rfl PyProof.Rows.boot_divmod) (evl_cons (ev_name rfl) (evl_cons (ev_name rfl) evl_nil)) (c_divmod hb hp)))) (fun h=>nomatch h)))
end Mine
namespace Mine
variable {prog:Program} {w:World} {W:Wd} {k:Nat} {sc:Scope} {fn:Bool} {Γ:Ctx'}
theorem same_created {M:Model} {A:Around} {E:Value→Shared→Prop} {s:Shared} {p:Bool} {t u:Nat} {Q:Bool→Shared→Prop} (ht:0 < t) (hu:0 < u) (hb:NoneBooked s.heap) (hc:t=u→p=true) (q:∀ b,(b=true→p=true)→Q b s) :
    wpAny M A (isSame.created p t u) Q E s:=by
  unfold isSame.created
  refine wpAny_ite ?_
  split
  · rename_i h
    simp only [Bool.or_eq_true,beq_iff_eq] at h
    rcases h with h | h
    · exact absurd ht (by rw [show t=0 from h]; exact Nat.lt_irrefl _)
    · exact absurd hu (by rw [show u=0 from h]; exact Nat.lt_irrefl _)
  refine wpAny_ite ?_
  split
  · rename_i h
    exact wpAny_pure (q _ fun _=>hc (beq_iff_eq.mp h))
  refine wpAny_ite ?_
  split
  · exact wpAny_pure (q _ fun h=>nomatch h)
  · rename_i hp
    have hp':p=true:=by simpa using hp
    refine wpAny_bind (wpAny_sharingNotTold_none hb ?_)
    first | rw [if_neg Bool.false_ne_true] | simp only [Bool.false_eq_true,if_false]
    refine wpAny_bind (wpAny_sharingNotTold_none hb ?_)
    first | rw [if_neg Bool.false_ne_true] | simp only [Bool.false_eq_true,if_false]
    exact wpAny_bind (wpAny_rule (wpAny_bind (wpAny_askSetting (wpAny_pure (q _ fun _=>hp')))))
inductive Atom:Dat→Prop
  | int (i:Int):Atom (.int i)
  | str (x:Str):Atom (.str x)
theorem same_atoms {A:Around} {E:Value→Shared→Prop} {s:Shared} {F:Fz} {u v:Value} {d e:Dat} {Q:Bool→Shared→Prop} (b:Base W s F) (hd:Atom d) (he:Atom e) (hu:Rep F u d) (hv:Rep F v e) (q:∀ c,(c=true→d=e)→Q c s) :
    wpAny (model prog w) A (isSame u v) Q E s:=by
  have hb:NoneBooked s.heap:=let ⟨mc,h1,h2⟩:=W.booked; ⟨mc,h1.keeps b.base,h2⟩
  cases hd <;> cases he
  · cases hu with
    | int hu =>
      cases hv with
      | int hv =>
        rename_i i j t t'
        have h1:=b.tok.rng _ hu
        have h2:=b.tok.rng _ hv
        have one:t=t'→i=j:=fun e=>by have:=b.tok.one _ hu _ hv e; cases this; rfl
        show wpAny _ A (if (i == j && smallInt i)=true then isSame.cachedInt t t' else isSame.created (i == j) t t') Q E s
        by_cases hc:(i == j && smallInt i)=true
        · rw [if_pos hc]
          simp only [Bool.and_eq_true,beq_iff_eq] at hc
          unfold isSame.cachedInt
          rw [if_neg (by
            simp only [Bool.or_eq_true,beq_iff_eq,not_or]
            exact ⟨Nat.ne_of_gt h1.1,Nat.ne_of_gt h2.1⟩)]
          exact wpAny_bind (wpAny_rule (wpAny_pure (q _ fun _=>by rw [hc.1])))
        · rw [if_neg hc]
          exact same_created h1.1 h2.1 hb (fun e=>beq_iff_eq.mpr (one e)) fun c hc=>q c fun h=>by rw [beq_iff_eq.mp (hc h)]
  · cases hu; cases hv
    exact wpAny_of_eq rfl (q false fun h=>nomatch h)
  · cases hu; cases hv
    exact wpAny_of_eq rfl (q false fun h=>nomatch h)
  · cases hu with
    | str hu =>
      cases hv with
      | str hv =>
        rename_i x y t t'
        have h1:=b.tok.rng _ hu
        have h2:=b.tok.rng _ hv
        have one:t=t'→x=y:=fun e=>by have:=b.tok.one _ hu _ hv e; cases this; rfl
        show wpAny _ A (isSame.created (x == y) t t') Q E s
        exact same_created h1.1 h2.1 hb (fun e=>beq_iff_eq.mpr (one e)) fun c hc=>q c fun h=>by rw [beq_iff_eq.mp (hc h)]
theorem eq_atoms {A:Around} {E:Value→Shared→Prop} {s:Shared} {F:Fz} {u v:Value} {d e:Dat} {c:Bool} {Q:Value→Shared→Prop} (hc:c=true ↔ d=e) (hd:Atom d) (he:Atom e) (hu:Rep F u d) (hv:Rep F v e) (q:Q (.bool c) s) :
    wpAny (model prog w) A (compareOp .Eq u v) Q E s:=by
  cases hd <;> cases he
  · cases hu; cases hv
    rename_i i j t t' _ _
    refine P.eq_int ?_
    have:(i == j)=c:=by
      by_cases e:i=j
      · rw [beq_iff_eq.mpr e]; exact (hc.mpr (by rw [e])).symm
      · rw [beq_eq_false_iff_ne.mpr e]
        cases c with
        | false=>rfl
        | true=>exact absurd (by have:=hc.mp rfl; injection this) e
    rw [this]; exact q
  · cases hu; cases hv
    refine PySem.EqMixed.eq_int_str ?_
    cases c with
    | false=>exact q
    | true=>have:=hc.mp rfl; cases this
  · cases hu; cases hv
    refine PySem.EqMixed.eq_str_int ?_
    cases c with
    | false=>exact q
    | true=>have:=hc.mp rfl; cases this
  · cases hu; cases hv
    rename_i x y t t' _ _
    refine P.eq_str ?_
    have:(x.cps.toList == y.cps.toList)=c:=by
      by_cases e:x=y
      · subst e; rw [beq_self_eq_true]; exact (hc.mpr rfl).symm
      · have hne:x.cps.toList≠y.cps.toList:=fun h=>e (by
          cases x; cases y; congr 1; exact Array.toList_inj.mp h)
        rw [beq_eq_false_iff_ne.mpr hne]
        cases c with
        | false=>rfl
        | true=>exact absurd (by have:=hc.mp rfl; injection this) e
    rw [this]; exact q
theorem evb_is_eq {l r l' r':Expr} {p1 p2 pos:Pos} {d e:Dat} {c:Bool} (hl:Ev prog w W k sc fn Γ l (.dat d)) (hr:Ev prog w W k sc fn Γ r (.dat e)) (hl':Ev prog w W k sc fn Γ l' (.dat d)) (hr':Ev prog w W k sc fn Γ r' (.dat e)) (hc:c=true ↔ d=e) (hd:Atom d) (he:Atom e)
    (hm:behindInMarks .Is r=false:=by with_unfolding_all rfl) (hm':behindInMarks .Eq r'=false:=by with_unfolding_all rfl) :
    EvB prog w W k sc fn Γ (.BoolOp .Or [.Compare l [.Is] [r] p1,.Compare l' [.Eq] [r'] p2] pos) c:=fun fr P s F hsc st A Q E rm q=>by
  refine wpAny_isTrue_BoolOp (wpAny_allTrue_Or_cons ?_)
  refine wpAny_isTrue_Compare1 (hl fr P s F hsc st A _ E rm fun u s₁ F₁ g₁ hu=>hr fr P s₁ F₁ hsc (st.step g₁) A _ E rm fun v s₂ F₂ g₂ hv=>?_) hm
  have st₂:=(st.step g₁).step g₂
  show wpAny _ A (isSame u v >>= fun c=>pure (Value.bool c)) _ E s₂
  refine wpAny_bind (same_atoms st₂.base hd he (Rep.mono g₂.sub hu) hv fun c' hc'=>wpAny_pure (wpAny_truthy_bool ?_))
  cases c' with
  | true =>
    have:c=true:=hc.mpr (hc' rfl)
    subst this
    exact q s₂ F₂ (g₁.trans g₂)
  | false =>
    refine wpAny_allTrue_Or_cons ?_
    refine wpAny_isTrue_Compare1 (hl' fr P s₂ F₂ hsc st₂ A _ E rm fun u s₃ F₃ g₃ hu=>hr' fr P s₃ F₃ hsc (st₂.step g₃) A _ E rm fun v s₄ F₄ g₄ hv=>?_) hm'
    refine eq_atoms hc hd he (Rep.mono g₄.sub hu) hv (wpAny_truthy_bool ?_)
    cases c with
    | true=>exact q s₄ F₄ (((g₁.trans g₂).trans g₃).trans g₄)
    | false=>exact wpAny_allTrue_Or_nil (q s₄ F₄ (((g₁.trans g₂).trans g₃).trans g₄))
end Mine
namespace Mine
inductive Sub:Ctx'→Ctx'→Prop
  | nil {Γ:Ctx'}:Sub [] Γ
  | cons {y:Str} {b:Bd} {r Γ:Ctx'}:Γ.lookup y=some b→Sub r Γ→Sub ((y,b) :: r) Γ
theorem Sub.go {Γ Γ':Ctx'} (h:Sub Γ Γ'):∀ y b,Γ.lookup y=some b→Γ'.lookup y=some b:=by
  induction h with
  | nil=>intro y b e; cases e
  | @cons z c r Γ h1 _ ih =>
    intro y b e
    by_cases hz:y=z
    · subst hz; rw [lookup_cons_self] at e; cases e; exact h1
    · rw [lookup_cons_ne hz] at e; exact ih y b e
section
variable {prog:Program} {w:World} {W:Wd} {k:Nat} {sc:Scope} {fn:Bool} {Γ Γ' Γ'':Ctx'}
theorem ex_to {ss:List Stmt} (h:Ex prog w W k sc fn Γ ss (.next Γ')) (hs:Sub Γ'' Γ'):Ex prog w W k sc fn Γ ss (.next Γ''):=ex_out h hs.go
end
variable {w:World} {W:Wd} {k:Nat}
def cntD [DecidableEq α] (l:List α) (e:α):Nat→Int
  | 0=>0
  | i + 1=>cntD l e i + (if l[i]?=some e then 1 else 0)
theorem sp_countOf {α:Type} [DecidableEq α] {l:List α} {g:α→Dat} {e:α} (hg:∀ a b,g a=g b→a=b) (ha:∀ a,Atom (g a)) :
    Spec w W (k + 1) 22 [.dat (.list (l.map g)),.dat (g e)] (.dat (.int (cntD l e l.length))):=by
  refine sp_of ["a","b"] (fun pm code doc vs h=>by match vs,h with | [u,v],_=>rfl) (by decide) (by decide) rfl ?_
  refine ex_seq (ex1_assign ev_int (.inl rfl)) ?_
  let Γs:Nat→Ctx':=fun i=>[("count",.val (.dat (.int (cntD l e i)))),("a",.val (.dat (.list (l.map g)))),("b",.val (.dat (g e)))]
  refine ex_seq (for_loop (Γs:=Γs) (n:=l.length) (xs:=(l.map g).map V.dat) (eit_list (ev_name rfl) rfl) (Sub.cons rfl (.cons rfl (.cons rfl .nil))).go ?_ (.inl ⟨by simp,rfl⟩)) (ex_stop (ex1_return (ev_name rfl)))
  intro i x hi hx
  have hx':x=V.dat (g l[i]):=by
    simp [hi] at hx
    exact hx.symm
  subst hx'
  refine ⟨_,asg_name (.inl rfl),?_⟩
  refine ex_seq (Γ':=Γs (i + 1)) ?_ ex_nil
  have hb:decide (l[i]=e)=true ↔ g l[i]=g e:=by
    rw [decide_eq_true_iff]
    exact ⟨fun h=>by rw [h],hg _ _⟩
  refine ex1_if (evb_is_eq (ev_name rfl) (ev_name rfl) (ev_name rfl) (ev_name rfl) hb (ha _) (ha _)) (fun h=>?_) (fun h=>?_)
  · refine ex_to (ex_seq (ex1_aug_add rfl ev_int (.inl rfl)) ex_nil) (.cons ?_ (.cons rfl (.cons rfl .nil)))
    have:l[i]=e:=by simpa using h
    show some _=some _
    simp [cntD,List.getElem?_eq_getElem hi,this]
  · refine ex_to ex_nil (.cons ?_ (.cons rfl (.cons rfl .nil)))
    have:¬ l[i]=e:=by simpa using h
    show some _=some _
    simp [cntD,List.getElem?_eq_getElem hi,this]
theorem sp_indexOf {α:Type} [DecidableEq α] {l:List α} {g:α→Dat} {e:α} (hg:∀ a b,g a=g b→a=b) (ha:∀ a,Atom (g a)) {n:Nat} (hn:l[n]?=some e) (hlt:∀ i,i < n→l[i]?≠some e) (ok:Wok W) :
    Spec w W (k + 1) 23 [.dat (.list (l.map g)),.dat (g e)] (.dat (.int n)):=by
  refine sp_of ["a","b"] (fun pm code doc vs h=>by match vs,h with | [u,v],_=>rfl) (by decide) (by decide) rfl ?_
  let Γs:Nat→Ctx':=fun i=>[("a",.val (.dat (.list (l.map g)))),("b",.val (.dat (g e)))]
  have hen:∀ (ds:List Dat) (j i:Nat),(enumD j ds)[i]?=(ds[i]?).map fun d=>Dat.tuple [.int ((j + i:Nat):Int),d]:=by
    intro ds
    induction ds with
    | nil=>intro j i; simp [enumD]
    | cons d r ih =>
      intro j i
      cases i with
      | zero=>simp [enumD]
      | succ i =>
        have:=ih (j + 1) i
        simp only [enumD,List.getElem?_cons_succ,this]
        rw [show j + 1 + i=j + (i + 1) by omega]
  have hx':∀ (i:Nat) (x:V),((enumD 0 (l.map g)).map V.dat)[i]?=some x→∃ a,l[i]?=some a∧x=V.dat (.tuple [.int (i:Int),g a]):=fun i x hx=>by
    rw [List.getElem?_map,hen,List.getElem?_map] at hx
    cases h:l[i]? with
    | none=>rw [h] at hx; cases hx
    | some a =>
      rw [h] at hx
      simp at hx
      exact ⟨a,rfl,hx.symm⟩
  have hB:BName W (dRec 23).scope "enumerate" (.type "enumerate"):=bname ok (by decide) rfl (by decide +kernel)
  refine ex_stop (for_else (Γs:=Γs) (n:=n) (eit_enum hB (ev_name rfl)) (Sub.cons rfl (.cons rfl .nil)).go ?_ (.inr ⟨V.dat (.tuple [.int (n:Int),g e]),.dat (.int n),?_,rfl,?_⟩))
  · intro i x hi hx
    obtain ⟨a,h1,rfl⟩:=hx' i x hx
    refine ⟨_,asg_tuple2 (.inl rfl) (.inl rfl),?_⟩
    have hb:false=true ↔ g a=g e:=⟨fun h=>(nomatch h),fun h=>absurd (by rw [h1,hg _ _ h]) (hlt i hi)⟩
    refine ex_to (ex_seq (Γ':=_) (ex1_if (evb_is_eq (ev_name rfl) (ev_name rfl) (ev_name rfl) (ev_name rfl) hb (ha _) (ha _)) (fun h=>nomatch h) (fun _=>ex_nil)) ex_nil) (.cons rfl (.cons rfl .nil))
  · rw [List.getElem?_map,hen,List.getElem?_map,hn]; simp
  · refine ⟨_,asg_tuple2 (.inl rfl) (.inl rfl),?_⟩
    have hb:true=true ↔ g e=g e:=⟨fun _=>rfl,fun _=>rfl⟩
    exact ex_stop (ex1_if (evb_is_eq (ev_name rfl) (ev_name rfl) (ev_name rfl) (ev_name rfl) hb (ha _) (ha _)) (fun _=>ex_stop (ex1_return (ev_name rfl))) (fun h=>nomatch h))
end Mine
namespace Mine
variable {w:World} {W:Wd} {k:Nat}
theorem keep_cons {Γ:Ctx'} {z:Str} {c:Bd} (h:Γ.lookup z=none):∀ y b,Γ.lookup y=some b→List.lookup y ((z,c) :: Γ)=some b:=fun y b e=>by
  by_cases hz:y=z
  · subst hz; rw [h] at e; cases e
  · rw [lookup_cons_ne hz]; exact e
theorem keep_cons2 {Γ:Ctx'} {z z':Str} {c c':Bd} (h:Γ.lookup z=none) (h':Γ.lookup z'=none):∀ y b,Γ.lookup y=some b→List.lookup y ((z',c') :: (z,c) :: Γ)=some b:=fun y b e=>by
  by_cases hz:y=z'
  · subst hz; rw [h'] at e; cases e
  · rw [lookup_cons_ne hz]; exact keep_cons h y b e
theorem flat_single {α β:Type} (l:List α) (f:α→β):l.flatMap (fun x=>[f x])=l.map f:=by
  induction l with
  | nil=>rfl
  | cons a r ih=>simp [ih]
def setsStep (names:List Str) (c:Nat):List Str:=names ++ names.map fun n=>n ++ (⟨#[c]⟩:Str)
def setsOf (l:List Nat):List Str:=l.foldl setsStep [Str.empty]
theorem setsOf_snoc (l:List Nat) (c:Nat):setsOf (l ++ [c])=setsStep (setsOf l) c:=by unfold setsOf; rw [List.foldl_append]; rfl
theorem setsOf_len (l:List Nat):(setsOf l).length=2 ^ l.length:=by
  suffices h:∀ (l:List Nat) (a:List Str),(l.foldl setsStep a).length=a.length * 2 ^ l.length by
    have:=h l [Str.empty]; simpa [setsOf] using this
  intro l
  induction l with
  | nil=>intro a; simp
  | cons c r ih =>
    intro a
    rw [List.foldl_cons,ih]
    simp [setsStep,Nat.pow_succ]
    rw [← Nat.mul_two,Nat.mul_assoc,Nat.mul_comm 2]
theorem setsOf_short (l:List Nat):∀ n ∈ setsOf l,n.length≤l.length:=by
  suffices h:∀ (l:List Nat) (a:List Str) (m:Nat),(∀ n ∈ a,n.length≤m)→∀ n ∈ l.foldl setsStep a,n.length≤m + l.length by
    intro n hn
    have:=h l [Str.empty] 0 (fun n hn=>by cases List.mem_singleton.mp hn; exact Nat.le_refl _) n hn
    omega
  intro l
  induction l with
  | nil=>intro a m h; simpa using h
  | cons c r ih =>
    intro a m h n hn
    have:=ih (setsStep a c) (m + 1) (fun n hn=>by
      rcases List.mem_append.mp hn with h1 | h1
      · exact Nat.le_succ_of_le (h n h1)
      · obtain ⟨q,hq,rfl⟩:=List.mem_map.mp h1
        have:=h q hq
        show (q.cps ++ #[c]).size≤m + 1
        rw [Array.size_append]
        exact Nat.succ_le_succ this) n hn
    simp; omega
section
variable {prog:Program} {sc:Scope} {fn:Bool} {Γ:Ctx'}
theorem eit_listm {α:Type} {tgt e:Expr} {l:List α} {h:α→Dat} (he:Ev prog w W k sc fn Γ e (.dat (.list (l.map h)))) (ht:nameTgt tgt=true:=by rfl):EvIter prog w W k sc fn Γ tgt e (l.map fun a=>V.dat (h a)):=by
  have:=eit_list he ht
  rw [List.map_map] at this
  exact this
theorem nth_map {α β:Type} {l:List α} {f:α→β} {i:Nat} {x:β} (h:(l.map f)[i]?=some x):∃ hi:i < l.length,x=f l[i]:=by
  rw [List.getElem?_map] at h
  cases hl:l[i]? with
  | none=>rw [hl] at h; cases h
  | some a =>
    rw [hl] at h
    obtain ⟨hi,rfl⟩:=List.getElem?_eq_some_iff.mp hl
    exact ⟨hi,by simpa using h.symm⟩
theorem take_snoc {α:Type} {l:List α} {i:Nat} (hi:i < l.length):l.take (i + 1)=l.take i ++ [l[i]]:=by
  rw [List.take_add_one,List.getElem?_eq_getElem hi]; rfl
end
theorem sp_sets (ok:Wok W) {x:Str} (ha:x.cps.all (· < 128)=true) (hz:x.length≤8):Spec w W (k + 2) 26 [.dat (.str x)] (.dat (.list ((setsOf x.cps.toList).map Dat.str))):=by
  refine sp_of ["letters"] (fun pm code doc vs h=>by match vs,h with | [u],_=>rfl) (by decide) (by decide) rfl ?_
  refine ex_seq (ex1_assign (ev_list (ds:=[.str Str.empty]) (evl_cons ev_str evl_nil)) (.inl rfl)) ?_
  let Γs:Nat→Ctx':=fun i=>[("names",.val (.dat (.list ((setsOf (x.cps.toList.take i)).map Dat.str)))),("letters",.val (.dat (.str x)))]
  have hsz:x.cps.toList.length≤8:=by simpa [Str.length] using hz
  refine ex_seq (for_loop (Γs:=Γs) (n:=x.cps.toList.length) (eit_str (ev_name rfl) rfl ha) (Sub.cons rfl (.cons rfl .nil)).go ?_ (.inl ⟨by simp,rfl⟩)) (ex_stop (ex1_return ?_))
  · intro i c hi hx
    obtain ⟨_,rfl⟩:=nth_map hx
    refine ⟨_,asg_name (.inr ⟨rfl,rfl⟩),?_⟩
    have hlen:(setsOf (x.cps.toList.take i)).length≤256:=by
      rw [setsOf_len,show 256=2 ^ 8 from rfl]
      exact Nat.pow_le_pow_right (by decide) (by rw [List.length_take]; omega)
    refine ex_to (ex_seq (ex1_assign (ev_bin (ev_name rfl) (ev_lc1 (fun n=>[Dat.str (n ++ (⟨#[x.cps.toList[i]]⟩:Str))]) (by decide) (eit_listm (ev_name rfl)) (fun n hn=>?_) ?_) (bin_add_list ?_)) (.inl rfl)) ex_nil) (.cons ?_ (.cons rfl .nil))
    · refine ⟨_,true,asg_name (.inl rfl),keep_cons rfl,evt_nil,fun _=>emitL_leaf (ev_fn ok (sp_add_str ?_) (evl_cons (ev_name rfl) (evl_cons (ev_name rfl) evl_nil))),fun h=>nomatch h⟩
      have:=setsOf_short _ n hn
      show (n.cps ++ #[_]).size≤sizeLine
      rw [Array.size_append]
      have h2:n.cps.size≤8:=Nat.le_trans this (by rw [List.length_take]; omega)
      show n.cps.size + 1≤16777216
      omega
    · rw [flat_single,List.length_map]
      exact Nat.le_trans hlen (by decide)
    · rw [flat_single,List.length_map,List.length_map]
      exact Nat.le_trans (Nat.add_le_add hlen hlen) (by decide)
    · show some _=some _
      rw [take_snoc hi,setsOf_snoc,setsStep,flat_single,List.map_append,List.map_map]
      rfl
  · have:=ev_name (prog:=pw) (w:=w) (W:=W) (k:=k + 1) (sc:=(dRec 26).scope) (fn:=true) (Γ:=Γs x.cps.toList.length) (y:="names") (pos:=⟨0,0,0,0⟩) rfl
    refine ev_name ?_
    show some _=some _
    rw [List.take_length]
end Mine
namespace Mine
variable {w:World} {W:Wd} {k:Nat}
theorem pick_nat {ds:List Dat} {a b:Nat} {lo hi:Option Int} (e:sliceBounds lo hi none ds.length=((a:Int),(b:Int),1)):pickD ds lo hi none=(ds.drop a).take (b - a):=by
  unfold pickD
  rw [e]
  show List.filterMap (fun x=>ds[x]?) (sliceRange a b 1)=_
  rw [sliceRange_one]
  have:=pick_run ds.toArray a (b - a)
  simpa using this
theorem pick_from {ds:List Dat} {n:Nat}:pickD ds (some (n:Int)) none none=ds.drop n:=by
  have e:sliceBounds (some (n:Int)) none none ds.length=(((min n ds.length:Nat):Int),((ds.length:Nat):Int),1):=by
    simp only [sliceBounds,Option.getD_none,show (1:Int) > 0 by decide,if_true,if_neg (show ¬ ((n:Int) < 0) by omega)]
    congr 1
    omega
  rw [pick_nat e,kmk_drop_min,List.take_of_length_le (by rw [List.length_drop]; omega)]
theorem pick_upto {ds:List Dat} {n:Nat}:pickD ds none (some (n:Int)) none=ds.take n:=by
  have e:sliceBounds none (some (n:Int)) none ds.length=(((0:Nat):Int),((min n ds.length:Nat):Int),1):=by
    simp only [sliceBounds,Option.getD_none,show (1:Int) > 0 by decide,if_true,if_neg (show ¬ ((n:Int) < 0) by omega)]
    congr 1
    congr 1
    omega
  rw [pick_nat e,List.drop_zero,Nat.sub_zero,kmk_take_min]
theorem pick_last {ds:List Dat} {n:Nat} (h:0 < n):pickD ds (some (-(n:Int))) none none=ds.drop (ds.length - n):=by
  have e:sliceBounds (some (-(n:Int))) none none ds.length=(((ds.length - n:Nat):Int),((ds.length:Nat):Int),1):=by
    simp only [sliceBounds,Option.getD_none,show (1:Int) > 0 by decide,if_true,if_pos (show (-(n:Int)) < 0 by omega)]
    congr 1
    omega
  rw [pick_nat e,List.take_of_length_le (by rw [List.length_drop]; omega)]
theorem pick_mid {ds:List Dat} {a n:Nat} (h:0 < n) (ha:a≤ds.length):pickD ds (some (a:Int)) (some (-(n:Int))) none=(ds.drop a).take (ds.length - n - a):=by
  have e:sliceBounds (some (a:Int)) (some (-(n:Int))) none ds.length=((a:Int),((ds.length - n:Nat):Int),1):=by
    simp only [sliceBounds,Option.getD_none,show (1:Int) > 0 by decide,if_true,if_pos (show (-(n:Int)) < 0 by omega),if_neg (show ¬ ((a:Int) < 0) by omega)]
    congr 1
    · omega
    · congr 1
      omega
  rw [pick_nat e]
theorem pick_rev {ds:List Dat}:pickD ds none none (some (-1))=ds.reverse:=by
  unfold pickD
  have e:sliceBounds none none (some (-1)) ds.length=(((ds.length:Nat):Int) - 1,-1,-1):=by
    simp only [sliceBounds,Option.getD_some,if_neg (show ¬ ((-1:Int) > 0) by decide)]
  rw [e]
  have key:sliceRange ((ds.length:Int) - 1) (-1) (-1)=(List.range ds.length).map fun i=>ds.length - 1 - i:=by
    unfold sliceRange
    simp only [if_neg (show ¬ ((-1:Int) > 0) by decide)]
    have hc:(if (ds.length:Int) - 1 > -1 then ((ds.length:Int) - 1 - -1 - -1 - 1) / (- -1) else 0).toNat=ds.length:=by
      split
      · rw [show (- -1:Int)=1 by rfl,Int.ediv_one]; omega
      · omega
    rw [hc]
    apply List.map_congr_left
    intro i hi
    have:=List.mem_range.mp hi
    omega
  show List.filterMap (fun x=>ds[x]?) (sliceRange ((ds.length:Int) - 1) (-1) (-1))=_
  rw [key,List.filterMap_map]
  apply List.ext_getElem?
  intro j
  have h1:∀ (m:Nat),m≤ds.length→List.filterMap ((fun x=>ds[x]?) ∘ fun i=>ds.length - 1 - i) (List.range m)=ds.reverse.take m:=by
    intro m
    induction m with
    | zero=>intro _; simp
    | succ m ih =>
      intro hm
      rw [List.range_succ,List.filterMap_append,ih (by omega),List.take_add_one]
      congr 1
      have hl:m < ds.reverse.length:=by simpa using (by omega:m < ds.length)
      rw [List.getElem?_eq_getElem hl,List.getElem_reverse]
      simp [List.getElem?_eq_getElem (show ds.length - 1 - m < ds.length by omega)]
  rw [h1 ds.length (Nat.le_refl _),List.take_of_length_le (by simp)]
theorem zipD_map {α β:Type} {f:α→Dat} {g:β→Dat}:∀ (l:List α) (r:List β),zipD (l.map f) (r.map g)=(l.zip r).map fun p=>Dat.tuple [f p.1,g p.2]
  | [],r=>by simp [zipD]
  | a :: l,[]=>by simp [zipD]
  | a :: l,b :: r=>by simp [zipD,zipD_map l r]
section
variable {prog:Program} {sc:Scope} {fn:Bool} {Γ:Ctx'}
theorem eit_zipm {α β:Type} {e e':Expr} {elts:List Expr} {x1:Nat} {tp:Pos} {y:Str} {p pos:Pos} {l:List α} {r:List β} {f:α→Dat} {g:β→Dat} (hB:BName W sc y (.type "zip"))
    (he:Ev prog w W k sc fn Γ e (.dat (.list (l.map f)))) (he':Ev prog w W k sc fn Γ e' (.dat (.list (r.map g))))
    (hs:∀ env,starEach [e,e'] env=[(false,eval e env),(false,eval e' env)]:=by intro _; rfl) (hs':∀ env,starEach [e'] env=[(false,eval e' env)]:=by intro _; rfl) :
    EvIter prog w W k sc fn Γ (.Tuple elts x1 tp) (.Call (.Name y p) [e,e'] [] pos) ((l.zip r).map fun q=>V.dat (.tuple [f q.1,g q.2])):=by
  have:=eit_zip (elts:=elts) (x1:=x1) (tp:=tp) (p:=p) (pos:=pos) hB he he' hs hs'
  rw [zipD_map,List.map_map] at this
  exact this
theorem ev_from {α:Type} {value:Expr} {lower:Option Expr} {p pos:Pos} {l:List α} {h:α→Dat} {n:Nat} (hx:Ev prog w W k sc fn Γ value (.dat (.list (l.map h)))) (hl:EvP prog w W k sc fn Γ lower (some (n:Int))) (hz:l.length≤sizeLine) :
    Ev prog w W k sc fn Γ (.Subscript value (.Slice lower none none p) pos) (.dat (.list ((l.drop n).map h))):=by
  have:=ev_slice_list (p:=p) (pos:=pos) hx hl evp_none (by simpa using hz)
  rw [pick_from,← List.map_drop] at this
  exact this
theorem ev_upto {α:Type} {value:Expr} {upper:Option Expr} {p pos:Pos} {l:List α} {h:α→Dat} {n:Nat} (hx:Ev prog w W k sc fn Γ value (.dat (.list (l.map h)))) (hl:EvP prog w W k sc fn Γ upper (some (n:Int))) (hz:l.length≤sizeLine) :
    Ev prog w W k sc fn Γ (.Subscript value (.Slice none upper none p) pos) (.dat (.list ((l.take n).map h))):=by
  have:=ev_slice_list (p:=p) (pos:=pos) hx evp_none hl (by simpa using hz)
  rw [pick_upto,← List.map_take] at this
  exact this
theorem ev_and {e1 e2:Expr} {pos:Pos} {x z:V} {c:Bool} (h1:Ev prog w W k sc fn Γ e1 x) (ht:TrG prog w W k x c) (h2:c=true→Ev prog w W k sc fn Γ e2 z) (h3:c=false→z=x)
    (he:∀ env,evalEach [e1,e2] env=[eval e1 env,eval e2 env]:=by intro _; rfl):Ev prog w W k sc fn Γ (.BoolOp .And [e1,e2] pos) z:=fun fr P s F hsc st A Q E rm q=>by
  rw [arm_eval_BoolOp,he]
  unfold boolOp
  refine wpAny_bind (h1 fr P s F hsc st A _ E rm fun v s₁ F₁ g₁ hv=>?_)
  refine wpAny_bind (wpAny_standAt (wpAny_bind (wpAny_holding (ht s₁ F₁ v (st.step g₁).base hv A _ E rm fun s₂ F₂ g₂=>?_))))
  cases c with
  | false =>
    have:=h3 rfl
    subst this
    exact wpAny_pure (q v s₂ F₂ (g₁.trans g₂) (V.is.mono g₂.sub hv))
  | true =>
    unfold boolOp
    exact h2 rfl fr P s₂ F₂ hsc ((st.step g₁).step g₂) A Q E rm fun v' s₃ F₃ g₃ hv'=>q v' s₃ F₃ ((g₁.trans g₂).trans g₃) hv'
end
end Mine
namespace Mine
abbrev dictM (kx vx:Expr):Value→Env→Sem Unit:=fun acc env=>do
        let kv ← eval kx env
        let vv ← holding [kv] (eval vx env)
        match acc with
        | .ref d=>do
          standAt { kx.pos with endLine:=vx.pos.endLine,endCol:=vx.pos.endCol }
          holding [kv,vv] (dictSet d kv vv)
        | _=>unsupported "internal:dictcomp"
section
variable {prog:Program} {w:World} {W:Wd} {k:Nat} {sc:Scope} {fn:Bool} {Γ:Ctx'}
theorem compTurnD_node (kx vx target iter:Expr) (ifs:List Expr) (g1:Comprehension) (hg:g1.is_async=0) (scope:Scope) (pos:Pos) (it:Value) (D:Addr) (env:Env) :
    compTurn (.DictComp kx vx [⟨target,iter,ifs,0⟩,g1] scope pos) 0 it (.ref D) env=(do
      standAt iter.pos
      match ← pyNext it with
      | none=>pure (.done .next)
      | some v =>
        letOwnedTupleGo target it v
        assign target env v
        let mut ok:=true
        for c in ifs do
          if ok then ok ← isTrue c env (eval c env)
        if ok then
          nodeM (.DictComp kx vx [⟨target,iter,ifs,0⟩,g1] scope pos) 1 g1.iter (.ref D) env
        again (.compLoop (.DictComp kx vx [⟨target,iter,ifs,0⟩,g1] scope pos) 0 it (.ref D) env)):=by
  obtain ⟨a,b,c,d⟩:=g1
  have hg':d=0:=hg
  subst hg'
  refine bind_congr fun _=>bind_congr fun r=>?_
  cases r with
  | none=>rfl
  | some v =>
    refine bind_congr fun _=>bind_congr fun _=>bind_congr fun ok=>?_
    cases ok with
    | false=>rfl
    | true =>
      simp only [nodeM,if_true,bind_assoc]
      rfl
theorem compTurnD_leaf2 (kx vx target iter:Expr) (ifs:List Expr) (g0:Comprehension) (scope:Scope) (pos:Pos) (it:Value) (D:Addr) (env:Env) :
    compTurn (.DictComp kx vx [g0,⟨target,iter,ifs,0⟩] scope pos) 1 it (.ref D) env=(do
      standAt iter.pos
      match ← pyNext it with
      | none=>pure (.done .next)
      | some v =>
        letOwnedTupleGo target it v
        assign target env v
        let mut ok:=true
        for c in ifs do
          if ok then ok ← isTrue c env (eval c env)
        if ok then
          dictM kx vx (.ref D) env
        again (.compLoop (.DictComp kx vx [g0,⟨target,iter,ifs,0⟩] scope pos) 1 it (.ref D) env)):=by rfl
theorem startD2 {kx vx:Expr} {g0:Comprehension} {target iter:Expr} {ifs:List Expr} {scope:Scope} {pos:Pos} {A:Around} {R:Result→Shared→Prop} {s:Shared} {it acc:Value} {env:Env}
    (h0:codeAny (model prog w) A (.compLoop (.DictComp kx vx [g0,⟨target,iter,ifs,0⟩] scope pos) 1 it acc env) R s)
    (h:wpAny (model prog w) A (pyIter it) (fun it' s'=>codeAny (model prog w) A (.compLoop (.DictComp kx vx [g0,⟨target,iter,ifs,0⟩] scope pos) 1 it' acc env) R s')
      (notedBy (model prog w) A env fun x s'=>R (.error x) s') s) :
    codeAny (model prog w) A (.compStart (.DictComp kx vx [g0,⟨target,iter,ifs,0⟩] scope pos) 1 it acc env) R s:=by
  refine codeAny_of_tree ?_
  show wpAny _ A ((compStart (.DictComp kx vx [g0,⟨target,iter,ifs,0⟩] scope pos) 1 it acc env).onRaise (fun x=>do noteFrame x env; standAt theWindowsPlace)) _ _ s
  refine wpAny_notedAt ?_
  unfold compStart
  show wpAny _ _ (ask >>= _) _ _ s
  refine wpAny_bind (wpAny_askSetting (wpAny_ite ?_))
  split
  · first
      | exact wpAny_bind (wpAny_pure (wpAny_pure (And.intro rfl h0)))
      | exact wpAny_pure (And.intro rfl h0)
  · first
      | exact wpAny_bind (wpAny_rule (wpAny_bind (wpAny_standAt (wpAny_bind (wpAny_mono h (fun it' s' h'=>wpAny_pure (And.intro rfl h')) fun _ _ x=>x)))))
      | (refine wpAny_bind (wpAny_rule ?_); show wpAny _ _ (standAt iter.pos >>= _) _ _ s; exact wpAny_bind (wpAny_standAt (wpAny_bind (wpAny_mono h (fun it' s' h'=>wpAny_pure (And.intro rfl h')) fun _ _ x=>x))))
theorem cld2 {kx vx tgt iter:Expr} {ifs:List Expr} {g0:Comprehension} {scope:Scope} {pos:Pos} {xs:List V} {as:Nat→List (Str × Dat)}
    (turn:∀ i x,xs[i]?=some x→CTurn prog w W k sc Γ (dictK prog w) tgt ifs (dictM kx vx) x (as i) (as (i + 1))):CLoop prog w W k sc Γ (dictK prog w) (.DictComp kx vx [g0,⟨tgt,iter,ifs,0⟩] scope pos) 1 tgt xs (as 0) (as xs.length) :=
  comp_loop (K:=dictK prog w) (ifs:=ifs) (M:=dictM kx vx) (p:=iter.pos) turn (fun _ _ _=>rfl) (fun _ _ _=>rfl) (fun _ _ _ _=>rfl) (fun _ _ _=>compTurnD_leaf2 ..)
theorem cld0 {kx vx tgt iter tgt' iter':Expr} {ifs ifs':List Expr} {scope:Scope} {pos:Pos} {xs:List V} {as:Nat→List (Str × Dat)}
    (turn:∀ i x,xs[i]?=some x→CTurn prog w W k sc Γ (dictK prog w) tgt ifs (nodeM (.DictComp kx vx [⟨tgt,iter,ifs,0⟩,⟨tgt',iter',ifs',0⟩] scope pos) 1 iter') x (as i) (as (i + 1))) :
    CLoop prog w W k sc Γ (dictK prog w) (.DictComp kx vx [⟨tgt,iter,ifs,0⟩,⟨tgt',iter',ifs',0⟩] scope pos) 0 tgt xs (as 0) (as xs.length) :=
  comp_loop (K:=dictK prog w) (ifs:=ifs) (M:=nodeM (.DictComp kx vx [⟨tgt,iter,ifs,0⟩,⟨tgt',iter',ifs',0⟩] scope pos) 1 iter') (p:=iter.pos) turn (fun _ _ _=>rfl) (fun _ _ _=>rfl) (fun _ _ _ _=>rfl) (fun _ _ _=>compTurnD_node _ _ _ _ _ _ rfl ..)
theorem ev_dcomp {kx vx iter tgt iter' tgt':Expr} {ifs ifs':List Expr} {scope:Scope} {pos:Pos} {xs:List V} {out:List (Str × Dat)} (hok:scOk sc scope=true) (hit:EvIter prog w W k sc fn Γ tgt iter xs)
    (hl:CLoop prog w W k (relab sc scope) (capt sc scope Γ) (dictK prog w) (.DictComp kx vx [⟨tgt,iter,ifs,0⟩,⟨tgt',iter',ifs',0⟩] scope pos) 0 tgt xs [] out)
    (hs:∀ env x,foldedSetIterable iter env x=pure x:=by intro _ _; rfl):Ev prog w W k sc fn Γ (.DictComp kx vx [⟨tgt,iter,ifs,0⟩,⟨tgt',iter',ifs',0⟩] scope pos) (.dic out):=by
  intro fr P s F hsc st A Q E rm q
  have e:eval (.DictComp kx vx [⟨tgt,iter,ifs,0⟩,⟨tgt',iter',ifs',0⟩] scope pos) fr.env=comprehension (.DictComp kx vx [⟨tgt,iter,ifs,0⟩,⟨tgt',iter',ifs',0⟩] scope pos) scope fr.env (firstIterPos [⟨tgt,iter,ifs,0⟩,⟨tgt',iter',ifs',0⟩] pos) newDict false (eval iter fr.env):=rfl
  rw [e]
  have hnew:({ cls:=.type "dict",data:=.dict #[] }:Obj).IsDictOf (PySem.strKind prog w) []:=by
    obtain ⟨o,ho,hd⟩:=Heap.dictOf_iff.mp (Heap.DictOf.new (knd:=PySem.strKind prog w) s.heap)
    rw [Heap.get?_push_size _ rfl] at ho
    exact (Option.some.inj ho) ▸ hd
  refine comp_run (K:=dictK prog w) (a:=[]) (o₀:={ cls:=.type "dict",data:=.dict #[] }) st hsc rm hok rfl hit (fun s Q h=>?_) rfl (fun F=>⟨[],hnew,.nil⟩) hl (fun _ _ _ _ _ _ h h'=>codeAny_compStart_dict h h') (hs _) ?_
  · simp only [newDict,newObj]
    exact wpAny_bind (wpAny_alloc (wpAny_pure h))
  intro s' F' C D o m g hD hok' hDn hDF hC hCn hCF hCD
  obtain ⟨kvv,hdic,hr⟩:=hok'
  refine ⟨m,hC,fun h' hs'=>?_⟩
  have g₁:Grow W s { s' with heap:=h' } F F':=by
    refine ⟨fun a o ht e=>(hs'.2 a (fun q=>?_)).trans (g.keep a o ht e),fun p hp=>(hs'.2 _ (hCF p hp)).trans (g.has p hp),g.sub,g.new,g.tok,g.toks,?_,g.os,g.gens,g.tabs.keeps fun a o ha e=>(hs'.2 a fun q=>?_).trans e⟩
    · rw [q] at e; exact absurd (Heap.lt_size e) (Nat.not_lt.mpr hCn)
    · show _≤h'.objs.size; rw [hs'.1]; exact g.size
    · rw [q] at ha; exact st.base.not_tab_of_size hCn ha
  refine q _ _ _ (g₁.freeze hDn ((hs'.2 _ (Ne.symm hCD)).trans hD)) ⟨D,o,kvv,rfl,.head _,?_,hdic,hr.mono (Fz.le_ob _ _ _)⟩
  obtain ⟨mc,hm,_⟩:=W.nodigits
  have h1:=hm.lt
  have h2:=Nat.le_trans st.base.size hDn
  have h3:(2:Nat) < W.base.objs.size:=h1
  have:D≠(1:Nat):=by
    intro e
    rw [e] at h2
    exact absurd (Nat.lt_of_lt_of_le h3 h2) (by decide)
  exact beq_eq_false_iff_ne.mpr this
theorem swaps_cell {value:Expr} {y:Str} {p:Pos} {line:Nat} {sc:Scope} (h:(sc.names.lookup y == some .local)=false) (env:Env) (he:env.scope=sc):swapsWith value (some (.Name y p)) line env=pure false:=by
  subst he
  have e:∀ b:Bool,(b && (env.kindOf y == some .local))=false:=fun b=>by
    show (b && (env.scope.names.lookup y == some .local))=false
    rw [h,Bool.and_false]
  unfold swapsWith
  cases value <;> first
    | rfl
    | (show pure (_ && _ && _ && _)=_; rw [e]; rfl)
end
end Mine
namespace Mine
variable {w:World} {W:Wd} {k:Nat}
def coll (a b:Str):Int:=PyProof.Rows.b2i (decide (b.cps.toList < a.cps.toList)) - PyProof.Rows.b2i (decide (a.cps.toList < b.cps.toList))
theorem eit_listd {prog:Program} {sc:Scope} {fn:Bool} {Γ:Ctx'} {tgt e:Expr} {ds:List Dat} (he:Ev prog w W k sc fn Γ e (.dat (.list ds))) (ht:nameTgt tgt=true:=by rfl):EvIter prog w W k sc fn Γ tgt e (ds.map fun d=>V.dat d):=eit_list he ht
theorem sp_order (ok:Wok W) {l:List Str} (hz:l.length≤1000) (hlt:∀ p ∈ l.zip (l.drop 1),coll p.1 p.2=-1∧coll p.2 p.1=1∧coll p.1 p.1=0) (h1:0 < l.length) :
    Spec w W (k + 2) 27 [.dat (.list (l.map Dat.str))] (.dat (.bool true)):=by
  refine sp_of ["texts"] (fun pm code doc vs h=>by match vs,h with | [u],_=>rfl) (by decide) (by decide) rfl ?_
  have hz2:sizeLine=16777216:=rfl
  let row:Dat:=.list [.int (-1),.int 1,.int 0]
  let told:List Dat:=(l.zip (l.drop 1)).map fun _=>row
  have hlen:told.length=l.length - 1:=by simp [told]
  have htold:told=(List.replicate (l.length - 1) [row]).flatten:=by
    rw [← hlen]
    apply List.ext_getElem
    · simp
    · intro i h1 h2
      simp [told]
  have hrow:∀ d ∈ told,d=row:=fun d hd=>by
    obtain ⟨_,_,rfl⟩:=List.mem_map.mp hd; rfl
  have hk:∀ d ∈ told,kqdOk 8 d=true:=fun d hd=>by rw [hrow d hd]; rfl
  refine ex_seq (Γ':=[("told",.val (.dat (.list told))),("texts",.val (.dat (.list (l.map Dat.str))))]) ?_ (ex_stop (ex1_return ?_))
  · refine ex1_assignComp (out:=told) (by decide) (eit_zipm (r:=l.drop 1) (g:=Dat.str) (bname ok (by decide) rfl (by decide +kernel)) (ev_name rfl) (ev_from (n:=1) (ev_name rfl) (evp_some ev_int) (by omega))) ?_ rfl (by decide)
    have e:told=[] ++ (l.zip (l.drop 1)).flatMap fun _=>[row]:=by rw [flat_single]; rfl
    rw [e]
    refine cl1 (by rw [flat_single]; simp only [List.length_map,List.length_zip,List.length_drop,List.length_nil]; omega) fun q hq=>?_
    obtain ⟨c1,c2,c3⟩:=hlt q hq
    refine ⟨_,true,asg_tuple2 (.inl rfl) (.inl rfl),keep_cons2 rfl rfl,evt_nil,fun _=>emitL_leaf (ev_list (ds:=[.int (-1),.int 1,.int 0]) (evl_cons ?_ (evl_cons ?_ (evl_cons ?_ evl_nil)))),fun h=>nomatch h⟩
    · rw [← c1]; exact ev_fn ok sp_strcoll (evl_cons (ev_name rfl) (evl_cons (ev_name rfl) evl_nil))
    · rw [← c2]; exact ev_fn ok sp_strcoll (evl_cons (ev_name rfl) (evl_cons (ev_name rfl) evl_nil))
    · rw [← c3]; exact ev_fn ok sp_strcoll (evl_cons (ev_name rfl) (evl_cons (ev_name rfl) evl_nil))
  · refine ev_and (x:=.dat (.bool true)) (c:=true) (ev_cmp (ev_name rfl) (ev_bin (ev_list (ds:=[row]) (evl_cons (ev_list (ds:=[.int (-1),.int 1,.int 0]) (evl_cons (ev_un ev_int un_neg) (evl_cons ev_int (evl_cons ev_int evl_nil)))) evl_nil))
      (ev_bin (ev_b (bname ok (by decide) rfl (by decide +kernel)) (evl_cons (ev_name rfl) evl_nil) (c_len_list (by simp only [List.length_map]; omega))) ev_int bin_sub) (bin_mul_list ?_ ?_ ?_)) (cmp_eq_list ?_ hk ?_)) tr_bool (fun _=>?_) (fun h=>nomatch h)
    · simp; omega
    · simp; omega
    · simp; omega
    · have:((((l.map Dat.str).length:Int) - 1).toNat)=l.length - 1:=by simp only [List.length_map]; omega
      rw [this,← htold]
      exact ⟨fun _=>rfl,fun _=>rfl⟩
    · intro d hd
      have:d=row:=by
        rw [List.mem_flatten] at hd
        obtain ⟨q,hq,hd⟩:=hd
        rw [List.eq_of_mem_replicate hq] at hd
        exact List.mem_singleton.mp hd
      rw [this]; rfl
    · refine ev_cmp (ev_lc2 (l:=told) (g:=fun d=>V.dat d) (fun _=>[]) (by decide) (eit_listd (ev_name rfl)) (fun d hd=>?_) (by rw [show told.flatMap (fun _=>([]:List Dat))=[] by simp]; exact Nat.zero_le _)) (ev_list (ds:=[]) evl_nil) (cmp_eq_list ?_ ?_ (fun _ h=>nomatch h))
      · have hd':=hrow d hd
        subst hd'
        refine ⟨_,true,asg_name (.inl rfl),keep_cons rfl,evt_nil,fun _=>emitL_node (l:=([-1,1,0]:List Int)) (g:=fun i=>V.dat (.int i)) (f:=fun _=>[]) (eit_listm (h:=Dat.int) (ev_name rfl)) (fun i _=>?_),fun h=>nomatch h⟩
        exact ⟨_,false,asg_name (.inl rfl),keep_cons rfl,evt_one (evb_val (ev_b (bname ok (by decide) rfl (by decide +kernel)) (evl_cons (ev_name rfl) (evl_cons (ev_bname (bname ok (by decide) rfl (by decide +kernel))) evl_nil)) c_isinstance_int_bool) tr_bool),fun h=>(nomatch h),fun _=>rfl⟩
      · simp
      · simp
end Mine
namespace Mine
variable {w:World} {W:Wd} {k:Nat}
def insAll (a:List (Str × Dat)) (ks:List Str):List (Str × Dat):=ks.foldl (fun a x=>storedD a x (.int 1)) a
theorem insAll_snoc (a:List (Str × Dat)) (ks:List Str) (x:Str):insAll a (ks ++ [x])=storedD (insAll a ks) x (.int 1):=by unfold insAll; rw [List.foldl_append]; rfl
theorem insAll_app (a:List (Str × Dat)) (ks ls:List Str):insAll a (ks ++ ls)=insAll (insAll a ks) ls:=by unfold insAll; rw [List.foldl_append]
theorem storedD_len (a:List (Str × Dat)) (x:Str) (d:Dat):(storedD a x d).length≤a.length + 1:=by unfold storedD; split <;> simp
theorem insAll_len (ks:List Str):∀ a:List (Str × Dat),(insAll a ks).length≤a.length + ks.length:=by
  induction ks with
  | nil=>intro a; simp [insAll]
  | cons x r ih =>
    intro a
    have h1:=ih (storedD a x (.int 1))
    have h2:=storedD_len a x (.int 1)
    show (insAll (storedD a x (.int 1)) r).length≤_
    simp; omega
theorem storedD_any (a:List (Str × Dat)) (x y:Str) (d:Dat):(storedD a x d).any (fun p=>decide (p.1=y))=(a.any (fun p=>decide (p.1=y)) || decide (x=y)):=by
  unfold storedD
  split
  · rename_i h
    have hk:(a.map (fun kv=>if kv.1=x then (kv.1,d) else kv)).any (fun p=>decide (p.1=y))=a.any (fun p=>decide (p.1=y)):=by
      rw [List.any_map]
      congr 1
      funext p
      simp only [Function.comp_apply]
      split <;> rfl
    rw [hk]
    by_cases e:x=y
    · subst e
      rw [h]; simp
    · simp [e]
  · rw [List.any_append]; simp
theorem insAll_any (y:Str) (ks:List Str):∀ a:List (Str × Dat),(insAll a ks).any (fun p=>decide (p.1=y))=(a.any (fun p=>decide (p.1=y)) || decide (y ∈ ks)):=by
  induction ks with
  | nil=>intro a; simp [insAll]
  | cons x r ih =>
    intro a
    show (insAll (storedD a x (.int 1)) r).any _=_
    rw [ih,storedD_any,Bool.or_assoc]
    congr 1
    by_cases e:x=y
    · simp [e]
    · have:¬ y=x:=fun h=>e h.symm
      simp [e,this]
def unionOf (tops:List Str):List Str:=tops.flatMap fun t=>setsOf t.cps.toList
def rowOf (names tops:List Str):List Int:=names.map fun n=>if n ∈ unionOf tops then 1 else 0
theorem flat_take_snoc {α β:Type} {l:List α} {f:α→List β} {i:Nat} (hi:i < l.length):(l.take (i + 1)).flatMap f=(l.take i).flatMap f ++ f l[i]:=by
  rw [take_snoc hi,List.flatMap_append]; simp
theorem flat_take_len {α β:Type} {l:List α} {f:α→List β} {i:Nat}:((l.take i).flatMap f).length≤(l.flatMap f).length:=by
  have e:l.flatMap f=(l.take i).flatMap f ++ (l.drop i).flatMap f:=by rw [← List.flatMap_append,List.take_append_drop]
  rw [e,List.length_append]; omega
theorem sp_row (ok:Wok W) {names tops:List Str} (hn:names.length≤1000) (ha:∀ t ∈ tops,t.cps.all (· < 128)=true∧t.length≤8) (hu:(unionOf tops).length≤100000) :
    Spec w W (k + 3) 28 [.dat (.list (names.map Dat.str)),.dat (.list (tops.map Dat.str))] (.dat (.bytes (byteArr (rowOf names tops)))):=by
  refine sp_of ["names","tops"] (fun pm code doc vs h=>by match vs,h with | [u,v],_=>rfl) (by decide) (by decide) rfl ?_
  have hz2:sizeLine=16777216:=rfl
  refine ex_seq (Γ':=[("within",.val (.dic (insAll [] (unionOf tops)))),("names",.val (.dat (.list (names.map Dat.str)))),("tops",.val (.dat (.list (tops.map Dat.str))))]) ?_ (ex_stop (ex1_return ?_))
  · refine ex1_assign (ev_dcomp (out:=insAll [] (unionOf tops)) (by decide) (eit_listm (l:=tops) (h:=Dat.str) (ev_name rfl)) ?_) (.inr ⟨rfl,rfl⟩) (fun env he=>swaps_cell (by decide) env he)
    let as:Nat→List (Str × Dat):=fun i=>insAll [] ((tops.take i).flatMap fun t=>setsOf t.cps.toList)
    have e:insAll [] (unionOf tops)=as ((tops.map fun a=>V.dat (.str a)).length):=by
      show _=insAll [] _
      rw [List.length_map,List.take_length]; rfl
    rw [e]
    refine cld0 (as:=as) fun i x hx=>?_
    obtain ⟨hi,rfl⟩:=nth_map hx
    obtain ⟨h1,h2⟩:=ha _ (List.getElem_mem hi)
    refine ⟨_,true,asg_name (.inl rfl),keep_cons rfl,evt_nil,fun _=>?_,fun h=>(nomatch h)⟩
    let bs:Nat→List (Str × Dat):=fun j=>insAll (as i) ((setsOf tops[i].cps.toList).take j)
    have e1:as i=bs 0:=by simp [bs,insAll]
    have e2:as (i + 1)=bs (((setsOf tops[i].cps.toList).map fun a=>V.dat (.str a)).length):=by
      show insAll [] _=insAll (insAll [] _) _
      rw [List.length_map,List.take_length,flat_take_snoc hi,insAll_app]
    rw [e1,e2]
    refine emit_node (eit_listm (l:=setsOf tops[i].cps.toList) (h:=Dat.str) (ev_fn ok (sp_sets ok h1 h2) (evl_cons (ev_name rfl) evl_nil))) (cld2 (as:=bs) fun j y hy=>?_) (fun _ _ _ _ _ _ h h'=>startD2 h h')
    obtain ⟨hj,rfl⟩:=nth_map hy
    refine ⟨_,true,asg_name (.inl rfl),keep_cons rfl,evt_nil,fun _=>?_,fun h=>(nomatch h)⟩
    have e3:bs (j + 1)=storedD (bs j) ((setsOf tops[i].cps.toList)[j]) (.int 1):=by
      show insAll _ _=_
      rw [take_snoc hj,insAll_snoc]
    rw [e3]
    refine emit_dict (ev_name rfl) ev_int ?_
    have l1:=insAll_len ((setsOf tops[i].cps.toList).take j) (as i)
    have l2:=insAll_len ((tops.take i).flatMap fun t=>setsOf t.cps.toList) []
    have l3:=flat_take_len (l:=tops) (f:=fun t=>setsOf t.cps.toList) (i:=i)
    have l4:((setsOf tops[i].cps.toList).take j).length≤256:=by
      rw [List.length_take,setsOf_len]
      have:2 ^ tops[i].cps.toList.length≤2 ^ 8:=Nat.pow_le_pow_right (by decide) (by simpa [Str.length] using h2)
      omega
    have hu':(tops.flatMap fun t=>setsOf t.cps.toList).length≤100000:=hu
    show (insAll (as i) _).length≤sizeLine
    have l2':(as i).length≤[].length + ((tops.take i).flatMap fun t=>setsOf t.cps.toList).length:=l2
    simp only [List.length_nil] at l2'
    omega
  · have hrow:names.flatMap (fun n=>[Dat.int (if n ∈ unionOf tops then 1 else 0)])=(rowOf names tops).map Dat.int:=by
      rw [flat_single,rowOf,List.map_map]; rfl
    refine ev_b (bname ok (by decide) rfl (by decide +kernel)) (evl_cons (x:=.dat (.list ((rowOf names tops).map Dat.int))) ?_ evl_nil) (c_bytes (fun n hn=>?_) ?_)
    · rw [← hrow]
      refine ev_lc1 (l:=names) (g:=fun n=>V.dat (.str n)) _ (by decide) (eit_listm (ev_name rfl)) (fun n hn=>?_) (by rw [flat_single,List.length_map]; omega)
      have e:(insAll [] (unionOf tops)).any (fun p=>decide (p.1=n))=decide (n ∈ unionOf tops):=by rw [insAll_any]; simp
      refine ⟨_,true,asg_name (.inl rfl),keep_cons rfl,evt_nil,fun _=>emitL_leaf ?_,fun h=>(nomatch h)⟩
      have hif:(if n ∈ unionOf tops then (1:Int) else 0)=(if ((insAll [] (unionOf tops)).any (fun p=>decide (p.1=n))) then (1:Int) else 0):=by
        rw [e]; by_cases h:n ∈ unionOf tops <;> simp [h]
      rw [hif]
      exact ev_b (bname ok (by decide) rfl (by decide +kernel)) (evl_cons (ev_fn ok sp_contains (evl_cons (ev_name rfl) (evl_cons (ev_name rfl) evl_nil))) evl_nil) c_int_bool
    · obtain ⟨m,_,rfl⟩:=List.mem_map.mp hn
      split <;> omega
    · simp only [rowOf,List.length_map]; omega
end Mine
namespace Mine
variable {prog:Program} {w:World} {W:Wd} {k:Nat}
structure SumInv (W:Wd) (s₀ s:Shared) (F₀ F:Fz):Prop where
  keep:∀ a o,s₀.heap.get? a=some o→s.heap.get? a=some o
  size:s₀.heap.objs.size≤s.heap.objs.size
  toks:s₀.toks≤s.toks
  os:s.os=s₀.os
  gens:s.gens=s₀.gens
  obs:F.obs=F₀.obs
  sub:∀ p ∈ F₀.tks,p ∈ F.tks
  tok:TokOk F.tks s.toks
theorem SumInv.grow {s₀ s:Shared} {F₀ F:Fz} (b:Base W s₀ F₀) (x:SumInv W s₀ s F₀ F):Grow W s₀ s F₀ F where
  keep:=fun a o _ e=>x.keep a o e
  has:=fun p hp=>x.keep _ _ (b.has p (x.obs ▸ hp))
  sub:=⟨fun p hp=>x.obs ▸ hp,x.sub⟩
  new:=fun p hp=>.inl (x.obs ▸ hp)
  tok:=x.tok
  toks:=x.toks
  size:=x.size
  os:=x.os
  gens:=by rw [x.gens]; exact .rfl
  tabs:=(b.tabs.keeps fun a o _ e=>x.keep a o e).mono ⟨fun p hp=>x.obs ▸ hp,x.sub⟩
theorem sum_loop {s₀:Shared} {F₀:Fz} {A:Around} {R:Result→Shared→Prop} {l n I S:Nat} {vs:List Value} {ns:List Int} (hh:A.handled=none) (b:Base W s₀ F₀) (hl:(l,listOf vs.toArray n) ∈ F₀.obs) (hr:Reps F₀ vs (ns.map Dat.int))
    (hI:s₀.heap.objs.size≤I) (hS:s₀.heap.objs.size≤S) (hIS:I≠S) (hfit:∀ i,i < ns.length→InLong (ns.getD i 0)∧InLong ((ns.take (i + 1)).sum)) :
    ∀ (j i:Nat) (s:Shared) (F:Fz) (tA:Nat) (c:Nat),ns.length - i=j→i≤ns.length→SumInv W s₀ s F₀ F→s.heap.IsListIter I l i→s.heap.get? S=some { cls:=.type "list",dict:=none,data:=.seq #[.int (ns.take i).sum tA] c,slots:=#[] } →
      (tA,Dat.int (ns.take i).sum) ∈ F.tks →
      (∀ s' F' t,SumInv W s₀ s' F₀ F'→(t,Dat.int ns.sum) ∈ F'.tks→R (.ok (.ret (.int ns.sum t))) s') →
      codeAny (model prog w) A (.builtin "sum.loop" ⟨[.ref I,.ref S,rawInt 0,rawInt 0],[]⟩) R s:=by
  have llt:l < s₀.heap.objs.size:=Heap.lt_size (b.has _ hl)
  have hIl:I≠l:=fun e=>absurd llt (Nat.not_lt.mpr (e ▸ hI))
  have hlen:=hr.length
  rw [List.length_map] at hlen
  intro j
  induction j with
  | zero =>
    intro i s F tA c hj hi x hit hSo hA hR
    have hin:i=ns.length:=by omega
    subst hin
    refine codeAny_builtin PySem.F.entry_sum_loop ?_
    rw [Around.under_plainId PySem.F.plain_sum_loop _]
    show wpAny _ A.in1 (seqItems? (.ref S) >>= _) _ _ s
    refine wpAny_bind (wpAny_seqItems hSo rfl ?_)
    show wpAny _ A.in1 (tryCatch (pyNext (.ref I)) _ >>= _) _ _ s
    have hL:s.heap.IsList l vs.toArray:=⟨_,x.keep _ _ (b.has _ hl),rfl,_,rfl⟩
    have hx:vs.toArray[ns.length]?=none:=by simp; omega
    refine wpAny_bind (wpAny_tryCatch (any_hz (wpAny_pyNext_list_end (A:=A.in1) hh hit hL hx fun h' he h1 h2=>?_)))
    rw [List.take_length] at hA ⊢
    refine wpAny_pure (hR _ F tA ⟨fun a o e=>he a o (fun q=>absurd (Heap.lt_size e) (Nat.not_lt.mpr (by rw [q]; exact hI))) (x.keep a o e),Nat.le_trans x.size h1,x.toks,x.os,x.gens,x.obs,x.sub,x.tok⟩ hA)
  | succ j ih =>
    intro i s F tA c hj hi x hit hSo hA hR
    have hlt:i < ns.length:=by omega
    refine codeAny_builtin PySem.F.entry_sum_loop ?_
    rw [Around.under_plainId PySem.F.plain_sum_loop _]
    show wpAny _ A.in1 (seqItems? (.ref S) >>= _) _ _ s
    refine wpAny_bind (wpAny_seqItems hSo rfl ?_)
    show wpAny _ A.in1 (tryCatch (pyNext (.ref I)) _ >>= _) _ _ s
    have hL:s.heap.IsList l vs.toArray:=⟨_,x.keep _ _ (b.has _ hl),rfl,_,rfl⟩
    have hd:(ns.map Dat.int)[i]?=some (Dat.int (ns[i])):=by rw [List.getElem?_map,List.getElem?_eq_getElem hlt]; rfl
    obtain ⟨v,hv,hvr⟩:=hr.get hd
    cases hvr with
    | int hvt =>
      rename_i t
      refine wpAny_bind (wpAny_tryCatch (wpAny_pyNext_list_item hit hL (x:=.int ns[i] t) (by simpa using hv) fun h' hit' hs=>?_))
      have hS':h'.get? S=some { cls:=.type "list",dict:=none,data:=.seq #[.int (ns.take i).sum tA] c,slots:=#[] }:=(hs.2 _ (Ne.symm hIS)).trans hSo
      obtain ⟨⟨f1,f2⟩,f3,f4⟩:=hfit i hlt
      have hgd:ns.getD i 0=ns[i]:=by rw [List.getD_eq_getElem?_getD,List.getElem?_eq_getElem hlt]; rfl
      have hsum:(ns.take (i + 1)).sum=(ns.take i).sum + ns[i]:=by rw [take_snoc hlt,List.sum_append]; simp
      rw [hgd] at f1 f2
      rw [hsum] at f3 f4
      have hc:((decide (-(2 ^ 63)≤ns[i]) && decide (ns[i] < 2 ^ 63)) && (decide (-(2 ^ 63)≤(ns.take i).sum + ns[i]) && decide ((ns.take i).sum + ns[i] < 2 ^ 63)))=true:=by
        simp only [Bool.and_eq_true,decide_eq_true_eq]
        exact ⟨⟨f1,f2⟩,f3,f4⟩
      show wpAny _ A.in1 (if (_:Bool)=true then (mkInt ((ns.take i).sum + ns[i]) >>= _) else _) _ _ _
      split
      · refine wpAny_bind (wpAny_mkInt ?_)
        show wpAny _ A.in1 (updateSeq S (fun _=>#[.int ((ns.take i).sum + ns[i]) s.toks]) >>= _) _ _ _
        refine wpAny_bind ?_
        refine wpAny_updateSeq hS' rfl (wpAny_pure ⟨plainId_quiet PySem.F.plain_sum_loop _,?_⟩)
        have hne:∀ a o,s₀.heap.get? a=some o→a≠I∧a≠S:=fun a o e=>⟨fun q=>absurd (Heap.lt_size e) (Nat.not_lt.mpr (q ▸ hI)),fun q=>absurd (Heap.lt_size e) (Nat.not_lt.mpr (q ▸ hS))⟩
        rw [← hsum]
        refine ih (i + 1) _ (F.tk s.toks (.int (ns.take (i + 1)).sum)) s.toks _ (by omega) hlt ?_ ?_ (Heap.get?_update_self _ hS' rfl) (.head _) hR
        · refine ⟨fun a o e=>(Heap.get?_update_other _ _ (Ne.symm (hne a o e).2)).trans ((hs.2 _ (hne a o e).1).trans (x.keep a o e)),?_,Nat.le_succ_of_le x.toks,x.os,x.gens,x.obs,fun p hp=>.tail _ (x.sub p hp),x.tok.cons (Nat.le_refl _) (Nat.lt_succ_self _)⟩
          show _≤(Heap.update h' S _).objs.size
          rw [Heap.size_update,hs.1]; exact x.size
        · obtain ⟨o,ho,hc1,hd1⟩:=hit'
          exact ⟨o,(Heap.get?_update_other _ _ (Ne.symm hIS)).trans ho,hc1,hd1⟩
      · rename_i hneg
        exact absurd hc hneg
theorem c_sum {ns:List Int} (hfit:∀ i,i < ns.length→InLong (ns.getD i 0)∧InLong ((ns.take (i + 1)).sum)):Calls prog w W k (.builtin "sum") [.dat (.list (ns.map Dat.int))] (.dat (.int ns.sum)):=fun s F vs b hv A Q E rm q=>by
  cases hv with
  | cons h1 hr =>
    cases hr
    cases h1 with
    | list hm hr =>
      rename_i l us n
      refine call_function_tree PySem.F.kind_sum PySem.F.plain_sum PySem.F.entry_sum (PySem.F.args_sum1 _) ?_
      unfold Builtin.«sum»
      simp only [List.length_cons,List.length_nil]
      rw [if_neg (by decide)]
      refine wpAny_bind (wpAny_of_eq (show Builtin.Builtins.bindParams "sum" ["start"] 0 { }=pure [none] from rfl) ?_)
      refine wpAny_bind (wpAny_pyIter_list (isList_of b hm) ?_)
      refine wpAny_bind (wpAny_mkInt ?_)
      refine wpAny_bind (wpAny_pure ?_)
      simp only [List.forIn_cons,List.forIn_nil]
      refine wpAny_bind (wpAny_bind (wpAny_bind (wpAny_isInstance (T:="int") (b:=false) (typeIs_int _ _ _) PySem.sub_int_str ?_)))
      simp only [Bool.false_eq_true,if_false]
      refine wpAny_pure (wpAny_bind (wpAny_bind (wpAny_isInstance (T:="int") (b:=false) (typeIs_int _ _ _) PySem.sub_int_bytes ?_)))
      simp only [Bool.false_eq_true,if_false]
      refine wpAny_pure (wpAny_bind (wpAny_bind (wpAny_isInstance (T:="int") (b:=false) (typeIs_int _ _ _) PySem.sub_int_bytearray ?_)))
      simp only [Bool.false_eq_true,if_false]
      refine wpAny_pure (wpAny_pure ?_)
      refine wpAny_bind (wpAny_newObj_type ?_)
      refine wpAny_pure ⟨plainId_quiet PySem.F.plain_sum_loop _,?_⟩
      refine sum_loop (I:=s.heap.objs.size) (S:=(s.heap.push _).objs.size) (ns:=ns) rm.handled b hm hr (Nat.le_refl _) (by rw [Heap.size_push]; exact Nat.le_succ _) (by rw [Heap.size_push]; exact Nat.ne_of_lt (Nat.lt_succ_self _)) hfit
        ns.length 0 _ (F.tk s.toks (.int 0)) s.toks 0 rfl (Nat.zero_le _) ?_ ?_ (Heap.get?_push_size _ rfl) (.head _) fun s' F' t x ht=>?_
      · refine ⟨fun a o e=>Heap.get?_push_of_some _ (Heap.get?_push_of_some _ e),by simp; omega,Nat.le_succ _,rfl,rfl,rfl,fun p hp=>.tail _ hp,b.tok.cons (Nat.le_refl _) (Nat.lt_succ_self _)⟩
      · exact ⟨_,Heap.get?_push_of_some _ (Heap.get?_push_size _ rfl),rfl,rfl⟩
      · exact q _ s' F' (x.grow b) (.int ht)
end Mine
namespace Mine
variable {w:World} {W:Wd} {k:Nat}
def endsOf (ns:List Int):List Int:=(List.range (ns.length + 1)).map fun j=>(ns.take j).sum
def levelOf (names:List Str) (r:Int→Int) (a b:Int):List Str:=((stepFrom a 1 (b - a).toNat).filter fun j=>r j == 1).map fun j=>names.getD j.toNat Str.empty
def levelsOf (names:List Str) (r:Int→Int) (ns:List Int):List (List Str):=((endsOf ns).zip ((endsOf ns).drop 1)).map fun p=>levelOf names r p.1 p.2
abbrev strsD (l:List Str):Dat:=.list (l.map Dat.str)
theorem stepFrom_mem {a:Int}:∀ {n:Nat} {b:Int},b ∈ stepFrom a 1 n→a≤b∧b < a + n
  | 0,b,h=>nomatch h
  | n + 1,b,h=>by
    rcases List.mem_cons.mp h with rfl | h
    · constructor <;> omega
    · have:=@stepFrom_mem (a + 1) n b h
      constructor <;> omega
theorem stepFrom_range:∀ (n:Nat) (a:Nat),stepFrom (a:Int) 1 n=(List.range' a n).map fun j:Nat=>(j:Int)
  | 0,a=>rfl
  | n + 1,a=>by
    rw [List.range'_succ,List.map_cons,← stepFrom_range n (a + 1)]
    rfl
theorem stepFrom_zero (n:Nat):stepFrom 0 1 n=(List.range n).map fun j:Nat=>(j:Int):=by
  rw [List.range_eq_range']; exact stepFrom_range n 0
theorem stepFrom_len (a:Int):∀ n,(stepFrom a 1 n).length=n
  | 0=>rfl
  | n + 1=>by rw [stepFrom,List.length_cons]; rw [stepFrom_len (a + 1) n]
theorem flat_filter (l:List Int) (r:Int→Int) (nm:Int→Str):l.flatMap (fun j=>if r j == 1 then [Dat.str (nm j)] else [])=((l.filter fun j=>r j == 1).map nm).map Dat.str:=by
  induction l with
  | nil=>rfl
  | cons a l ih =>
    rw [List.flatMap_cons,ih,List.filter_cons]
    cases h:r a == 1 <;> simp [h]
theorem sum_take_le {ns:List Int} (h:∀ n ∈ ns,0≤n):∀ (i:Nat),0≤(ns.take i).sum∧(ns.take i).sum≤ns.sum:=by
  induction ns with
  | nil=>intro i; simp
  | cons a r ih =>
    intro i
    have ha:=h a (.head _)
    have ih:=ih (fun n hn=>h n (.tail _ hn))
    have h0:=ih 0
    simp at h0
    cases i with
    | zero=>simp; omega
    | succ i =>
      have:=ih i
      simp only [List.take_succ_cons,List.sum_cons]
      omega
theorem mem_ends {ns:List Int} (h:∀ n ∈ ns,0≤n) {a:Int} (ha:a ∈ endsOf ns):0≤a∧a≤ns.sum:=by
  obtain ⟨j,_,rfl⟩:=List.mem_map.mp ha
  exact sum_take_le h j
theorem sp_levels (ok:Wok W) {names:List Str} {x:V} {r:Int→Int} {ns:List Int} (hx:∀ j:Int,0≤j→j < names.length→GetG pw w W (k + 1) x (.dat (.int j)) (.dat (.int (r j)))) (h0:∀ n ∈ ns,0≤n)
    (hsum:ns.sum=names.length) (hn:names.length≤1000) (hl:ns.length≤1000) :
    Spec w W (k + 2) 30 [.dat (strsD names),x,.dat (.list (ns.map Dat.int))] (.dat (.list ((levelsOf names r ns).map strsD))):=by
  refine sp_of ["names","row","sizes"] (fun pm code doc vs h=>by match vs,h with | [u,v,z],_=>rfl) (by decide) (by decide) rfl ?_
  have hz2:sizeLine=16777216:=rfl
  have bnd:∀ i,0≤(ns.take i).sum∧(ns.take i).sum≤ns.sum:=sum_take_le h0
  refine ex_seq (Γ':=[("ends",.val (.dat (.list ((endsOf ns).map Dat.int)))),("names",.val (.dat (strsD names))),("row",.val x),("sizes",.val (.dat (.list (ns.map Dat.int))))]) ?_ (ex_stop (ex1_return ?_))
  · have e:(endsOf ns).map Dat.int=[] ++ (stepFrom 0 1 ((ns.length:Int) + 1).toNat).flatMap (fun j=>[Dat.int (ns.take j.toNat).sum]):=by
      rw [flat_single,show ((ns.length:Int) + 1).toNat=ns.length + 1 by omega,stepFrom_zero,List.map_map,endsOf,List.map_map]
      rfl
    refine ex1_assignComp (out:=(endsOf ns).map Dat.int) (by decide) (eit_range1 (n:=(ns.length:Int) + 1) (bname ok (by decide) rfl (by decide +kernel)) ?_ rfl (by omega) (by omega)) ?_ rfl (by decide)
    · refine ev_bin (ev_b (bname ok (by decide) rfl (by decide +kernel)) (evl_cons (ev_name rfl) evl_nil) (c_len_list (by simp; omega))) ev_int ?_
      rw [List.length_map]
      exact bin_add
    · rw [e]
      refine cl1 (by rw [flat_single,List.length_map,stepFrom_len]; simp; omega) fun j hj=>?_
      have hj':=stepFrom_mem hj
      refine ⟨_,true,asg_name (.inl rfl),keep_cons rfl,evt_nil,fun _=>emitL_leaf ?_,fun h=>(nomatch h)⟩
      refine ev_b (bname ok (by decide) rfl (by decide +kernel)) (evl_cons (ev_upto (n:=j.toNat) (ev_name rfl) (evp_some ?_) (by omega)) evl_nil) (c_sum fun i hi=>?_)
      · have hjn:((j.toNat:Nat):Int)=j:=by omega
        rw [hjn]; exact ev_name rfl
      · have hm:(ns.take j.toNat).getD i 0 ∈ ns:=by
          rw [List.getD_eq_getElem?_getD,List.getElem?_eq_getElem hi]
          exact List.mem_of_mem_take (List.getElem_mem hi)
        have h1:(ns.take j.toNat).getD i 0≤ns.sum:=by
          have:∀ (l:List Int),(∀ n ∈ l,0≤n)→∀ a ∈ l,a≤l.sum:=by
            intro l
            induction l with
            | nil=>intro _ a ha; cases ha
            | cons b l ih =>
              intro hl a ha
              have hb:=hl b (.head _)
              have hs:=(sum_take_le (fun n hn=>hl n (.tail _ hn)) l.length).1
              rw [List.take_length] at hs
              rcases List.mem_cons.mp ha with rfl | ha
              · simp; omega
              · have:=ih (fun n hn=>hl n (.tail _ hn)) a ha
                simp; omega
          exact this ns h0 _ hm
        have h2:=h0 _ hm
        have h3:=bnd (min (i + 1) j.toNat)
        rw [List.take_take]
        unfold InLong
        constructor <;> constructor <;> omega
  · have e:(levelsOf names r ns).map strsD=((endsOf ns).zip ((endsOf ns).drop 1)).flatMap (fun p=>[strsD (levelOf names r p.1 p.2)]):=by
      rw [flat_single,levelsOf,List.map_map]; rfl
    rw [e]
    have hel:(endsOf ns).length=ns.length + 1:=by simp [endsOf]
    refine ev_lc1 (l:=(endsOf ns).zip ((endsOf ns).drop 1)) (g:=fun p=>V.dat (.tuple [.int p.1,.int p.2])) _ (by decide) (eit_zipm (bname ok (by decide) rfl (by decide +kernel)) (ev_name rfl) (ev_from (n:=1) (ev_name rfl) (evp_some ev_int) (by omega))) (fun p hp=>?_) (by rw [flat_single]; simp; omega)
    have hp1:=mem_ends h0 (List.of_mem_zip hp).1
    have hp2:=mem_ends h0 (List.mem_of_mem_drop (List.of_mem_zip hp).2)
    refine ⟨_,true,asg_tuple2 (.inl rfl) (.inl rfl),keep_cons2 rfl rfl,evt_nil,fun _=>emitL_leaf ?_,fun h=>(nomatch h)⟩
    have e2:(levelOf names r p.1 p.2).map Dat.str=(stepFrom p.1 1 (p.2 - p.1).toNat).flatMap (fun j=>if r j == 1 then [Dat.str (names.getD j.toNat Str.empty)] else []):=by
      rw [flat_filter]; rfl
    show Ev pw w W (k + 1) _ _ _ _ (.dat (.list ((levelOf names r p.1 p.2).map Dat.str)))
    rw [e2]
    refine ev_lc1 _ (by decide) (eit_range2 (bname ok (by decide) rfl (by decide +kernel)) (ev_name rfl) (ev_name rfl) rfl (by omega) (by omega) (by omega) (by omega)) (fun j hj=>?_) ?_
    · have hj':=stepFrom_mem hj
      have hjl:j.toNat < names.length:=by omega
      refine ⟨_,r j == 1,asg_name (.inl rfl),keep_cons rfl,evt_one (evb_cmp (ev_sub (ev_name rfl) (ev_name rfl) (hx j (by omega) (by omega))) ev_int cmp_eq tr_bool),fun hb=>?_,fun hb=>by simp [hb]⟩
      rw [if_pos hb]
      refine emitL_leaf (ev_sub (ev_name rfl) (ev_name rfl) (get_list (by omega) (by omega) ?_))
      rw [List.getElem?_map,List.getD_eq_getElem?_getD,List.getElem?_eq_getElem hjl]
      rfl
    · have:∀ (l:List Int),(l.flatMap (fun j=>if r j == 1 then [Dat.str (names.getD j.toNat Str.empty)] else [])).length≤l.length:=by
        intro l
        induction l with
        | nil=>simp
        | cons a l ih =>
          rw [List.flatMap_cons,List.length_append,List.length_cons]
          split <;> simp only [List.length_cons,List.length_nil] <;> omega
      have h1:=this (stepFrom p.1 1 (p.2 - p.1).toNat)
      rw [stepFrom_len] at h1
      omega
end Mine
namespace Mine
variable {w:World} {W:Wd} {k:Nat}
def joinE (l:List Str):Str:=⟨(l.flatMap fun s=>s.cps.toList).toArray⟩
theorem join_eq (l:List Str):Txt.join Str.empty l=joinE l:=by
  have key:∀ (l:List Str) (a:Array Nat),(l.foldl (fun acc p=>acc ++ Str.empty.cps ++ p.cps) a)=a ++ (l.flatMap fun s=>s.cps.toList).toArray:=by
    intro l
    induction l with
    | nil=>intro a; simp
    | cons s r ih =>
      intro a
      rw [List.foldl_cons,ih]
      apply Array.ext'
      simp [Str.empty]
  show Builtin.Str.glued Str.empty l=joinE l
  unfold Builtin.Str.glued joinE
  rw [key]
  cases l with
  | nil=>rfl
  | cons s r=>simp
def totalLen (l:List Str):Nat:=(l.map fun s=>s.length).sum
theorem joinE_len (l:List Str):(joinE l).length=totalLen l:=by
  show ((l.flatMap fun s=>s.cps.toList).toArray).size=_
  rw [List.size_toArray,List.length_flatMap]
  rfl
theorem joinOk_of {l:List Str} (h:totalLen l≤1000000):JoinOk Str.empty l=true:=by
  unfold JoinOk Builtin.Str.tooLong
  have key:∀ (l:List Str) (a:Nat),l.foldl (fun acc x=>acc + x.length + Str.empty.length) a=a + totalLen l:=by
    intro l
    induction l with
    | nil=>intro a; rfl
    | cons s r ih =>
      intro a
      rw [List.foldl_cons,ih]
      simp only [totalLen,List.map_cons,List.sum_cons]
      show a + s.length + 0 + _=_
      omega
  rw [List.foldl_toArray,key]
  have hz2:sizeLine=16777216:=rfl
  simp
  omega
def meets (pair part:Str):Bool:=decide (pair.cps.getD 0 0 ∈ part.cps.toList) || decide (pair.cps.getD 1 0 ∈ part.cps.toList)
def lowStep (parts:List Str) (pair:Str):List Str:=(parts.filter fun p=>!meets pair p) ++ [joinE (parts.filter (meets pair))]
def partsOf (l1 l2:List Str):List Str:=l2.foldl lowStep l1
def lowOf (l0 l1 l2:List Str):List Int:=[if partsOf l1 l2=[] then (l0.length:Int) else 0,max 1 ((partsOf l1 l2).length:Int) - 1]
theorem total_app (a b:List Str):totalLen (a ++ b)=totalLen a + totalLen b:=by simp [totalLen]
theorem total_filter (l:List Str) (f:Str→Bool):totalLen (l.filter f) + totalLen (l.filter fun p=>!f p)=totalLen l:=by
  induction l with
  | nil=>rfl
  | cons a l ih =>
    rw [List.filter_cons,List.filter_cons]
    cases h:f a <;> simp [totalLen] at ih ⊢ <;> omega
theorem total_step (parts:List Str) (pair:Str):totalLen (lowStep parts pair)=totalLen parts:=by
  have h:=total_filter parts (meets pair)
  unfold lowStep
  rw [total_app]
  have:totalLen [joinE (parts.filter (meets pair))]=totalLen (parts.filter (meets pair)):=by
    show (joinE _).length + 0=_
    rw [Nat.add_zero,joinE_len]
  omega
theorem len_step (parts:List Str) (pair:Str):(lowStep parts pair).length≤parts.length + 1:=by
  unfold lowStep
  rw [List.length_append]
  have:=List.length_filter_le (fun p=>!meets pair p) parts
  simp; omega
def ascii (s:Str):Prop:=∀ c ∈ s.cps.toList,c < 128
theorem ascii_step {parts:List Str} {pair:Str} (h:∀ p ∈ parts,ascii p):∀ p ∈ lowStep parts pair,ascii p:=by
  intro p hp
  rcases List.mem_append.mp hp with hp | hp
  · exact h p (List.mem_filter.mp hp).1
  · cases List.mem_singleton.mp hp
    intro c hc
    have hc':c ∈ ((parts.filter (meets pair)).flatMap fun s=>s.cps.toList):=by simpa [joinE] using hc
    obtain ⟨s,hs,hc⟩:=List.mem_flatMap.mp hc'
    exact h s (List.mem_filter.mp hs).1 c hc
theorem parts_inv (l1:List Str) (h:∀ p ∈ l1,ascii p) (l2:List Str):totalLen (partsOf l1 l2)=totalLen l1∧(partsOf l1 l2).length≤l1.length + l2.length∧∀ p ∈ partsOf l1 l2,ascii p:=by
  induction l2 generalizing l1 with
  | nil=>exact ⟨rfl,Nat.le_refl _,h⟩
  | cons a l ih =>
    obtain ⟨h1,h2,h3⟩:=ih (lowStep l1 a) (ascii_step h)
    have:=len_step l1 a
    refine ⟨by rw [← total_step l1 a]; exact h1,?_,h3⟩
    show (partsOf (lowStep l1 a) l).length≤_
    simp; omega
theorem kqd_ascii {s:Str} (h:ascii s):kqdOk 8 (.str s)=true:=by
  show PyData.strOk s=true
  unfold PyData.strOk
  rw [Array.all_eq_true']
  intro c hc
  have:=h c (by simpa using hc)
  simp; omega
theorem cmp_chr_in {prog:Program} {x:Str} {c:Nat}:CmpG prog w W k .In (.dat (chr1 c)) (.dat (.str x)) (.dat (.bool (decide (c ∈ x.cps.toList)))):=by
  have:=cmp_in_str (prog:=prog) (w:=w) (W:=W) (k:=k) (x:=x) (y:=⟨#[c]⟩)
  unfold strIn at this
  rw [PySem.StrLaws.found_one] at this
  exact this
theorem cmp_chr_notIn {prog:Program} {x:Str} {c:Nat}:CmpG prog w W k .NotIn (.dat (chr1 c)) (.dat (.str x)) (.dat (.bool (!decide (c ∈ x.cps.toList)))):=by
  have:=cmp_notIn_str (prog:=prog) (w:=w) (W:=W) (k:=k) (x:=x) (y:=⟨#[c]⟩)
  unfold strIn at this
  rw [PySem.StrLaws.found_one] at this
  exact this
theorem flat_if {α:Type} (l:List α) (f:α→Bool) (g:α→Dat):l.flatMap (fun a=>if f a then [g a] else [])=(l.filter f).map g:=by
  induction l with
  | nil=>rfl
  | cons a l ih =>
    rw [List.flatMap_cons,ih,List.filter_cons]
    cases f a <;> simp
theorem flat_if_len {α:Type} (l:List α) (f:α→Bool) (g:α→Dat):(l.flatMap (fun a=>if f a then [g a] else [])).length≤l.length:=by
  rw [flat_if,List.length_map]; exact List.length_filter_le _ _
theorem sp_low (ok:Wok W) {l0 l1 l2:List Str} {rest:List (List Str)} (h1:∀ p ∈ l1,ascii p) (h2:∀ p ∈ l2,2≤p.length∧p.length≤8) (n0:l0.length≤1000) (n1:l1.length≤1000) (n2:l2.length≤1000) (ht:totalLen l1≤1000000) :
    Spec w W (k + 1) 32 [.dat (.list ((l0 :: l1 :: l2 :: rest).map strsD))] (.dat (.list ((lowOf l0 l1 l2).map Dat.int))):=by
  refine sp_of ["levels"] (fun pm code doc vs h=>by match vs,h with | [u],_=>rfl) (by decide) (by decide) rfl ?_
  have hz2:sizeLine=16777216:=rfl
  refine ex_seq (ex1_assign (x:=.dat (strsD l1)) (ev_b (bname ok (by decide) rfl (by decide +kernel)) (evl_cons (ev_sub (ev_name rfl) ev_int (get_list (by decide) (by decide) rfl)) evl_nil) (c_list (by simp; omega))) (.inl rfl)) ?_
  let Γs:Nat→Ctx':=fun i=>[("parts",.val (.dat (strsD (partsOf l1 (l2.take i))))),("levels",.val (.dat (.list ((l0 :: l1 :: l2 :: rest).map strsD))))]
  refine ex_seq (for_loop (Γs:=Γs) (n:=l2.length) (eit_listm (l:=l2) (h:=Dat.str) (ev_sub (ev_name rfl) ev_int (get_list (by decide) (by decide) rfl))) (Sub.cons rfl (.cons rfl .nil)).go ?_ (.inl ⟨by simp,rfl⟩)) (ex_stop (ex1_return ?_))
  · intro i x hi hx
    obtain ⟨_,rfl⟩:=nth_map hx
    obtain ⟨p1,p2⟩:=h2 _ (List.getElem_mem hi)
    have p1':2≤l2[i].cps.size:=p1
    obtain ⟨q1,q2,q3⟩:=parts_inv l1 h1 (l2.take i)
    have q2':(partsOf l1 (l2.take i)).length≤2000:=by rw [List.length_take] at q2; omega
    generalize hP:partsOf l1 (l2.take i)=parts at q1 q2 q3 q2'
    have hch:∀ (j:Nat) (hj:j < 2),l2[i].cps[j]?=some (l2[i].cps.getD j 0):=fun j hj=>by
      rw [Array.getD_eq_getD_getElem?,Array.getElem?_eq_getElem (show j < l2[i].cps.size by omega)]; rfl
    refine ⟨_,asg_name (.inr ⟨rfl,rfl⟩),?_⟩
    have hpl:List.lookup ("parts":Str) (Γs i)=some (.val (.dat (strsD parts))):=by rw [← hP]; rfl
    let met:=parts.filter (meets l2[i])
    have hmet:parts.flatMap (fun p=>if meets l2[i] p then [Dat.str p] else [])=met.map Dat.str:=flat_if _ _ _
    have hrest:parts.flatMap (fun p=>if !meets l2[i] p then [Dat.str p] else [])=(parts.filter fun p=>!meets l2[i] p).map Dat.str:=flat_if _ _ _
    have hmt:totalLen met≤totalLen parts:=by have:=total_filter parts (meets l2[i]); show totalLen (parts.filter _)≤_; omega
    refine ex_to (ex_seq (ex1_assign (x:=.dat (strsD met)) ?_ (.inr ⟨rfl,rfl⟩) (fun env he=>swaps_cell (by decide) env he)) (ex_seq (ex1_assign (x:=.dat (strsD (lowStep parts l2[i]))) ?_ (.inl rfl)) ex_nil)) (.cons ?_ (.cons rfl .nil))
    · show Ev _ _ _ _ _ _ _ _ (.dat (.list (met.map Dat.str)))
      rw [← hmet]
      refine ev_lc1 _ (by decide) (eit_listm (l:=parts) (h:=Dat.str) (ev_name hpl)) (fun p hp=>?_) (by have:=flat_if_len parts (meets l2[i]) Dat.str; omega)
      refine ⟨_,meets l2[i] p,asg_name (.inl rfl),keep_cons rfl,evt_one (evb_boolop ?_),fun hb=>?_,fun hb=>by simp [hb]⟩
      · have:meets l2[i] p=(decide (l2[i].cps.getD 0 0 ∈ p.cps.toList) || (decide (l2[i].cps.getD 1 0 ∈ p.cps.toList) || false)):=by simp [meets]
        rw [this]
        refine eva_or_cons (evb_cmp (ev_sub (ev_name rfl) ev_int (get_str (by decide) (hch 0 (by decide)) (by omega))) (ev_name rfl) cmp_chr_in tr_bool) fun _=>?_
        exact eva_or_cons (evb_cmp (ev_sub (ev_name rfl) ev_int (get_str (by decide) (hch 1 (by decide)) (by omega))) (ev_name rfl) cmp_chr_in tr_bool) fun _=>eva_or_nil
      · rw [if_pos hb]
        exact emitL_leaf (ev_name rfl)
    · have e:(lowStep parts l2[i]).map Dat.str=parts.flatMap (fun p=>if !meets l2[i] p then [Dat.str p] else []) ++ [Dat.str (Txt.join Str.empty met)]:=by
        rw [hrest,join_eq,lowStep,List.map_append]; rfl
      show Ev _ _ _ _ _ _ _ _ (.dat (.list ((lowStep parts l2[i]).map Dat.str)))
      rw [e]
      have hl1:=flat_if_len parts (fun p=>!meets l2[i] p) Dat.str
      refine ev_bin (ev_lc1 _ (by decide) (eit_listm (l:=parts) (h:=Dat.str) (ev_name hpl)) (fun p hp=>?_) (by omega)) (ev_list (ds:=[Dat.str (Txt.join Str.empty met)]) (evl_cons (ev_join ev_str (ev_name rfl) (joinOk_of (by omega))) evl_nil)) (bin_add_list (by simp at hl1 ⊢; omega))
      have hmem:(!!meets l2[i] p)=true ↔ Dat.str p ∈ met.map Dat.str:=by
        rw [Bool.not_not]
        constructor
        · intro h; exact List.mem_map.mpr ⟨p,List.mem_filter.mpr ⟨hp,h⟩,rfl⟩
        · intro h
          obtain ⟨p',hp',e⟩:=List.mem_map.mp h
          cases e
          exact (List.mem_filter.mp hp').2
      have hk:∀ d ∈ met.map Dat.str,kqdOk 8 d=true:=fun d hd=>by
        obtain ⟨p',hp',rfl⟩:=List.mem_map.mp hd
        exact kqd_ascii (q3 p' (List.mem_filter.mp hp').1)
      refine ⟨_,!meets l2[i] p,asg_name (.inl rfl),keep_cons rfl,evt_one ?_,fun hb=>?_,fun hb=>by simp only [hb]; rfl⟩
      · have e:(!meets l2[i] p)=(!(!!meets l2[i] p)):=by simp
        rw [e]
        exact evb_cmp (ev_name rfl) (ev_name rfl) (cmp_notIn_list hmem hk (kqd_ascii (q3 p hp))) tr_bool
      · rw [if_pos hb]
        exact emitL_leaf (ev_name rfl)
    · show some _=some _
      rw [take_snoc hi,show partsOf l1 (l2.take i ++ [l2[i]])=lowStep (partsOf l1 (l2.take i)) l2[i] by unfold partsOf; rw [List.foldl_append]; rfl,hP]
  · obtain ⟨q1,q2,q3⟩:=parts_inv l1 h1 l2
    have e:List.lookup ("parts":Str) (Γs l2.length)=some (.val (.dat (strsD (partsOf l1 l2)))):=by show some _=some _; rw [List.take_length]
    have hlen:((strsD (partsOf l1 l2))=strsD (partsOf l1 l2)):=rfl
    refine ev_list (ds:=[.int (if partsOf l1 l2=[] then (l0.length:Int) else 0),.int (max 1 ((partsOf l1 l2).length:Int) - 1)]) (evl_cons ?_ (evl_cons ?_ evl_nil))
    · have hc:decide (partsOf l1 l2=[])=true ↔ (partsOf l1 l2).map Dat.str=[]:=by simp
      refine ev_ite (evb_cmp (ev_name e) (ev_list (ds:=[]) evl_nil) (cmp_eq_list hc (fun d hd=>?_) (fun _ h=>(nomatch h))) tr_bool) (fun h=>?_) (fun h=>?_)
      · obtain ⟨p',hp',rfl⟩:=List.mem_map.mp hd
        exact kqd_ascii (q3 p' hp')
      · rw [if_pos (by simpa using h)]
        have:=c_len_list (prog:=pw) (w:=w) (W:=W) (k:=k) (ds:=l0.map Dat.str) (by simp; omega)
        rw [List.length_map] at this
        exact ev_b (bname ok (by decide) rfl (by decide +kernel)) (evl_cons (ev_sub (ev_name rfl) ev_int (get_list (by decide) (by decide) rfl)) evl_nil) this
      · rw [if_neg (by simpa using h)]
        exact ev_int
    · have hmax:(if ((partsOf l1 l2).length:Int) > 1 then ((partsOf l1 l2).length:Int) else 1)=max 1 ((partsOf l1 l2).length:Int):=by
        split <;> omega
      rw [← hmax]
      have hl:=c_len_list (prog:=pw) (w:=w) (W:=W) (k:=k) (ds:=(partsOf l1 l2).map Dat.str) (by simp; omega)
      rw [List.length_map] at hl
      exact ev_bin (ev_b (bname ok (by decide) rfl (by decide +kernel)) (evl_cons ev_int (evl_cons (ev_b (bname ok (by decide) rfl (by decide +kernel)) (evl_cons (ev_name e) evl_nil) hl) evl_nil)) c_max2) ev_int bin_sub
end Mine
namespace Mine
variable {w:World} {W:Wd} {k:Nat}
theorem or_split (x:Nat):∀ y:Nat,x ||| y=(x ^^^ y) + (x &&& y):=by
  induction x using Nat.strongRecOn with
  | ind x ih =>
    intro y
    by_cases hx:x=0
    · subst hx; simp
    · have h:=ih (x / 2) (by omega) (y / 2)
      have o1:(x ||| y) / 2=x / 2 ||| y / 2:=by simpa [Nat.shiftRight_eq_div_pow] using Nat.shiftRight_or_distrib (a:=x) (b:=y) (i:=1)
      have o2:(x ^^^ y) / 2=x / 2 ^^^ y / 2:=by simpa [Nat.shiftRight_eq_div_pow] using Nat.shiftRight_xor_distrib (a:=x) (b:=y) (i:=1)
      have o3:(x &&& y) / 2=x / 2 &&& y / 2:=by simpa [Nat.shiftRight_eq_div_pow] using Nat.shiftRight_and_distrib (a:=x) (b:=y) (i:=1)
      have m:(x ||| y) % 2=(x ^^^ y) % 2 + (x &&& y) % 2:=by
        have c1:(x ||| y) % 2=1 ↔ x % 2=1 ∨ y % 2=1:=Nat.or_mod_two_eq_one
        have c2:(x ^^^ y) % 2=1 ↔ ¬(x % 2=1 ↔ y % 2=1):=Nat.xor_mod_two_eq_one
        have c3:(x &&& y) % 2=1 ↔ x % 2=1∧y % 2=1:=Nat.and_mod_two_eq_one
        omega
      have:=Nat.div_add_mod (x ||| y) 2
      have:=Nat.div_add_mod (x ^^^ y) 2
      have:=Nat.div_add_mod (x &&& y) 2
      omega
theorem bitXor_nat (x y:Nat):Builtin.bitXor (x:Int) (y:Int)=((x ^^^ y:Nat):Int):=by
  have h:=or_split x y
  have e1:Builtin.bitAnd (x:Int) (y:Int)=((x &&& y:Nat):Int):=by
    unfold Builtin.bitAnd
    simp
  have e2:Builtin.bitOr (x:Int) (y:Int)=((x ||| y:Nat):Int):=by
    unfold Builtin.bitOr Builtin.bitAnd Builtin.bitNot
    have h1:decide (0≤-(x:Int) - 1)=false:=by simp; omega
    have h2:decide (0≤-(y:Int) - 1)=false:=by simp; omega
    rw [h1,h2]
    have h3:(-(-(x:Int) - 1) - 1).toNat=x:=by omega
    have h4:(-(-(y:Int) - 1) - 1).toNat=y:=by omega
    simp only [h3,h4]
    omega
  unfold Builtin.bitXor
  rw [e1,e2,h]
  omega
def bitsN (c:Nat):Nat:=if c=0 then 0 else c.log2 + 1
theorem intBits_nat (c:Nat):(Builtin.Int.intBits (c:Int))=bitsN c:=by
  unfold Builtin.Int.intBits bitsN
  by_cases h:c=0
  · simp [h]
  · have:¬ (c:Int)=0:=by omega
    simp [h,this]
end Mine
namespace Mine
variable {w:World} {W:Wd} {k:Nat}
def sTake (x:Str) (n:Nat):Str:=⟨(x.cps.toList.take n).toArray⟩
def sDrop (x:Str) (n:Nat):Str:=⟨(x.cps.toList.drop n).toArray⟩
theorem idx_upto (n len:Nat):Builtin.Str.strSliceIndices none (some (n:Int)) 1 len=(List.range (min n len)).map (0 + ·):=by
  have:Builtin.Str.strSliceIndices none (some (n:Int)) 1 len=sliceRange ((0:Nat):Int) ((min n len:Nat):Int) 1:=by
    unfold Builtin.Str.strSliceIndices
    simp only [show (1:Int) > 0 by decide,if_true,if_neg (show ¬ ((n:Int) < 0) by omega)]
    congr 1
    omega
  rw [this,sliceRange_one,Nat.sub_zero]
theorem idx_from (n len:Nat):Builtin.Str.strSliceIndices (some (n:Int)) none 1 len=(List.range (len - min n len)).map (min n len + ·):=by
  have:Builtin.Str.strSliceIndices (some (n:Int)) none 1 len=sliceRange ((min n len:Nat):Int) ((len:Nat):Int) 1:=by
    unfold Builtin.Str.strSliceIndices
    simp only [show (1:Int) > 0 by decide,if_true,if_neg (show ¬ ((n:Int) < 0) by omega)]
    congr 1
    omega
  rw [this,sliceRange_one]
theorem pickS_upto (x:Str) (n:Nat):pickS x none (some (n:Int))=sTake x n:=by
  unfold pickS sTake
  rw [idx_upto]
  have:=pick_run x.cps 0 (min n x.length)
  rw [this,List.drop_zero]
  have e:x.length=x.cps.toList.length:=by simp [Str.length]
  rw [e,kmk_take_min]
theorem pickS_from (x:Str) (n:Nat):pickS x (some (n:Int)) none=sDrop x n:=by
  unfold pickS sDrop
  rw [idx_from]
  have:=pick_run x.cps (min n x.length) (x.length - min n x.length)
  rw [this]
  have e:x.length=x.cps.toList.length:=by simp [Str.length]
  rw [e,kmk_drop_min,List.take_of_length_le (by rw [List.length_drop]; omega)]
theorem sTake_len (x:Str) (n:Nat):(sTake x n).length≤x.length:=by
  show ((x.cps.toList.take n).toArray).size≤x.cps.size
  simp; omega
theorem sDrop_len (x:Str) (n:Nat):(sDrop x n).length≤x.length:=by
  show ((x.cps.toList.drop n).toArray).size≤x.cps.size
  simp
section
variable {prog:Program} {sc:Scope} {fn:Bool} {Γ:Ctx'}
theorem ev_str_upto {value:Expr} {upper:Option Expr} {p pos:Pos} {x:Str} {n:Nat} (hx:Ev prog w W k sc fn Γ value (.dat (.str x))) (hu:EvP prog w W k sc fn Γ upper (some (n:Int))) (hz:x.length≤sizeLine) :
    Ev prog w W k sc fn Γ (.Subscript value (.Slice none upper none p) pos) (.dat (.str (sTake x n))):=by
  rw [← pickS_upto]
  refine ev_slice_str hx evp_none hu (by rw [pickS_upto]; exact Nat.le_trans (sTake_len x n) hz) fun h=>?_
  rw [idx_upto,List.length_map,List.length_range] at h
  rw [pickS_upto,sTake,List.take_of_length_le (by simp [Str.length] at h; simp; omega)]
theorem ev_str_from {value:Expr} {lower:Option Expr} {p pos:Pos} {x:Str} {n:Nat} (hx:Ev prog w W k sc fn Γ value (.dat (.str x))) (hu:EvP prog w W k sc fn Γ lower (some (n:Int))) (hz:x.length≤sizeLine) :
    Ev prog w W k sc fn Γ (.Subscript value (.Slice lower none none p) pos) (.dat (.str (sDrop x n))):=by
  rw [← pickS_from]
  refine ev_slice_str hx hu evp_none (by rw [pickS_from]; exact Nat.le_trans (sDrop_len x n) hz) fun h=>?_
  rw [idx_from,List.length_map,List.length_range] at h
  rw [pickS_from,sDrop]
  by_cases hn:n=0
  · subst hn; simp
  · have h0:x.cps.size=0:=by simp [Str.length] at h; omega
    have h1:x.cps.toList=[]:=by rw [← List.length_eq_zero_iff]; simpa using h0
    rw [h1,List.drop_nil,← h1]
end
def idxOf (x:Str):List Str→Option Nat
  | []=>none
  | a :: r=>if a=x then some 0 else (idxOf x r).map (· + 1)
theorem idxOf_spec {x:Str}:∀ {l:List Str} {n:Nat},idxOf x l=some n→l[n]?=some x∧∀ i,i < n→l[i]?≠some x
  | [],n,h=>nomatch h
  | a :: r,n,h=>by
    unfold idxOf at h
    split at h
    · rename_i e
      cases h
      exact ⟨by rw [e]; rfl,fun i hi=>absurd hi (Nat.not_lt_zero _)⟩
    · rename_i e
      cases hr:idxOf x r with
      | none=>rw [hr] at h; cases h
      | some m =>
        rw [hr] at h
        cases h
        obtain ⟨h1,h2⟩:=idxOf_spec hr
        refine ⟨by simpa using h1,fun i hi=>?_⟩
        cases i with
        | zero=>simpa using e
        | succ i=>simpa using h2 i (Nat.lt_of_succ_lt_succ hi)
theorem idxOf_lt {x:Str} {l:List Str} {n:Nat} (h:idxOf x l=some n):n < l.length:=(List.getElem?_eq_some_iff.mp (idxOf_spec h).1).1
def without (x:Str) (j:Nat):Str:=sTake x j ++ sDrop x (j + 1)
def colStep (below:List Str) (x:Str) (c:Nat) (j:Nat):Option Nat:=(idxOf (without x j) below).map fun i=>c ^^^ 2 ^ i
def colOf (below:List Str) (x:Str):Option Nat:=(List.range x.length).foldlM (colStep below x) 0
abbrev Kept:=List (Nat × Nat)
def atK (kept:Kept) (b:Nat):Option Nat:=(kept.find? fun p=>p.1=b).map (·.2)
def redN (kept:Kept):Nat→Nat→Option Nat
  | 0,_=>none
  | f + 1,c=>if c=0 then some 0 else match atK kept (bitsN c) with
    | none=>some c
    | some d=>redN kept f (c ^^^ d)
def keep (kept:Kept) (c:Nat):Kept:=if c=0 then kept else kept ++ [(bitsN c,c)]
def rankStep (below:List Str) (kept:Kept) (x:Str):Option Kept:=(colOf below x).bind fun c=>(redN kept 64 c).map (keep kept)
def keptOf (below above:List Str):Option Kept:=above.foldlM (rankStep below) []
def ranksStep (rs:List Nat) (p:List Str × List Str):Option (List Nat):=(keptOf p.1 p.2).map fun kp=>rs ++ [kp.length]
def ranksOf (levels:List (List Str)):Option (List Nat):=(levels.zip (levels.drop 1)).foldlM ranksStep []
theorem foldM_take {α β:Type} {f:β→α→Option β}:∀ {l:List α} {a b:β},l.foldlM f a=some b→∃ g:Nat→β,g 0=a∧g l.length=b∧∀ i (hi:i < l.length),f (g i) l[i]=some (g (i + 1))
  | [],a,b,h=>⟨fun _=>a,rfl,by simpa using h,fun i hi=>absurd hi (Nat.not_lt_zero _)⟩
  | x :: r,a,b,h=>by
    rw [List.foldlM_cons] at h
    cases hx:f a x with
    | none=>rw [hx] at h; cases h
    | some c =>
      rw [hx] at h
      obtain ⟨g,g0,gn,gs⟩:=foldM_take (show r.foldlM f c=some b from h)
      refine ⟨fun i=>if i=0 then a else g (i - 1),rfl,by simp [gn],fun i hi=>?_⟩
      cases i with
      | zero=>simp [g0,hx]
      | succ i=>simpa using gs i (by simpa using hi)
theorem keep_len {kept:Kept} {c:Nat}:(keep kept c).length≤kept.length + 1:=by unfold keep; split <;> simp
abbrev keptD (kept:Kept):List (Int × Dat):=kept.map fun p=>((p.1:Int),Dat.int (p.2:Int))
theorem keptD_at {kept:Kept} {b:Nat}:atD (keptD kept) (b:Int)=(atK kept b).map (fun d:Nat=>Dat.int (d:Int)):=by
  induction kept with
  | nil=>rfl
  | cons p r ih =>
    by_cases h:p.1=b
    · simp [atD,atK,keptD,h]
    · have:¬ (p.1:Int)=(b:Int):=by omega
      simp only [atD,atK,keptD,List.map_cons,List.find?_cons,h,this,decide_false] at ih ⊢
      exact ih
theorem keptD_any {kept:Kept} {b:Nat}:(keptD kept).any (fun p=>decide (p.1=(b:Int)))=(atK kept b).isSome:=by
  induction kept with
  | nil=>rfl
  | cons p r ih =>
    by_cases h:p.1=b
    · simp [atK,keptD,h]
    · have:¬ (p.1:Int)=(b:Int):=by omega
      simp only [atK,keptD,List.map_cons,List.any_cons,List.find?_cons,h,this,decide_false,Bool.false_or] at ih ⊢
      exact ih
theorem keptD_store {kept:Kept} {b c:Nat} (h:atK kept b=none):storedD (keptD kept) (b:Int) (.int (c:Int))=keptD (kept ++ [(b,c)]):=by
  unfold storedD
  rw [keptD_any,h]
  simp
end Mine
namespace Mine
structure Mono (φ:Nat→Nat):Prop where
  lt:∀ i j,i < j→φ i < φ j
theorem Mono.inj {φ:Nat→Nat} (h:Mono φ) {i j:Nat} (e:φ i=φ j):i=j:=by
  rcases Nat.lt_trichotomy i j with h1 | h1 | h1
  · have:=h.lt _ _ h1; omega
  · exact h1
  · have:=h.lt _ _ h1; omega
theorem Mono.le {φ:Nat→Nat} (h:Mono φ) {i j:Nat} (e:i≤j):φ i≤φ j:=by
  rcases Nat.lt_or_eq_of_le e with h1 | rfl
  · exact Nat.le_of_lt (h.lt _ _ h1)
  · exact Nat.le_refl _
def RelC (φ:Nat→Nat) (c c':Nat):Prop:=(∀ i,c'.testBit (φ i)=c.testBit i)∧∀ i',c'.testBit i'=true→∃ i,φ i=i'
section
variable {φ:Nat→Nat}
theorem RelC.zero:RelC φ 0 0:=⟨fun i=>by simp,fun i' h=>by simp at h⟩
theorem RelC.xor {c c' d d':Nat} (h:RelC φ c c') (g:RelC φ d d'):RelC φ (c ^^^ d) (c' ^^^ d'):=⟨fun i=>by rw [Nat.testBit_xor,Nat.testBit_xor,h.1,g.1],fun i' e=>by
  rw [Nat.testBit_xor] at e
  cases hc:c'.testBit i' with
  | true=>exact h.2 _ hc
  | false=>rw [hc] at e; exact g.2 _ (by simpa using e)⟩
theorem RelC.pow (m:Mono φ) (i:Nat):RelC φ (2 ^ i) (2 ^ φ i):=⟨fun j=>by
  rw [Nat.testBit_two_pow,Nat.testBit_two_pow]
  by_cases e:i=j
  · subst e; simp
  · have:φ i≠φ j:=fun q=>e (m.inj q)
    simp [e,this],fun i' h=>by
  rw [Nat.testBit_two_pow] at h
  exact ⟨i,by simpa using h⟩⟩
theorem RelC.nil {c c':Nat} (h:RelC φ c c'):c=0 ↔ c'=0:=⟨fun e=>by
  subst e
  refine Nat.eq_of_testBit_eq fun i=>?_
  rw [Nat.zero_testBit]
  cases hc:c'.testBit i with
  | false=>rfl
  | true =>
    obtain ⟨j,rfl⟩:=h.2 _ hc
    rw [h.1] at hc; simp at hc,fun e=>by
  subst e
  refine Nat.eq_of_testBit_eq fun i=>?_
  rw [← h.1,Nat.zero_testBit,Nat.zero_testBit]⟩
theorem log2_of {c n:Nat} (h:c.testBit n=true) (hn:∀ m,n < m→c.testBit m=false):c.log2=n:=by
  have h0:c≠0:=fun e=>by subst e; simp at h
  have h1:2 ^ n≤c:=Nat.ge_two_pow_of_testBit h
  have h2:c < 2 ^ (n + 1):=Nat.lt_pow_two_of_testBit c fun i hi=>hn i hi
  have h3:=(Nat.le_log2 h0).mpr h1
  have h4:=(Nat.log2_lt h0).mpr h2
  omega
theorem log2_bit {c:Nat} (h0:c≠0):c.testBit c.log2=true∧∀ m,c.log2 < m→c.testBit m=false:=by
  refine ⟨Nat.testBit_log2 h0,fun m hm=>Nat.testBit_lt_two_pow ((Nat.log2_lt h0).mp hm)⟩
theorem RelC.bits (m:Mono φ) {c c':Nat} (h:RelC φ c c') (h0:c≠0):bitsN c'=φ (bitsN c - 1) + 1∧0 < bitsN c:=by
  have h0':c'≠0:=fun e=>h0 (h.nil.mpr e)
  obtain ⟨b1,b2⟩:=log2_bit h0
  have:c'.log2=φ c.log2:=log2_of (by rw [h.1]; exact b1) fun i' hi'=>by
    cases hc:c'.testBit i' with
    | false=>rfl
    | true =>
      obtain ⟨j,rfl⟩:=h.2 _ hc
      rw [h.1] at hc
      by_cases hj:j≤c.log2
      · have:=m.le hj; omega
      · rw [b2 j (by omega)] at hc; cases hc
  unfold bitsN
  rw [if_neg h0,if_neg h0',this]
  exact ⟨rfl,by omega⟩
def RelK (φ:Nat→Nat):Kept→Kept→Prop
  | [],[]=>True
  | (b,c) :: k,(b',c') :: k'=>(c≠0∧RelC φ c c'∧b=bitsN c∧b'=bitsN c')∧RelK φ k k'
  | _,_=>False
theorem RelK.len:∀ {k k':Kept},RelK φ k k'→k.length=k'.length
  | [],[],_=>rfl
  | (_,_) :: _,(_,_) :: _,h=>by rw [List.length_cons,List.length_cons,RelK.len h.2]
  | [],_ :: _,h=>h.elim
  | (_,_) :: _,[],h=>h.elim
theorem RelK.snoc {c c':Nat} (h0:c≠0) (h:RelC φ c c'):∀ {k k':Kept},RelK φ k k'→RelK φ (k ++ [(bitsN c,c)]) (k' ++ [(bitsN c',c')])
  | [],[],_=>⟨⟨h0,h,rfl,rfl⟩,trivial⟩
  | (_,_) :: _,(_,_) :: _,h'=>⟨h'.1,RelK.snoc h0 h h'.2⟩
  | [],_ :: _,h=>h.elim
  | (_,_) :: _,[],h=>h.elim
theorem RelK.at (m:Mono φ) {d d':Nat} (hd:RelC φ d d') (h0:d≠0):∀ {k k':Kept},RelK φ k k'→(atK k (bitsN d)=none∧atK k' (bitsN d')=none) ∨ ∃ c c',atK k (bitsN d)=some c∧atK k' (bitsN d')=some c'∧RelC φ c c'
  | [],[],_=>.inl ⟨rfl,rfl⟩
  | (b,c) :: k,(b',c') :: k',hK=>by
    obtain ⟨⟨hc0,hc,rfl,rfl⟩,hr⟩:=hK
    obtain ⟨e1,e2⟩:=hc.bits m hc0
    obtain ⟨e3,e4⟩:=hd.bits m h0
    by_cases e:bitsN c=bitsN d
    · have e':bitsN c'=bitsN d':=by rw [e1,e3,e]
      exact .inr ⟨c,c',by simp [atK,e],by simp [atK,e'],hc⟩
    · have e':bitsN c'≠bitsN d':=fun q=>e (by rw [e1,e3] at q; have:=m.inj (Nat.succ.inj q); omega)
      rcases RelK.at m hd h0 hr with ⟨h1,h2⟩ | ⟨u,u',h1,h2,h3⟩
      · left
        unfold atK at h1 h2 ⊢
        rw [List.find?_cons_of_neg (by simpa using e),List.find?_cons_of_neg (by simpa using e')]
        exact ⟨h1,h2⟩
      · right
        refine ⟨u,u',?_,?_,h3⟩
        · unfold atK at h1 ⊢; rw [List.find?_cons_of_neg (by simpa using e)]; exact h1
        · unfold atK at h2 ⊢; rw [List.find?_cons_of_neg (by simpa using e')]; exact h2
  | [],_ :: _,h=>h.elim
  | (_,_) :: _,[],h=>h.elim
theorem RelK.red (m:Mono φ) {k k':Kept} (hk:RelK φ k k'):∀ (f:Nat) {c c':Nat},RelC φ c c'→(redN k f c=none∧redN k' f c'=none) ∨ ∃ u u',redN k f c=some u∧redN k' f c'=some u'∧RelC φ u u'
  | 0,c,c',h=>.inl ⟨rfl,rfl⟩
  | f + 1,c,c',h=>by
    unfold redN
    by_cases h0:c=0
    · rw [if_pos h0,if_pos (h.nil.mp h0)]
      exact .inr ⟨0,0,rfl,rfl,.zero⟩
    · rw [if_neg h0,if_neg fun q=>h0 (h.nil.mpr q)]
      rcases RelK.at m h h0 hk with ⟨h1,h2⟩ | ⟨u,u',h1,h2,h3⟩
      · rw [h1,h2]
        exact .inr ⟨c,c',rfl,rfl,h⟩
      · rw [h1,h2]
        exact RelK.red m hk f (h.xor h3)
theorem RelK.keep {k k':Kept} (hk:RelK φ k k') {c c':Nat} (h:RelC φ c c'):RelK φ (keep k c) (keep k' c'):=by
  unfold Mine.keep
  by_cases h0:c=0
  · rw [if_pos h0,if_pos (h.nil.mp h0)]; exact hk
  · rw [if_neg h0,if_neg fun q=>h0 (h.nil.mpr q)]; exact RelK.snoc h0 h hk
theorem col_rel (m:Mono φ) {below full:List Str} {x:Str} (hb:∀ j,j < x.length→∃ i,idxOf (without x j) below=some i∧idxOf (without x j) full=some (φ i)):∀ (js:List Nat) {c c':Nat},(∀ j ∈ js,j < x.length)→RelC φ c c' →
    ∃ u u',js.foldlM (colStep below x) c=some u∧js.foldlM (colStep full x) c'=some u'∧RelC φ u u'
  | [],c,c',_,h=>⟨c,c',rfl,rfl,h⟩
  | j :: js,c,c',hj,h=>by
    obtain ⟨i,h1,h2⟩:=hb j (hj j (.head _))
    rw [List.foldlM_cons,List.foldlM_cons]
    have e1:colStep below x c j=some (c ^^^ 2 ^ i):=by unfold colStep; rw [h1]; rfl
    have e2:colStep full x c' j=some (c' ^^^ 2 ^ φ i):=by unfold colStep; rw [h2]; rfl
    rw [e1,e2]
    exact col_rel m hb js (fun j hj'=>hj j (.tail _ hj')) (h.xor (.pow m i))
theorem kept_rel (m:Mono φ) {below full:List Str}:∀ (above:List Str) {k k':Kept} {kp':Kept},(∀ x ∈ above,∀ j,j < x.length→∃ i,idxOf (without x j) below=some i∧idxOf (without x j) full=some (φ i))→RelK φ k k' →
    above.foldlM (rankStep full) k'=some kp'→∃ kp,above.foldlM (rankStep below) k=some kp∧RelK φ kp kp'
  | [],k,k',kp',_,hk,h=>⟨k,rfl,by cases h; exact hk⟩
  | x :: r,k,k',kp',hx,hk,h=>by
    obtain ⟨u,u',h1,h2,h3⟩:=col_rel m (hx x (.head _)) (List.range x.length) (fun j hj=>List.mem_range.mp hj) .zero
    rw [List.foldlM_cons] at h ⊢
    have c1:colOf below x=some u:=h1
    have c2:colOf full x=some u':=h2
    unfold rankStep at h ⊢
    rw [c2] at h
    rw [c1]
    rcases RelK.red m hk 64 h3 with ⟨r1,r2⟩ | ⟨v,v',r1,r2,r3⟩
    · rw [Option.bind_some,r2] at h; cases h
    · rw [Option.bind_some,r2] at h
      rw [Option.bind_some,r1]
      exact kept_rel m r (fun x hx'=>hx x (.tail _ hx')) (RelK.keep hk r3) h
end
theorem place_map:∀ {below full:List Str},below.Sublist full→full.Nodup→∃ φ,Mono φ∧(∀ i,full.length≤φ (below.length + i))∧∀ y i,idxOf y below=some i→idxOf y full=some (φ i)
  | _,_,.slnil,_=>⟨id,⟨fun i j h=>h⟩,fun i=>by simp,fun y i h=>nomatch h⟩
  | _,_,.cons a (l₁:=below) (l₂:=full) s,nd=>by
    obtain ⟨φ,m,h1,h2⟩:=place_map s (List.nodup_cons.mp nd).2
    refine ⟨fun i=>φ i + 1,⟨fun i j h=>by have:=m.lt i j h; omega⟩,fun i=>by have:=h1 i; simp only [List.length_cons]; omega,fun y i h=>?_⟩
    have hy:y ∈ below:=List.mem_of_getElem? (idxOf_spec h).1
    unfold idxOf
    have hay:¬ a=y:=fun e=>(List.nodup_cons.mp nd).1 (by rw [e]; exact s.subset hy)
    rw [if_neg hay,h2 y i h]; rfl
  | _,_,List.Sublist.cons_cons a (l₁:=below) (l₂:=full) s,nd=>by
    obtain ⟨φ,m,h1,h2⟩:=place_map s (List.nodup_cons.mp nd).2
    refine ⟨fun i=>match i with | 0=>0 | i + 1=>φ i + 1,⟨fun i j h=>?_⟩,fun i=>?_,fun y i h=>?_⟩
    · match i,j,h with
      | 0,j + 1,_=>exact Nat.succ_pos _
      | i + 1,j + 1,h=>have:=m.lt i j (by omega); show φ i + 1 < φ j + 1; omega
    · have:=h1 i
      rw [List.length_cons,List.length_cons,show below.length + 1 + i=(below.length + i) + 1 by omega]
      show _≤φ (below.length + i) + 1
      omega
    · unfold idxOf at h ⊢
      by_cases e:a=y
      · rw [if_pos e] at h ⊢; cases h; rfl
      · rw [if_neg e] at h ⊢
        cases hr:idxOf y below with
        | none=>rw [hr] at h; cases h
        | some n=>rw [hr] at h; cases h; rw [h2 y n hr]; rfl
theorem kept_full {below full above:List Str} (s:below.Sublist full) (nd:full.Nodup) (hc:∀ x ∈ above,∀ j,j < x.length→∃ i,idxOf (without x j) below=some i) {kp':Kept} (h:keptOf full above=some kp'):∃ kp,keptOf below above=some kp∧kp.length=kp'.length:=by
  obtain ⟨φ,m,_,h2⟩:=place_map s nd
  obtain ⟨kp,h3,h4⟩:=kept_rel m above (k:=[]) (k':=[]) (fun x hx j hj=>let ⟨i,hi⟩:=hc x hx j hj; ⟨i,hi,h2 _ _ hi⟩) trivial h
  exact ⟨kp,h3,h4.len⟩
end Mine
namespace Mine
abbrev noteH (env:Env) (e:Value):Sem Fin:=(do noteFrame e env; theTreesLotGoes e:Sem Unit).wrap (fun _=>.raise e) .raise id id
abbrev backK (env:Env) (K:Flow→Sem Fin) (H:Value→Sem Fin) (gd:Bool→Bool) (lv:List Value→List Value) (r:Result):Sem Fin :=
  ((match r with | .ok f=>(.pure f:Sem Flow) | .error e=>.raise e).onRaise fun (x:Value)=>do
        if (← field x 1) == Value.none then unsupported "frame.own-activation:exception-without-traceback"
        setFlight x env.frame).wrap K H gd lv
section
variable {M:Model} {A:Around} {R:GenEnd} {Y:Protocol} {n:Nat} {s₀:Shared} {c:Code} {fs:List Frame} {s:Shared} {env:Env}
  {K:Flow→Sem Fin} {H:Value→Sem Fin} {gd:Bool→Bool} {lv:List Value→List Value}
theorem seg_If {test:Expr} {body orelse:List Stmt} {pos:Pos}
    (h:wpAny M (A.over c fs) (isTrue test env (eval test env)) (fun b s'=>if b=true then Seg M A R Y n s₀ c ((execs body env).wrap K H gd lv) fs s' else Seg M A R Y n s₀ c ((execs orelse env).wrap K H gd lv) fs s') (fun _ _=>False) s) :
    Seg M A R Y n s₀ c ((exec (.If test body orelse pos) env).wrap K H gd lv) fs s:=by
  rw [exec_If]
  show Seg M A R Y n s₀ c (.at pos fun _=>(isTrue test env (eval test env) >>= fun b=>if b=true then execs body env else execs orelse env).wrap K H gd lv) fs s
  refine seg_at ?_
  rw [Sem.bind_eq_wrap',Sem.wrap_wrap]
  refine seg_wrap (wpAny_mono h (fun b s' hb=>?_) fun _ _ x=>x.elim)
  cases b with
  | true=>exact hb
  | false=>exact hb
theorem seg_For {target iter:Expr} {body orelse:List Stmt} {pos:Pos}
    (h:wpAny M (A.over c fs) (eval iter env) (fun v s₁=>wpAny M (A.over c fs) (pyIter v) (fun it s₂=>∀ p,Seg M A R Y n s₀ (.forLoop target it body orelse env) (M.den (.forLoop target it body orelse env))
      (.ret (backK env K H gd lv) none (gd false) (lv []) c p [] :: fs) s₂) (fun _ _=>False) s₁) (fun _ _=>False) s)
    (hs:∀ x,foldedSetIterable iter env x=pure x) :
    Seg M A R Y n s₀ c ((exec (.For target iter body orelse pos) env).wrap K H gd lv) fs s:=by
  rw [exec_For]
  simp only [hs]
  show Seg M A R Y n s₀ c (.at pos fun _=>(eval iter env >>= fun v=>(standAt iter.pos >>= fun _=>holding [v] (pyIter v) >>= fun it=>runOwn (.forLoop target it body orelse env) env)).wrap K H gd lv) fs s
  refine seg_at ?_
  rw [Sem.bind_eq_wrap',Sem.wrap_wrap]
  refine seg_wrap (wpAny_mono h (fun v s₁ h₁=>?_) fun _ _ x=>x.elim)
  refine seg_at ?_
  show Seg M A R Y n s₀ c ((holding [v] (pyIter v) >>= fun it=>runOwn (.forLoop target it body orelse env) env).wrap K H gd lv) fs s₁
  rw [Sem.bind_eq_wrap',Sem.wrap_wrap]
  refine seg_wrap (wpAny_holding (wpAny_mono h₁ (fun it s₂ h₂=>?_) fun _ _ x=>x.elim))
  exact seg_call h₂
theorem seg_Return_none {pos:Pos} (h:Seg M A R Y n s₀ c (K (.ret .none)) fs s):Seg M A R Y n s₀ c ((exec (.Return none pos) env).wrap K H gd lv) fs s:=by
  rw [exec_Return_none]
  exact seg_at h
end
section
variable {prog:Program} {w:World} {A:Around} {R:GenEnd} {Y:Protocol} {n:Nat} {s₀:Shared} {fs:List Frame} {s:Shared} {env:Env}
theorem seg_forLoop {target:Expr} {it:Value} {body orelse:List Stmt}
    (h:wpAny (model prog w) (A.over (.forLoop target it body orelse env) fs) (pyNext it) (fun r s₁=>match r with
        | none=>Seg (model prog w) A R Y n s₀ (.forLoop target it body orelse env) (.pure (.again (.block orelse env))) fs s₁
        | some v=>wpAny (model prog w) (A.over (.forLoop target it body orelse env) fs) (letOwnedTupleGo target it v) (fun _ s₂ =>
            wpAny (model prog w) (A.over (.forLoop target it body orelse env) fs) (assign target env v) (fun _ s₃ =>
              Seg (model prog w) A R Y n s₀ (.forLoop target it body orelse env) ((execs body env).wrap (fun f=>match f with
                | .next | .cont=>.pure (.again (.forLoop target it body orelse env))
                | .brk=>.pure (.done .next)
                | .ret v=>.pure (.done (.ret v))) (noteH env) id id) fs s₃) (fun _ _=>False) s₂) (fun _ _=>False) s₁) (fun _ _=>False) s) :
    Seg (model prog w) A R Y n s₀ (.forLoop target it body orelse env) ((model prog w).den (.forLoop target it body orelse env)) fs s:=by
  show Seg _ A R Y n s₀ _ ((forTurn target it body orelse env).onRaise (fun x=>do noteFrame x env; theTreesLotGoes x)) fs s
  unfold forTurn
  rw [Sem.onRaise_eq_wrap]
  refine seg_at ?_
  show Seg _ A R Y n s₀ _ (((pyNext it).onRaise (fun _=>standAt { target.pos with line:=0 }) >>= fun r=>match r with
    | none=>again (.block orelse env)
    | some v=>letOwnedTupleGo target it v >>= fun _=>assign target env v >>= fun _=>execs body env >>= fun f=>match f with
      | .next | .cont=>again (.forLoop target it body orelse env)
      | .brk=>pure (.done .next)
      | .ret v=>pure (.done (.ret v))).wrap _ _ _ _) fs s
  rw [Sem.bind_eq_wrap',Sem.wrap_wrap,Sem.onRaise_eq_wrap,Sem.wrap_wrap]
  refine seg_wrap (wpAny_mono h (fun r s₁ h₁=>?_) fun _ _ x=>x.elim)
  cases r with
  | none=>exact h₁
  | some v =>
    show Seg _ A R Y n s₀ _ (Sem.wrap _ _ _ _ (letOwnedTupleGo target it v >>= fun _=>assign target env v >>= fun _=>execs body env >>= fun f=>_)) fs s₁
    rw [Sem.bind_eq_wrap',Sem.wrap_wrap]
    refine seg_wrap (wpAny_mono h₁ (fun _ s₂ h₂=>?_) fun _ _ x=>x.elim)
    rw [Sem.bind_eq_wrap',Sem.wrap_wrap]
    refine seg_wrap (wpAny_mono h₂ (fun _ s₃ h₃=>?_) fun _ _ x=>x.elim)
    rw [Sem.bind_eq_wrap',Sem.wrap_wrap]
    rw [Sem.wrap_congr (execs body env) _ _ (K':=fun f=>match f with
            | .next | .cont=>.pure (.again (.forLoop target it body orelse env))
            | .brk=>.pure (.done .next)
            | .ret v=>.pure (.done (.ret v))) (H':=noteH env)
        (fun f=>by cases f <;> rfl)
        (fun e=>by first | exact Sem.bind_eq_wrap _ _ | (show (do noteFrame e env; theTreesLotGoes e:Sem Unit).bind (fun _=>.raise e)=_; rw [Sem.bind_eq_wrap]))]
    exact h₃
theorem seg_block_nil (h:Seg (model prog w) A R Y n s₀ (.block [] env) (leafOf (.ok .next)) fs s) :
    Seg (model prog w) A R Y n s₀ (.block [] env) ((model prog w).den (.block [] env)) fs s:=h
end
end Mine
namespace Mine
inductive GOut where
  | y (i:Int)
  | fin
  | err
def gOut:List Int→Option Int→Nat→GOut
  | [],_,_=>.fin
  | x :: r,last,j=>if x=127 then .fin else if x=0 then (match last with | none=>.err | some v=>.y v) else match j with
    | 0=>.y x
    | j + 1=>gOut r (some x) j
structure Since (L it:Nat) (s₀ s:Shared):Prop where
  keep:∀ a o,a≠L→a≠it→s₀.heap.get? a=some o→s.heap.get? a=some o
  size:s₀.heap.objs.size≤s.heap.objs.size
  toks:s₀.toks≤s.toks
  os:s.os=s₀.os
  gens:s.gens=s₀.gens
structure GEnv (env:Env):Prop where
  sc:env.scope=(dRec 14).scope
  glob:env.globals=mainGlobals
  blt:env.builtins=builtinsNs
  frame:env.frame=some env.locals
structure GReady (W:Wd) (env:Env) (it l n:Nat) (vs:List Value) (oL oI:Obj) (s:Shared):Prop where
  base:W.base.StaysIn s.heap
  list:s.heap.get? l=some (listOf vs.toArray n)
  loc:s.heap.get? env.locals=some oL
  iter:s.heap.get? it=some oI
structure GSt (W:Wd) (env:Env) (it l n:Nat) (vs:List Value) (j:Nat) (m:Str→Option Value) (s₀ s:Shared):Prop where
  base:W.base.StaysIn s.heap
  list:s.heap.get? l=some (listOf vs.toArray n)
  ns:s.heap.Ns env.locals m
  iter:s.heap.IsListIter it l j
  since:Since env.locals it s₀ s
structure GAp (W:Wd) (env:Env) (it l:Nat):Prop where
  bL:W.base.get? env.locals=none
  bI:W.base.get? it=none
  lL:l≠env.locals
  lI:l≠it
  LI:env.locals≠it
variable {w:World} {W:Wd} {env:Env} {it l n:Nat} {vs:List Value} {j:Nat} {m m':Str→Option Value} {s₀ s:Shared}
theorem GSt.tok (x:GSt W env it l n vs j m s₀ s):GSt W env it l n vs j m s₀ { s with toks:=s.toks + 1 } :=
  ⟨x.base,x.list,x.ns,x.iter,⟨x.since.keep,x.since.size,Nat.le_succ_of_le x.since.toks,x.since.os,x.since.gens⟩⟩
theorem stays_same {h h':Heap} {a:Nat} (b:W.base.StaysIn h) (hs:Heap.SameBut a h h') (ha:W.base.get? a=none):W.base.StaysIn h':=fun c o e =>
  (hs.2 c fun q=>by rw [q,ha] at e; cases e).trans (b c o e)
theorem GSt.store (x:GSt W env it l n vs j m s₀ s) (ap:GAp W env it l) {h':Heap} (hn:h'.Ns env.locals m') (hs:Heap.SameBut env.locals s.heap h') :
    GSt W env it l n vs j m' s₀ { s with heap:=h',toks:=s.toks + 1 } :=
  ⟨stays_same x.base hs ap.bL,(hs.2 _ ap.lL).trans x.list,hn,(let ⟨o,ho,r⟩:=x.iter; ⟨o,(hs.2 _ (Ne.symm ap.LI)).trans ho,r⟩),
    ⟨fun a o h1 h2 e=>(hs.2 a h1).trans (x.since.keep a o h1 h2 e),by show _≤h'.objs.size; rw [hs.1]; exact x.since.size,Nat.le_succ_of_le x.since.toks,x.since.os,x.since.gens⟩⟩
theorem GSt.next (x:GSt W env it l n vs j m s₀ s) (ap:GAp W env it l) {h':Heap} {j':Nat} (hi:h'.IsListIter it l j') (hs:Heap.SameBut it s.heap h') :
    GSt W env it l n vs j' m s₀ { s with heap:=h' } :=
  ⟨stays_same x.base hs ap.bI,(hs.2 _ ap.lI).trans x.list,x.ns.sameBut hs ap.LI,hi,
    ⟨fun a o h1 h2 e=>(hs.2 a h2).trans (x.since.keep a o h1 h2 e),by show _≤h'.objs.size; rw [hs.1]; exact x.since.size,x.since.toks,x.since.os,x.since.gens⟩⟩
structure GR (W:Wd) (env:Env) (it l n:Nat) (vs:List Value) (ns:List Int) (Fg:Fz) (N:Nat) (R:GenEnd):Prop where
  fin:∀ k s₀ s,k≤N→gOut ns none (N - k)=.fin→Since env.locals it s₀ s→R k s₀ (.ok (.ret .none)) s
def GY (W:Wd) (env:Env) (it l n:Nat) (vs:List Value) (ns:List Int) (Fg:Fz) (N:Nat):Protocol:=fun k s₀ v s κ =>
  ∃ i oL oI,gOut ns none (N - 1 - k)=.y i∧Rep Fg v (.int i)∧Since env.locals it s₀ s∧s.heap.get? env.locals=some oL∧s.heap.get? it=some oI ∧
    (k≠0→∀ s',GReady W env it l n vs oL oI s'→κ (.send .none) s')
def LastIs (Fg:Fz) (v:Value):Option Int→Prop
  | none=>v=.none
  | some i=>Rep Fg v (.int i)
def gBody:List Stmt:=match (dRec 14).body with
  | [_,.For _ _ b _ _]=>b
  | _=>[]
def gTgt:Expr:=match (dRec 14).body with
  | [_,.For t _ _ _ _]=>t
  | _=>.Constant .none 0 ⟨0,0,0,0⟩
section
variable {A:Around} {E:Value→Shared→Prop}
theorem g_name {y:Str} {pos:Pos} {v:Value} {Q:Value→Shared→Prop} (ge:GEnv env) (hn:s.heap.Ns env.locals m) (hk:(dRec 14).scope.names.lookup y=some .local) (hv:m y=some v) (q:Q v s)
    (hd:(y == ("__debug__":Str))=false:=by decide):wpAny (model pw w) A (eval (.Name y pos) env) Q E s :=
  wpAny_Name (wpAny_loadName_local (by rw [ge.sc]; rfl) (by show env.scope.names.lookup y=_; rw [ge.sc]; exact hk) hn hv q) hd
theorem g_store {y:Str} {v:Value} {Q:Unit→Shared→Prop} (ge:GEnv env) (hn:s.heap.Ns env.locals m) (hk:(dRec 14).scope.names.lookup y=some .local)
    (q:∀ h',h'.Ns env.locals (fun x=>if x=y then some v else m x)→Heap.SameBut env.locals s.heap h'→Q () { s with heap:=h',toks:=s.toks + 1 }):wpAny (model pw w) A (storeName env y v) Q E s :=
  wpAny_storeName_local (by show env.scope.names.lookup y=_; rw [ge.sc]; exact hk) hn q (by rw [ge.sc]; rfl)
theorem g_cmax {y:Str} {p p' pos:Pos} {x:Int} {t:Nat} {whole:Sem Value} {Q:Bool→Shared→Prop} (ok:Wok W) (ge:GEnv env) (hb:W.base.StaysIn s.heap) (hn:s.heap.Ns env.locals m) (hk:(dRec 14).scope.names.lookup y=some .local) (hv:m y=some (.int x t)) (q:Q (x == 127) s)
    (hd:(y == ("__debug__":Str))=false:=by decide):wpAny (model pw w) A (isTrue (.Compare (.Name y p) [.Eq] [.Name ("CHAR_MAX":Str) p'] pos) env whole) Q E s:=by
  obtain ⟨u,hg⟩:=ok.cmax
  refine wpAny_isTrue_Compare1 (g_name ge hn hk hv ?_ hd)
  refine Name_function_global (by rw [ge.sc]; rfl) (by show env.scope.names.lookup _=_; rw [ge.sc]; rfl) (loadGlobal_global (by rw [ge.glob]; exact W.g.keeps hb) hg ?_)
  exact P.eq_int (wpAny_truthy_bool q)
theorem g_zero {y:Str} {p p' pos:Pos} {x:Int} {t:Nat} {c:Nat} {whole:Sem Value} {Q:Bool→Shared→Prop} (ge:GEnv env) (hn:s.heap.Ns env.locals m) (hk:(dRec 14).scope.names.lookup y=some .local) (hv:m y=some (.int x t)) (q:Q (x == 0) { s with toks:=s.toks + 1 })
    (hd:(y == ("__debug__":Str))=false:=by decide):wpAny (model pw w) A (isTrue (.Compare (.Name y p) [.Eq] [.Constant (.int 0) c p'] pos) env whole) Q E s :=
  wpAny_isTrue_Compare1 (g_name ge hn hk hv (wpAny_Constant_int (P.eq_int (wpAny_truthy_bool q))) hd)
theorem g_isnone {y:Str} {p p' pos:Pos} {v:Value} {c:Nat} {whole:Sem Value} {Q:Bool→Shared→Prop} (ge:GEnv env) (hn:s.heap.Ns env.locals m) (hk:(dRec 14).scope.names.lookup y=some .local) (hv:m y=some v) (q:Q (v == .none) s)
    (hd:(y == ("__debug__":Str))=false:=by decide):wpAny (model pw w) A (isTrue (.Compare (.Name y p) [.Is] [.Constant .none c p'] pos) env whole) Q E s :=
  wpAny_isTrue_Compare1 (g_name ge hn hk hv (wpAny_Constant_none (is_none (wpAny_truthy_bool q))) hd)
end
end Mine
namespace Mine
variable {w:World} {W:Wd} {env:Env} {it l n:Nat} {vs:List Value} {j:Nat} {m m':Str→Option Value} {s₀ s:Shared} {A:Around} {R:GenEnd} {ns:List Int} {Fg:Fz} {N:Nat}
def funK:Flow→Sem Fin:=fun f=>.pure (.done (.ret (match f with | .ret v=>v | _=>.none)))
def funH (env:Env):Value→Sem Fin:=fun e=>(leaving env e).wrap (fun _=>.raise e) .raise id id
def gFrames (env:Env) (p:Pos):List Frame :=
  [.ret (backK env (fun f=>match f with | .next=>(execs [] env).wrap funK (funH env) id id | f=>funK f) (funH env) id id) none false [] (.func (dRec 14).body env) p []]
def gLoop (it:Nat) (env:Env):Code:=.forLoop gTgt (.ref it) gBody [] env
theorem gen_while {test:Expr} {body:List Stmt} {fs:List Frame} {y:Str} {yp p1 p2 tp:Pos} {c:Nat} {lv:Value} {i:Int} (ge:GEnv env) (ap:GAp W env it l) (hfs:splitAtGen fs=none) (hfg:fs.any Frame.guarded=false)
    (hk:(dRec 14).scope.names.lookup y=some .local) (hlv:m y=some lv) (hr:Rep Fg lv (.int i)) (hy:∀ q,j≤q→gOut ns none q=.y i)
    (ht:test=.Constant (.bool true) c tp) (hb:body=[.Expr (.Yield (some (.Name y yp)) p1) p2]) (hd:(y == ("__debug__":Str))=false:=by decide) :
    ∀ (k:Nat) (s₀ s:Shared),k + 1 + j≤N→GSt W env it l n vs (j + 1) m s₀ s →
      Seg (model pw w) A R (GY W env it l n vs ns Fg N) (k + 1) s₀ (.whileLoop test body [] env) ((model pw w).den (.whileLoop test body [] env)) fs s:=by
  subst ht hb
  intro k
  induction k with
  | zero =>
    intro s₀ s hN st
    refine seg_whileLoop (wpAny_isTrue_value (wpAny_Constant_bool (wpAny_truthy_bool ?_)))
    rw [if_pos rfl]
    refine seg_execs_cons (seg_Expr_Yield hfs rfl hfg (g_name ge st.ns hk hlv ?_ hd) (by rw [ge.sc]; rfl) (by unfold interactive; rw [ge.sc]; rfl))
    intro κ hκ
    obtain ⟨oI,hI,_⟩:=st.iter
    obtain ⟨oL,_,_,hL,_⟩:=st.ns
    exact ⟨i,oL,oI,hy _ (by omega),hr,st.since,hL,hI,fun h=>absurd rfl h⟩
  | succ k ih =>
    intro s₀ s hN st
    refine seg_whileLoop (wpAny_isTrue_value (wpAny_Constant_bool (wpAny_truthy_bool ?_)))
    rw [if_pos rfl]
    refine seg_execs_cons (seg_Expr_Yield hfs rfl hfg (g_name ge st.ns hk hlv ?_ hd) (by rw [ge.sc]; rfl) (by unfold interactive; rw [ge.sc]; rfl))
    intro κ hκ
    obtain ⟨oI,hI,hI2⟩:=st.iter
    obtain ⟨oL,es,ep,hL,hL2⟩:=st.ns
    refine ⟨i,oL,oI,hy _ (by omega),hr,st.since,hL,hI,fun _ s' rd=>hκ _ _ ?_⟩
    refine seg_again rfl (ih s' s' (by omega) ⟨rd.base,rd.list,⟨oL,es,ep,rd.loc,hL2⟩,⟨oI,rd.iter,hI2⟩,⟨fun _ _ _ _ e=>e,Nat.le_refl _,Nat.le_refl _,rfl,rfl⟩⟩)
theorem gen_turn (ok:Wok W) (ge:GEnv env) (ap:GAp W env it l) (hR:GR W env it l n vs ns Fg N R) (hv:Reps Fg vs (ns.map Dat.int)) (hne:∀ q,gOut ns none q≠.err) (hA:A.handled=none) :
    ∀ (r:List Int) (jl k:Nat) (last:Option Int) (lv:Value) (m:Str→Option Value) (s₀ s:Shared) (p:Pos),ns.drop jl=r→N=k + 1 + jl→(∀ q,gOut ns none (jl + q)=gOut r last q) →
      LastIs Fg lv last→m ("last_interval":Str)=some lv→GSt W env it l n vs jl m s₀ s →
      Seg (model pw w) A R (GY W env it l n vs ns Fg N) (k + 1) s₀ (gLoop it env) ((model pw w).den (gLoop it env)) (gFrames env p) s:=by
  intro r
  induction r with
  | nil =>
    intro jl k last lv m s₀ s p hr hN hG hl hL st
    refine seg_forLoop (any_hz (wpAny_pyNext_list_end (by exact hA) st.iter ⟨_,st.list,rfl,_,rfl⟩ ?_ fun h' he h1 h2=>?_))
    · have e:=hv.length
      rw [List.length_map] at e
      rw [List.drop_eq_nil_iff] at hr
      simp; omega
    · refine seg_again rfl (seg_block_nil (seg_leaf _ ?_))
      refine seg_end (.ok (.ret .none)) (hR.fin _ _ _ (by omega) (by rw [show N - (k + 1)=jl + 0 by omega,hG 0]; rfl) ?_)
      exact ⟨fun a o h1 h2 e=>he a o h2 (st.since.keep a o h1 h2 e),Nat.le_trans st.since.size h1,st.since.toks,st.since.os,st.since.gens⟩
  | cons x r ih =>
    intro jl k last lv m s₀ s p hr hN hG hl hL st
    have hx:(ns.map Dat.int)[jl]?=some (.int x):=by
      have:=congrArg List.head? hr
      rw [List.head?_drop] at this
      rw [List.getElem?_map,this]; rfl
    obtain ⟨v,hv1,hv2⟩:=hv.get hx
    refine seg_forLoop (wpAny_pyNext_list_item st.iter ⟨_,st.list,rfl,_,rfl⟩ (x:=v) (by simpa using hv1) fun h' hi hs=>?_)
    have st1:=st.next ap hi hs
    refine wpAny_of_eq (go_name rfl _ _) ?_
    refine wpAny_assign_Name (g_store ge st1.ns rfl fun h'' hn hs'=>?_)
    have st2:=st1.store ap hn hs'
    cases hv2 with
    | int htk =>
    rename_i t
    refine seg_execs_cons (seg_If (g_cmax ok ge st2.base st2.ns rfl (if_pos rfl) ?_))
    by_cases h127:x=127
    · subst h127
      rw [if_pos (show ((127:Int) == 127)=true by decide)]
      refine seg_execs_cons (seg_Return_none (seg_leaf (.ok (.ret .none)) (seg_end (.ok (.ret .none)) (hR.fin _ _ _ (by omega) (by rw [show N - (k + 1)=jl + 0 by omega,hG 0]; rfl) st2.since))))
    · rw [if_neg (by simpa using h127)]
      refine seg_execs_nil ?_
      refine seg_execs_cons (seg_If (g_zero ge st2.ns rfl (if_pos rfl) ?_))
      have st3:=st2.tok
      by_cases h0:x=0
      · subst h0
        rw [if_pos (show ((0:Int) == 0)=true by decide)]
        refine seg_execs_cons (seg_If (g_isnone (v:=lv) ge st3.ns rfl ((if_neg (by decide)).trans hL) ?_))
        cases last with
        | none=>exact absurd (by rw [hG 0]; rfl) (hne (jl + 0))
        | some i =>
          have hlv:¬ (lv == Value.none)=true:=by
            cases hl with
            | int _=>exact Bool.false_ne_true
          rw [if_neg hlv]
          refine seg_execs_nil ?_
          refine seg_execs_cons (seg_While fun p'=>?_)
          exact gen_while (j:=jl) ge ap rfl rfl rfl ((if_neg (by decide)).trans hL) hl (fun q hq=>by
            obtain ⟨q',rfl⟩:=Nat.exists_eq_add_of_le hq
            rw [hG q']; simp [gOut]) rfl rfl (by decide) k _ _ (by omega) st3
      · rw [if_neg (by simpa using h0)]
        refine seg_execs_nil ?_
        refine seg_execs_cons (seg_Expr_Yield rfl rfl rfl (g_name ge st3.ns rfl (if_pos rfl) ?_) (by rw [ge.sc]; rfl) (by unfold interactive; rw [ge.sc]; rfl))
        intro κ hκ
        obtain ⟨oI,hI,hI2⟩:=st3.iter
        obtain ⟨oL,es,ep,hL1,hL2⟩:=id st3.ns
        refine ⟨x,oL,oI,by rw [show N - 1 - k=jl + 0 by omega,hG 0]; simp [gOut,h127,h0],.int htk,st3.since,hL1,hI,fun hk s' rd=>hκ _ _ ?_⟩
        obtain ⟨k',rfl⟩:=Nat.exists_eq_succ_of_ne_zero hk
        have st4:GSt W env it l n vs (jl + 1) (fun y=>if y=("interval":Str) then some (.int x t) else m y) s' s':=⟨rd.base,rd.list,⟨oL,es,ep,rd.loc,hL2⟩,⟨oI,rd.iter,hI2⟩,⟨fun _ _ _ _ e=>e,Nat.le_refl _,Nat.le_refl _,rfl,rfl⟩⟩
        refine seg_execs_cons (seg_wrap (wpAny_Assign_Name (g_name ge st4.ns rfl (if_pos rfl) (g_store ge st4.ns rfl fun h5 hn5 hs5=>?_))))
        have st5:=st4.store ap hn5 hs5
        refine seg_again rfl (ih (jl + 1) k' (some x) (.int x t) _ _ _ p (by rw [← List.drop_drop,hr]; rfl) (by omega) (fun q=>?_) (.int htk) (if_pos rfl) st5)
        rw [show jl + 1 + q=jl + (q + 1) by omega,hG (q + 1)]; simp [gOut,h127,h0]
end Mine
namespace Mine
variable {w:World} {W:Wd} {env:Env} {it l n:Nat} {vs:List Value} {j:Nat} {m m':Str→Option Value} {s₀ s:Shared} {A:Around} {R:GenEnd} {ns:List Int} {Fg:Fz} {N:Nat}
theorem gen_fresh (ok:Wok W) (ge:GEnv env) (ap:GAp W env it l) (hR:GR W env it l n vs ns Fg N R) (hv:Reps Fg vs (ns.map Dat.int)) (hne:∀ q,gOut ns none q≠.err) (hA:A.handled=none)
    (hb:W.base.StaysIn s.heap) (hl:s.heap.get? l=some (listOf vs.toArray n)) (hn:s.heap.Ns env.locals m) (hm:m ("grouping":Str)=some (.ref l)) (hit:it=s.heap.objs.size) {k:Nat} (hN:N=k + 1) :
    Seg (model pw w) A R (GY W env it l n vs ns Fg N) (k + 1) s (.func (dRec 14).body env) ((model pw w).den (.func (dRec 14).body env)) [] s:=by
  refine seg_func (seg_execs_cons (seg_wrap (wpAny_Assign_Name (wpAny_Constant_none (g_store ge hn rfl fun h' hn' hs=>?_)))))
  have hsz:h'.objs.size=it:=by rw [hs.1,hit]
  have hl':h'.get? l=some (listOf vs.toArray n):=(hs.2 _ ap.lL).trans hl
  refine seg_execs_cons (seg_For (g_name ge hn' rfl ((if_neg (by decide)).trans hm) ?_) (by intro _; rfl))
  refine wpAny_pyIter_list ⟨_,hl',rfl,_,rfl⟩ fun p=>?_
  show Seg _ _ _ _ _ _ (.forLoop _ (.ref h'.objs.size) _ _ _) _ _ _
  rw [hsz]
  refine gen_turn ok ge ap hR hv hne hA ns 0 k none .none _ _ _ p rfl (by omega) (fun q=>by rw [Nat.zero_add]) rfl (if_pos rfl) ⟨?_,?_,hn'.push _,?_,⟨?_,?_,Nat.le_succ _,rfl,rfl⟩⟩
  · exact fun a o e=>Heap.get?_push_of_some _ (stays_same hb hs ap.bL a o e)
  · exact Heap.get?_push_of_some _ hl'
  · exact ⟨_,by rw [← hsz]; exact Heap.get?_push_size _ rfl,rfl,rfl⟩
  · exact fun a o h1 h2 e=>Heap.get?_push_of_some _ ((hs.2 a h1).trans e)
  · show _≤(h'.push _).objs.size; rw [Heap.size_push,hs.1]; omega
section
variable {E:Value→Shared→Prop} {Q:Value→Shared→Prop}
theorem nextOf_range_item {i:Addr} {x left step:Int} (hit:IsRangeIter s.heap i x left step) (hleft:0 < left)
    (hQ:∀ h',IsRangeIter h' i (x + step) (left - 1) step→Heap.SameBut i s.heap h'→Q (.int x s.toks) { s with heap:=h',toks:=s.toks + 1 }) :
    wpAny (model pw w) A (Builtin.SmallTypes.nextOf (.ref i)) Q E s:=by
  have hT:s.TypeIs (.ref i) "range_iterator":=⟨_,hit,rfl⟩
  unfold Builtin.SmallTypes.nextOf
  refine wpAny_bind (wpAny_callSpecial?_slot (name:=Str.ofString "__next__") hT F.slot_range_iterator_next
    (call_meets F.slot_range_iterator_next hT F.entry_range_iterator_next (F.args_range_iterator_next_1 _) (AutoRange.range_iterator___next___range_iterator_1 i x left step (by omega)) ⟨hit,?_⟩))
  exact wpAny_pure (hQ _ (Heap.get?_update_self _ (Heap.get?_update_self _ hit rfl) rfl) ((Heap.SameBut.update ..).trans (Heap.SameBut.update ..)))
def Stops (s:Shared) (e:Addr) (s':Shared):Prop:=∃ h',s'={ s with heap:=h' }∧(∀ b o,s.heap.get? b=some o→h'.get? b=some o)∧s.heap.objs.size≤h'.objs.size∧(∃ o,h'.get? e=some o∧o.cls=.type "StopIteration")∧s.heap.get? e=none
theorem new_stop (hh:A.handled=none) (h:∀ e s',Stops s e s'→E (.ref e) s') {α:Type} {Q:α→Shared→Prop}:wpAny (model pw w) A (do raiseNew (← newExc (.type "StopIteration") []):Sem α) Q E s:=by
  refine wpAny_bind ?_
  simp only [newExc,newTuple]
  refine wpAny_bind (wpAny_newObj_type ?_ (by size_fits))
  refine wpAny_bind (m:=firstArgMember _ _) (wpAny_of_eq (a:=Value.none) (by first | rfl | (simp only [firstArgMember]; rfl)) ?_)
  refine wpAny_newObj_type ?_ (by size_fits)
  simp only [raiseNew]
  refine wpAny_bind (wpAny_handled ?_)
  rw [hh]
  refine wpAny_bind (wpAny_pure (wpAny_throw ?_))
  refine h _ _ ⟨_,rfl,fun b o hb=>Heap.get?_push_of_some _ (Heap.get?_push_of_some _ hb),?_,⟨_,Heap.get?_push_size _ rfl,rfl⟩,get_new_none ?_⟩
  · simp; omega
  · simp
theorem new_stop2 (hh:A.handled=none) (h:∀ e s',Stops s e s'→E (.ref e) s') {α β:Type} {g:α→Sem β} {Q:β→Shared→Prop}:wpAny (model pw w) A (newExc (.type "StopIteration") [] >>= fun e=>(raiseNew e:Sem α) >>= g) Q E s:=by
  refine wpAny_bind ?_
  simp only [newExc,newTuple]
  refine wpAny_bind (wpAny_newObj_type ?_ (by size_fits))
  refine wpAny_bind (m:=firstArgMember _ _) (wpAny_of_eq (a:=Value.none) (by first | rfl | (simp only [firstArgMember]; rfl)) ?_)
  refine wpAny_newObj_type ?_ (by size_fits)
  simp only [raiseNew]
  refine wpAny_bind (wpAny_bind (wpAny_handled ?_))
  rw [hh]
  refine wpAny_bind (wpAny_pure (wpAny_throw ?_))
  refine h _ _ ⟨_,rfl,fun b o hb=>Heap.get?_push_of_some _ (Heap.get?_push_of_some _ hb),?_,⟨_,Heap.get?_push_size _ rfl,rfl⟩,get_new_none ?_⟩
  · simp; omega
  · simp
theorem nextOf_range_end {i:Addr} {x left step:Int} (hh:A.handled=none) (hit:IsRangeIter s.heap i x left step) (hleft:left≤0) (h:∀ e s',Stops s e s'→E (.ref e) s') :
    wpAny (model pw w) A (Builtin.SmallTypes.nextOf (.ref i)) Q E s:=by
  have hT:s.TypeIs (.ref i) "range_iterator":=⟨_,hit,rfl⟩
  unfold Builtin.SmallTypes.nextOf
  refine wpAny_bind (wpAny_callSpecial?_slot (name:=Str.ofString "__next__") hT F.slot_range_iterator_next
    (wpAny_call_entry F.slot_range_iterator_next hT F.entry_range_iterator_next ?_ (F.args_range_iterator_next_1 _)))
  show wpAny _ _ (field (.ref i) 0 >>= _) _ _ s
  refine wpAny_bind (wpAny_field hit rfl (x:=rawInt x) rfl ?_)
  show wpAny _ _ (field (.ref i) 1 >>= _) _ _ s
  refine wpAny_bind (wpAny_field hit rfl (x:=rawInt left) rfl ?_)
  show wpAny _ _ (field (.ref i) 2 >>= _) _ _ s
  refine wpAny_bind (wpAny_field hit rfl (x:=rawInt step) rfl ?_)
  show wpAny _ _ (if left≤0 then _ else _) _ _ s
  rw [if_pos hleft]
  refine wpAny_bind (wpAny_rule ?_)
  exact wpAny_bind (new_stop (A:=A.in1) hh h)
theorem nextOf_gen {a g k:Nat} {gs:GenState} {Y:Protocol} (hh:A.handled=none) (hl:s.heap.NoLimit) (hroom:A.depth < recursionLimit) (hg:s.heap.IsGen a g) (hgs:s.gens[g]?=some gs)
    (hgo:gs.Goes (model pw w) A.in1 R Y k (.send .none) (s.setGen g .running))
    (hY:∀ v s₁ gs',gs'.bare=true→Y (k - 1) (s.setGen g .running) v s₁ (fun r' s''=>match k with | 0=>False | m + 1=>gs'.Goes (model pw w) A.in1 R Y m r' s'')→Q v (s₁.setGen g gs'))
    (hR:∀ x s₁,R k (s.setGen g .running) x s₁→x=.ok (.ret .none)∧∀ e s',Stops (s₁.setGen g .finished) e s'→E (.ref e) s') :
    wpAny (model pw w) A (Builtin.SmallTypes.nextOf (.ref a)) Q E s:=by
  unfold Builtin.SmallTypes.nextOf
  refine wpAny_bind (wpAny_callSpecial?_slot (name:=Str.ofString "__next__") hg.typeIs slot_gen_next
    (wpAny_call_entry slot_gen_next hg.typeIs entry_gen_next ?_ (args_gen_next _)))
  show wpAny _ _ (Builtin.Generator.genWake (.ref a) (.send .none)) _ _ s
  unfold Builtin.Generator.genWake
  refine wpAny_bind (wpAny_holding (wpAny_genNumber hg (wpAny_bind (wpAny_genState hgs ?_))))
  cases gs with
  | running=>exact hgo.elim
  | finished=>exact hgo.elim
  | _ =>
    refine wpAny_bind (wpAny_roomToWake hl hroom ?_)
    show wpAny _ _ (.resume g (.send .none) [] _) _ _ s
    refine wpAny_resumeQ hgs hgo (fun x s₁ hx=>?_) (fun v s₁ gs' hb hv=>?_)
    · obtain ⟨rfl,he⟩:=hR x s₁ hx
      show wpAny _ A.in1 (newExc (.type "StopIteration") [] >>= fun e=>raiseNew e >>= _) _ _ _
      exact new_stop2 (A:=A.in1) hh he
    · exact wpAny_pure ⟨v,rfl,wpAny_pure (hY v s₁ gs' hb hv)⟩
end
end Mine
namespace Mine
variable {w:World} {W:Wd} {env:Env} {it l n:Nat} {vs:List Value} {s₀ s:Shared} {A:Around} {ns:List Int} {Fg:Fz} {N:Nat}
structure ZAp (z TI TO r ga L it:Nat):Prop where
  TIz:TI≠z
  TOz:TO≠z
  rz:r≠z
  gz:ga≠z
  Lz:L≠z
  iz:it≠z
  TITO:TI≠TO
  TIr:TI≠r
  TIL:TI≠L
  TIi:TI≠it
  rTO:r≠TO
  gTO:ga≠TO
  LTO:L≠TO
  iTO:it≠TO
  gr:ga≠r
  Lr:L≠r
  ir:it≠r
  gL:ga≠L
  gi:ga≠it
  Li:L≠it
structure ZKeep (z TO r L it:Nat) (s s':Shared):Prop where
  keep:∀ a o,a≠z→a≠TO→a≠r→a≠L→a≠it→s.heap.get? a=some o→s'.heap.get? a=some o
  size:s.heap.objs.size≤s'.heap.objs.size
  toks:s.toks≤s'.toks
  os:s'.os=s.os
structure ZNext (z TI TO r L it g:Nat) (x left:Int) (v:Value) (T tx:Nat) (gs':GenState) (s s':Shared):Prop extends ZKeep z TO r L it s s' where
  zip:IsZip s'.heap z TI TO (rawInt T)
  pair:IsPair s'.heap TO (.int x tx) v
  out:IsPair s'.heap T (.int x tx) v
  rng:IsRangeIter s'.heap r (x + 1) (left - 1) 1
  new:s.heap.objs.size≤T
  Tit:T≠it
  tok0:s.toks≤tx
  tok1:tx < s'.toks
  gens:s'.gens=(s.setGen g gs').gens
def genR (env:Env) (it:Nat) (ns:List Int) (N:Nat):GenEnd:=fun k s₀ r s=>r=.ok (.ret .none)∧gOut ns none (N - k)=.fin∧Since env.locals it s₀ s
theorem genR_ok {env:Env} {it:Nat} {ns:List Int} {N:Nat}:GR W env it l n vs ns Fg N (genR env it ns N):=⟨fun k s₀ s hk h1 h2=>⟨rfl,h1,h2⟩⟩
section
variable {z TI TO r ga g k:Nat} {x left:Int} {a b:Value} {gs:GenState} {Q:Value→Shared→Prop} {E:Value→Shared→Prop}
theorem zipg_next (D:ZAp z TI TO r ga env.locals it) (rm:Room 2 A) (hl0:s.heap.NoLimit) (hcz:cStatics≠z) (hcT:cStatics≠TO) (hcr:cStatics≠r) (hz:IsZip s.heap z TI TO .none) (hTI:IsPair s.heap TI (.ref r) (.ref ga)) (hTO:IsPair s.heap TO a b)
    (hr:IsRangeIter s.heap r x left 1) (hleft:0 < left) (hg:s.heap.IsGen ga g) (hgs:s.gens[g]?=some gs) (hga:ga < s.heap.objs.size)
    (hgo:∀ s',(∀ c o,c≠z→c≠TO→c≠r→s.heap.get? c=some o→s'.heap.get? c=some o)→s'.heap.objs.size=s.heap.objs.size→gs.Goes (model pw w) A.in1.in1 (genR env it ns N) (GY W env it l n vs ns Fg N) k (.send .none) s')
    (hQ:∀ v T tx gs' i s',ZNext z TI TO r env.locals it g x left v T tx gs' s s'→gs'.bare=true→gOut ns none (N - 1 - (k - 1))=.y i→Rep Fg v (.int i) →
      (∃ oL oI,s'.heap.get? env.locals=some oL∧s'.heap.get? it=some oI∧(k - 1≠0→∀ s'',GReady W env it l n vs oL oI s''→gs'.Goes (model pw w) A.in1.in1 (genR env it ns N) (GY W env it l n vs ns Fg N) (k - 1) (.send .none) s''))→Q (.ref T) s')
    (hE:∀ e s',ZKeep z TO r env.locals it s s'→gOut ns none (N - k)=.fin→s'.gens=(s.setGen g .finished).gens→(∃ o,s'.heap.get? e=some o∧o.cls=.type "StopIteration")→E (.ref e) s') :
    wpAny (model pw w) A.in1 (Builtin.«zip.__next__» ⟨[.ref z],[]⟩) (fun fin s'=>∃ v,fin=.done (.ret v)∧Q v s') E s:=by
  show wpAny _ _ (field (.ref z) 2 >>= _) _ _ _
  refine wpAny_bind (wpAny_field hz rfl (x:=.bool false) rfl ?_)
  show wpAny _ _ (field (.ref z) 3 >>= _) _ _ _
  refine wpAny_bind (wpAny_field hz rfl (x:=.ref TI) rfl ?_)
  refine wpAny_bind (wpAny_seqItems hTI rfl ?_)
  show wpAny _ _ (Builtin.SmallTypes.ownedTupleIsFree (.ref z) >>= _) _ _ _
  refine wpAny_bind ?_
  unfold Builtin.SmallTypes.ownedTupleIsFree
  refine wpAny_bind (wpAny_field hz rfl (x:=.none) rfl (wpAny_pure ?_))
  simp only [if_true]
  refine wpAny_bind (wpAny_rule ?_)
  refine wpAny_bind (wpAny_field hz rfl (x:=.ref TO) rfl ?_)
  refine wpAny_bind (wpAny_setField_rec hz (by simp) fun h₁ hz₁ hs₁=>?_)
  replace hz₁:IsZip h₁ z TI TO .ellipsis:=hz₁
  refine wpAny_bind ?_
  simp only [List.zipIdx_cons,List.zipIdx_nil,List.forIn_cons,List.forIn_nil]
  refine wpAny_bind (wpAny_bind (wpAny_onRaise ?_))
  show wpAny _ _ (Builtin.SmallTypes.nextOf (.ref r) >>= _) _ _ _
  refine wpAny_bind (nextOf_range_item (x:=x) (left:=left) (step:=1) ((hs₁.2 _ D.rz).trans hr) hleft fun h₂ hr₂ hs₂=>wpAny_pure ?_)
  have hTO₂:IsPair h₂ TO a b:=(hs₂.2 _ D.rTO.symm).trans ((hs₁.2 _ D.TOz).trans hTO)
  refine wpAny_bind (wpAny_seqItems hTO₂ rfl ?_)
  refine wpAny_bind (wpAny_updateSeq_pair hTO₂ fun h₃ hTO₃ hs₃=>?_)
  replace hTO₃:IsPair h₃ TO (.int x s.toks) b:=hTO₃
  refine wpAny_bind (wpAny_letGo (wpAny_pure ?_))
  have k₃:∀ c o,c≠z→c≠TO→c≠r→s.heap.get? c=some o→h₃.get? c=some o:=fun c o c1 c2 c3 e=>(hs₃.2 _ c2).trans ((hs₂.2 _ c3).trans ((hs₁.2 _ c1).trans e))
  have z₃:h₃.objs.size=s.heap.objs.size:=by rw [hs₃.1,hs₂.1,hs₁.1]
  have hz₃:IsZip h₃ z TI TO .ellipsis:=(hs₃.2 _ D.TOz.symm).trans ((hs₂.2 _ D.rz.symm).trans hz₁)
  have hr₃:IsRangeIter h₃ r (x + 1) (left - 1) 1:=(hs₃.2 _ D.rTO).trans hr₂
  refine wpAny_bind (wpAny_bind (wpAny_onRaise ?_))
  show wpAny _ _ (Builtin.SmallTypes.nextOf (.ref ga) >>= _) _ _ _
  have hg₃:h₃.IsGen ga g:=let ⟨o,nm,qn,ho,y⟩:=hg; ⟨o,nm,qn,k₃ _ _ D.gz D.gTO D.gr ho,y⟩
  have hl₃:h₃.NoLimit:=let ⟨mc,hns,hnn⟩:=hl0; ⟨mc,hns.at' fun o e=>k₃ _ _ hcz hcT hcr e,hnn⟩
  refine wpAny_bind (nextOf_gen (A:=A.in1) rm.handled hl₃ rm.depth hg₃ hgs (hgo _ k₃ z₃) (fun v s₁ gs' hb hy=>?_) (fun y s₁ hy=>⟨hy.1,fun e s' hst=>?_⟩))
  · obtain ⟨i,oL,oI,hi,hv,si,hL,hI,hgo'⟩:=hy
    have hTO₄:IsPair s₁.heap TO (.int x s.toks) b:=si.keep _ _ D.LTO.symm D.iTO.symm hTO₃
    refine wpAny_pure ?_
    refine wpAny_bind (wpAny_seqItems hTO₄ rfl ?_)
    refine wpAny_bind (wpAny_updateSeq_pair hTO₄ fun h₅ hTO₅ hs₅=>?_)
    replace hTO₅:IsPair h₅ TO (.int x s.toks) v:=hTO₅
    refine wpAny_bind (wpAny_letGo (wpAny_pure (wpAny_pure ?_)))
    refine wpAny_bind (wpAny_seqItems hTO₅ rfl ?_)
    refine wpAny_bind (wpAny_newTuple ?_)
    have k₅:∀ c o,c≠z→c≠TO→c≠r→c≠env.locals→c≠it→s.heap.get? c=some o→h₅.get? c=some o:=fun c o c1 c2 c3 c4 c5 e =>
      (hs₅.2 _ c2).trans (si.keep _ _ c4 c5 (k₃ c o c1 c2 c3 e))
    have hz₅:IsZip h₅ z TI TO .ellipsis:=(hs₅.2 _ D.TOz.symm).trans (si.keep _ _ D.Lz.symm D.iz.symm hz₃)
    have hr₅:IsRangeIter h₅ r (x + 1) (left - 1) 1:=(hs₅.2 _ D.rTO).trans (si.keep _ _ D.Lr.symm D.ir.symm hr₃)
    have hL₅:h₅.get? env.locals=some oL:=(hs₅.2 _ D.LTO).trans hL
    have hI₅:h₅.get? it=some oI:=(hs₅.2 _ D.iTO).trans hI
    have z₅:s.heap.objs.size≤h₅.objs.size:=by rw [hs₅.1,← z₃]; exact si.size
    show wpAny _ _ (Builtin.SmallTypes.ownedTupleHandOut (.ref z) (.ref h₅.objs.size) >>= _) _ _ _
    refine wpAny_bind ?_
    unfold Builtin.SmallTypes.ownedTupleHandOut
    have hz₆:IsZip (h₅.push { cls:=.type "tuple",data:=.seq #[.int x s.toks,v] }) z TI TO .ellipsis:=Heap.get?_push_of_some _ hz₅
    refine wpAny_bind (wpAny_setField_rec hz₆ (by simp) fun h₇ hz₇ hs₇=>?_)
    replace hz₇:IsZip h₇ z TI TO (rawInt h₅.objs.size):=hz₇
    refine wpAny_setField_rec hz₇ (by simp) fun h₈ hz₈ hs₈=>?_
    replace hz₈:IsZip h₈ z TI TO (rawInt h₅.objs.size):=hz₈
    have up:∀ c o,c≠z→h₅.get? c=some o→h₈.get? c=some o:=fun c o c1 e=>(hs₈.2 _ c1).trans ((hs₇.2 _ c1).trans (Heap.get?_push_of_some _ e))
    have hzlt:=Heap.lt_size hz₅
    have hilt:=Heap.lt_size hI₅
    have hT₈:IsPair h₈ h₅.objs.size (.int x s.toks) v:=(hs₈.2 _ (Nat.ne_of_gt hzlt)).trans ((hs₇.2 _ (Nat.ne_of_gt hzlt)).trans (Heap.get?_push_size _ rfl))
    have z8:h₈.objs.size=h₅.objs.size + 1:=by rw [hs₈.1,hs₇.1,Heap.size_push]
    refine wpAny_pure ⟨_,rfl,?_⟩
    show Q (.ref h₅.objs.size) _
    refine hQ v h₅.objs.size s.toks gs' i _ ⟨⟨fun c o c1 c2 c3 c4 c5 e=>up c o c1 (k₅ c o c1 c2 c3 c4 c5 e),?_,?_,?_⟩,hz₈,up _ _ D.TOz hTO₅,hT₈,up _ _ D.rz hr₅,z₅,Nat.ne_of_gt hilt,Nat.le_refl _,?_,?_⟩ hb hi hv
      ⟨oL,oI,up _ _ D.Lz hL₅,up _ _ D.iz hI₅,fun hk s'' rd=>?_⟩
    · show _≤h₈.objs.size; omega
    · exact Nat.le_of_succ_le si.toks
    · exact si.os
    · exact si.toks
    · show (s₁.setGen g gs').gens=_
      unfold Shared.setGen
      rw [si.gens]
      simp [Shared.setGen]
    · have:=hgo' hk s'' rd
      cases k with
      | zero=>exact this.elim
      | succ k=>exact this
  · obtain ⟨h',rfl,hk',hsz,⟨o,ho,hc⟩,hnew⟩:=hst
    obtain ⟨_,hfin,si⟩:=hy
    have hz₄:IsZip h' z TI TO .ellipsis:=hk' _ _ (si.keep _ _ D.Lz.symm D.iz.symm hz₃)
    have hez:e≠z:=fun q=>by
      have h1:s₁.heap.get? z=some _:=si.keep _ _ D.Lz.symm D.iz.symm hz₃
      rw [← q] at h1
      have h2:s₁.heap.get? e=none:=hnew
      rw [h2] at h1; cases h1
    refine wpAny_setField_rec hz₄ (by simp) fun h₅ _ hs₅=>?_
    refine hE e _ ⟨fun c o c1 c2 c3 c4 c5 q=>(hs₅.2 _ c1).trans (hk' _ _ (si.keep _ _ c4 c5 (k₃ c o c1 c2 c3 q))),?_,Nat.le_of_succ_le si.toks,si.os⟩ hfin ?_ ⟨o,(hs₅.2 _ hez).trans ho,hc⟩
    · show _≤h₅.objs.size
      have h4:h₅.objs.size=h'.objs.size:=hs₅.1
      have h1:s₁.heap.objs.size≤h'.objs.size:=hsz
      have h3:h₃.objs.size≤s₁.heap.objs.size:=si.size
      rw [h4,← z₃]
      exact Nat.le_trans h3 h1
    · show (s₁.setGen g .finished).gens=_
      unfold Shared.setGen
      rw [si.gens]
      simp [Shared.setGen]
end
end Mine
namespace Mine
section
variable {prog:Program} {w:World} {W:Wd} {fr:Frm} {fn:Bool} {Γ:Ctx'} {P:Led} {s s':Shared} {F F':Fz}
def Frm.gens (fr:Frm) (G:Array GenState):Frm:=⟨{ fr.sb with gens:=G },fr.Fb,fr.env⟩
theorem St.regens (x:St prog w W fr fn Γ P s F) (G:Array GenState):St prog w W (fr.gens G) fn Γ P { s with gens:=G } F :=
  ⟨⟨x.base.base,x.base.has,x.base.tok,x.base.tabs,x.base.off,x.base.size⟩,
    ⟨x.grow.keep,x.grow.has,x.grow.sub,x.grow.new,x.grow.tok,x.grow.toks,x.grow.size,x.grow.os,.rfl,x.grow.tabs⟩,
    x.bsize,x.glob,x.blt,x.kind,x.ns,x.nsNew,x.nsF,x.nsP,x.prv,x.cell,x.inj,x.cells,
    fun y b h=>let ⟨v,h1,h2⟩:=x.vars y b h; ⟨v,h1,by
      cases b with
      | val d=>exact h2
      | lst ds=>obtain ⟨a,vs,n,e,h3,h4,h5⟩:=h2; exact ⟨a,vs,n,e,h3,h4,h5.new,h5.loc,h5.cel,h5.prv,h5.frz⟩
      | byt bs=>obtain ⟨a,n,e,h3,h5⟩:=h2; exact ⟨a,n,e,h3,h5.new,h5.loc,h5.cel,h5.prv,h5.frz⟩
      | dic kvs=>obtain ⟨a,kvv,e,h3,h4,h5⟩:=h2; exact ⟨a,kvv,e,h3,h4,h5.new,h5.loc,h5.cel,h5.prv,h5.frz⟩⟩,x.apart⟩
theorem St.addP (x:St prog w W fr fn Γ P s F) {a:Nat} {o:Obj} (ho:s.heap.get? a=some o) (ht:¬ W.tab a) (hF:∀ q ∈ F.obs,q.1≠a) (hL:a≠fr.env.locals) (hc:∀ n c,fr.env.cells.lookup n=some c→a≠c)
    (hv:∀ y b,Γ.lookup y=some b→b.own=false):St prog w W fr fn Γ ((a,o) :: P) s F:=by
  refine ⟨x.base,x.grow,x.bsize,x.glob,x.blt,x.kind,x.ns,x.nsNew,x.nsF,fun p hp=>?_,fun p hp=>?_,fun n c h=>?_,x.inj,x.cells,fun y b h=>?_,x.apart⟩
  · rcases List.mem_cons.mp hp with rfl | hp
    · exact hL
    · exact x.nsP p hp
  · rcases List.mem_cons.mp hp with rfl | hp
    · exact ⟨ho,ht,hF⟩
    · exact x.prv p hp
  · obtain ⟨h1,h2,h3,h4,h5,h6⟩:=x.cell n c h
    refine ⟨h1,h2,h3,fun p hp=>?_,h5,h6⟩
    rcases List.mem_cons.mp hp with rfl | hp
    · exact hc n c h
    · exact h4 p hp
  · obtain ⟨v,h1,h2⟩:=x.vars y b h
    refine ⟨v,h1,?_⟩
    have:=hv y b h
    cases b with
    | val d=>exact h2
    | lst ds=>cases this
    | byt bs=>cases this
    | dic kvs=>cases this
end
variable {w:World} {W:Wd} {env:Env} {it l n:Nat} {vs:List Value} {s₀ s:Shared} {A:Around} {ns:List Int} {Fg:Fz} {N:Nat}
section
variable {z TI TO r ga g k:Nat} {x left:Int} {a b:Value} {gs:GenState} {E:Value→Shared→Prop}
theorem zipg_stop {L:Nat} {Q:Fin→Shared→Prop} (D:ZAp z TI TO r ga L it) (rm:Room 2 A) (hz:IsZip s.heap z TI TO .none) (hTI:IsPair s.heap TI (.ref r) (.ref ga))
    (hr:IsRangeIter s.heap r x left 1) (hleft:left≤0)
    (hE:∀ e s',ZKeep z TO r L it s s'→s'.gens=s.gens→(∃ o,s'.heap.get? e=some o∧o.cls=.type "StopIteration")→E (.ref e) s') :
    wpAny (model pw w) A.in1 (Builtin.«zip.__next__» ⟨[.ref z],[]⟩) Q E s:=by
  show wpAny _ _ (field (.ref z) 2 >>= _) _ _ _
  refine wpAny_bind (wpAny_field hz rfl (x:=.bool false) rfl ?_)
  show wpAny _ _ (field (.ref z) 3 >>= _) _ _ _
  refine wpAny_bind (wpAny_field hz rfl (x:=.ref TI) rfl ?_)
  refine wpAny_bind (wpAny_seqItems hTI rfl ?_)
  show wpAny _ _ (Builtin.SmallTypes.ownedTupleIsFree (.ref z) >>= _) _ _ _
  refine wpAny_bind ?_
  unfold Builtin.SmallTypes.ownedTupleIsFree
  refine wpAny_bind (wpAny_field hz rfl (x:=.none) rfl (wpAny_pure ?_))
  simp only [if_true]
  refine wpAny_bind (wpAny_rule ?_)
  refine wpAny_bind (wpAny_field hz rfl (x:=.ref TO) rfl ?_)
  refine wpAny_bind (wpAny_setField_rec hz (by simp) fun h₁ hz₁ hs₁=>?_)
  replace hz₁:IsZip h₁ z TI TO .ellipsis:=hz₁
  refine wpAny_bind ?_
  simp only [List.zipIdx_cons,List.zipIdx_nil,List.forIn_cons,List.forIn_nil]
  refine wpAny_bind (wpAny_bind (wpAny_onRaise ?_))
  show wpAny _ _ (Builtin.SmallTypes.nextOf (.ref r) >>= _) _ _ _
  refine wpAny_bind (nextOf_range_end (A:=A.in1) rm.handled ((hs₁.2 _ D.rz).trans hr) hleft fun e s' hst=>?_)
  obtain ⟨h',rfl,hk',hsz,⟨o,ho,hc⟩,hnew⟩:=hst
  have hez:e≠z:=fun q=>by
    have h1:h₁.get? z=some _:=hz₁
    rw [← q] at h1
    have h2:h₁.get? e=none:=hnew
    rw [h2] at h1; cases h1
  refine wpAny_setField_rec (hk' _ _ hz₁) (by simp) fun h₅ _ hs₅=>?_
  refine hE e _ ⟨fun c o c1 c2 c3 c4 c5 q=>(hs₅.2 _ c1).trans (hk' _ _ ((hs₁.2 _ c1).trans q)),?_,Nat.le_refl _,rfl⟩ rfl ⟨o,(hs₅.2 _ hez).trans ho,hc⟩
  show _≤h₅.objs.size
  have h4:h₅.objs.size=h'.objs.size:=hs₅.1
  have h1:h₁.objs.size≤h'.objs.size:=hsz
  rw [h4,← hs₁.1]
  exact h1
theorem pyNext_zip {TI TO:Addr} {f0:Value} {Q:Option Value→Shared→Prop} {Qi:Value→Shared→Prop} {Ee:Value→Shared→Prop} (hz:IsZip s.heap z TI TO f0)
    (h:wpAny (model pw w) A.in1 (Builtin.«zip.__next__» ⟨[.ref z],[]⟩) (fun fin s'=>∃ v,fin=.done (.ret v)∧Qi v s') Ee s)
    (hQ:∀ v s',Qi v s'→Q (some v) s') (hS:∀ e s',Ee e s'→∃ a o,e=.ref a∧s'.heap.get? a=some o∧o.cls=.type "StopIteration"∧Q none s'):wpAny (model pw w) A (pyNext (.ref z)) Q E s:=by
  have hT:s.TypeIs (.ref z) "zip":=⟨_,hz,rfl⟩
  unfold pyNext
  refine wpAny_bind (wpAny_attempt (wpAny_callSpecial?_slot (name:=Str.ofString "__next__") hT F.slot_zip_next
    (wpAny_call_entry F.slot_zip_next hT F.entry_zip_next (wpAny_mono h (fun fin s' hf=>?_) fun e s' he=>?_) (F.args_zip_next_1 _))))
  · obtain ⟨v,rfl,hv⟩:=hf
    exact ⟨v,rfl,wpAny_pure (hQ v s' hv)⟩
  · obtain ⟨a,o,rfl,ho,hc,hq⟩:=hS e s' he
    exact wpAny_bind (wpAny_isInstance (T:="StopIteration") (b:=true) ⟨o,ho,hc⟩ isSubtype_stop (wpAny_pure hq))
end
end Mine
namespace Mine
variable {w:World} {W:Wd} {k:Nat} {sc:Scope} {Γ:Ctx'}
theorem gens_keep_set {G G':Array GenState} {g:Nat} {gs':GenState} {s:Shared} (h:GensKeep G s.gens) (hg:G.size≤g) (hb:gs'.bare=true) (e:G'=(s.setGen g gs').gens):GensKeep G G':=by
  subst e
  refine ⟨fun i x hi=>?_,fun ha y hy=>?_⟩
  · have hlt:i < G.size:=(Array.getElem?_eq_some_iff.mp hi).1
    show (s.gens.setIfInBounds g gs')[i]?=some x
    rw [Array.getElem?_setIfInBounds_ne (by omega)]
    exact h.1 i x hi
  · have hy':y ∈ s.gens.setIfInBounds g gs':=hy
    obtain ⟨i,hi,rfl⟩:=Array.mem_iff_getElem.mp hy'
    have h1:=h.2 ha
    rw [Array.getElem_setIfInBounds]
    split
    · exact hb
    · exact h1 _ (Array.getElem_mem (by simpa using hi))
    · simpa using hi
def GPh (w:World) (W:Wd) (A:Around) (env:Env) (l n:Nat) (vs:List Value) (ns:List Int) (Fg:Fz) (N i:Nat) (gs:GenState) (h:Heap) (gN:Led):Prop :=
  (∃ oL m,gN=[(env.locals,oL)]∧i=0∧gs=.fresh (.func (dRec 14).body env)∧h.Ns env.locals m∧m ("grouping":Str)=some (.ref l)) ∨
  (∃ it oL oI,gN=[(env.locals,oL),(it,oI)]∧∀ s',GReady W env it l n vs oL oI s'→gs.Goes (model pw w) A.in1.in1 (genR env it ns N) (GY W env it l n vs ns Fg N) (N - i) (.send .none) s')
structure Apart5 (z TI TO r L:Nat):Prop where
  TIz:TI≠z
  TOz:TO≠z
  rz:r≠z
  Lz:L≠z
  TITO:TI≠TO
  TIr:TI≠r
  TIL:TI≠L
  rTO:r≠TO
  LTO:L≠TO
  Lr:L≠r
theorem pull_ready {A:Around} {env:Env} {l n:Nat} {vs:List Value} {ns:List Int} {Fg:Fz} {N i:Nat} {gs:GenState} {s:Shared} {gN:Led} {z TO r:Nat} (ok:Wok W) (ge:GEnv env) (hv:Reps Fg vs (ns.map Dat.int)) (hne:∀ q,gOut ns none q≠.err)
    (rm:Room 2 A) (ph:GPh w W A env l n vs ns Fg N i gs s.heap gN) (hin:∀ p ∈ gN,s.heap.get? p.1=some p.2) (hb:W.base.StaysIn s.heap) (hl:s.heap.get? l=some (listOf vs.toArray n)) (hLb:W.base.get? env.locals=none) (hbs:W.base.objs.size≤s.heap.objs.size)
    (hib:∀ p ∈ gN,W.base.get? p.1=none) (hlL:∀ p ∈ gN,l≠p.1) (hL2:∀ it o o',gN=[(env.locals,o),(it,o')]→env.locals≠it) (hzb:W.base.get? z=none) (hTb:W.base.get? TO=none) (hrb:W.base.get? r=none) (hlz:l≠z) (hlT:l≠TO) (hlr:l≠r)
    (hgz:∀ p ∈ gN,p.1≠z∧p.1≠TO∧p.1≠r) (hN:i + 1≤N) :
    ∃ it,((it=s.heap.objs.size∧∃ oL,gN=[(env.locals,oL)]) ∨ ∃ oL oI,gN=[(env.locals,oL),(it,oI)]) ∧
      ∀ s',(∀ c o,c≠z→c≠TO→c≠r→s.heap.get? c=some o→s'.heap.get? c=some o)→s'.heap.objs.size=s.heap.objs.size→gs.Goes (model pw w) A.in1.in1 (genR env it ns N) (GY W env it l n vs ns Fg N) (N - i) (.send .none) s':=by
  have base':∀ s':Shared,(∀ c o,c≠z→c≠TO→c≠r→s.heap.get? c=some o→s'.heap.get? c=some o)→W.base.StaysIn s'.heap:=fun s' hk c o e =>
    hk c o (fun q=>by rw [q,hzb] at e; cases e) (fun q=>by rw [q,hTb] at e; cases e) (fun q=>by rw [q,hrb] at e; cases e) (hb c o e)
  rcases ph with ⟨oL,m,rfl,rfl,rfl,hns,hm⟩ | ⟨it,oL,oI,rfl,hgo⟩
  · refine ⟨s.heap.objs.size,.inl ⟨rfl,oL,rfl⟩,fun s' hk hz=>?_⟩
    obtain ⟨h1,h2,h3⟩:=hgz _ (.head _)
    obtain ⟨k,rfl⟩:∃ k,N=k + 1:=⟨N - 1,by omega⟩
    refine ⟨rfl,?_⟩
    have hlt:=Heap.lt_size hl
    have hLt:=hns.lt
    refine gen_fresh (A:=A.in1.in1) (k:=k) (m:=m) (n:=n) ok ge ⟨hLb,get_new_none hbs,hlL _ (.head _),Nat.ne_of_lt hlt,Nat.ne_of_lt hLt⟩ genR_ok hv hne rm.handled (base' s' hk) (hk _ _ hlz hlT hlr hl) (hns.at' fun o e=>hk _ _ h1 h2 h3 e) hm hz.symm rfl
  · refine ⟨it,.inr ⟨oL,oI,rfl⟩,fun s' hk hz=>hgo s' ⟨base' s' hk,hk _ _ hlz hlT hlr hl,?_,?_⟩⟩
    · obtain ⟨h1,h2,h3⟩:=hgz _ (.head _)
      exact hk _ _ h1 h2 h3 (hin _ (.head _))
    · obtain ⟨h1,h2,h3⟩:=hgz _ (.tail _ (.head _))
      exact hk _ _ h1 h2 h3 (hin _ (.tail _ (.head _)))
end Mine
namespace Mine
variable {w:World} {W:Wd} {k:Nat} {sc:Scope} {Γ:Ctx'}
abbrev rObj (i most:Nat):Obj:={ cls:=.type "range_iterator",dict:=none,data:=.fields #[rawInt (i:Int),rawInt ((most:Int) - (i:Int)),rawInt 1],slots:=#[] }
def zLed (z TI TO r ga:Nat) (a b:Value) (i most:Nat):Led:=[(z,zObj TI TO),(TO,pObj a b),(r,rObj i most),(TI,pObj (.ref r) (.ref ga))]
theorem zap_of {z TI TO r L ga it:Nat} (D:Apart5 z TI TO r L) (gz:ga≠z) (gT:ga≠TO) (gr:ga≠r) (gL:ga≠L) (gi:ga≠it) (iz:it≠z) (iT:it≠TO) (iI:TI≠it) (ir:it≠r) (iL:L≠it):ZAp z TI TO r ga L it :=
  ⟨D.TIz,D.TOz,D.rz,gz,D.Lz,iz,D.TITO,D.TIr,D.TIL,iI,D.rTO,gT,D.LTO,iT,gr,D.Lr,ir,gL,gi,iL⟩
theorem gloop {fr:Frm} {A:Around} {R:Result→Shared→Prop} {s:Shared} {F:Fz} {elt iter:Expr} {elts:List Expr} {x1:Nat} {tp:Pos} {scope:Scope} {pos:Pos} {env:Env} {z TI TO r D ga g l n:Nat} {vs:List Value} {ns:List Int} {Fg:Fz} {oD oL:Obj} {gnm gqn:Value} {most cnt:Nat} {vals:Nat→Int}
    (ok:Wok W) (ge:GEnv env) (hv:Reps Fg vs (ns.map Dat.int)) (hne:∀ q,gOut ns none q≠.err) (rm:Room (k + 2) A) (D5:Apart5 z TI TO r env.locals)
    (hout:∀ i,i < cnt→gOut ns none i=.y (vals i)) (hcm:cnt≤most) (hend:cnt=most ∨ gOut ns none cnt=.fin) (hmm:most≤1000)
    (hg:g=fr.sb.gens.size) (hcells:fr.env.cells=[]) (hΓ:∀ y b,Γ.lookup y=some b→b.own=false)
    (hsc:fr.env.scope=sc) (st:St pw w W fr false Γ ((zLed z TI TO r ga .none .none 0 most ++ [(env.locals,oL)]) ++ [(D,oD)]) s F)
    (hnew:∀ p ∈ zLed z TI TO r ga .none .none 0 most ++ [(env.locals,oL)],fr.sb.heap.objs.size≤p.1) (hD:fr.sb.heap.objs.size≤D) (hnD:∀ p ∈ zLed z TI TO r ga .none .none 0 most ++ [(env.locals,oL)],p.1≠D)
    (hFg:Fg.le F) (hl:(l,listOf vs.toArray n) ∈ F.obs) (hga:(ga,({ cls:=.type "generator",data:=.fields #[.int g 0,gnm,gqn],slots:=#[] }:Obj)) ∈ F.obs)
    (hgs:s.gens[g]?=some (.fresh (.func (dRec 14).body env))) (hkeep:GensKeep fr.sb.gens s.gens) (hns:∃ m,s.heap.Ns env.locals m∧m ("grouping":Str)=some (.ref l))
    (hoD:listK.ok [] oD F)
    (turn:∀ i,i < cnt→∃ Γ₁,Asg pw w W k sc false Γ (.Tuple elts x1 tp) (.dat (.tuple [.int (i:Int),.int (vals i)])) Γ₁∧(∀ y b,Γ.lookup y=some b→Γ₁.lookup y=some b) ∧
      Emit pw w W k sc Γ₁ listK (listM elt) ((List.range i).map fun j=>Dat.int (vals j)) ((List.range (i + 1)).map fun j=>Dat.int (vals j)))
    (fin:∀ s' F' o',St pw w W (fr.gens s'.gens) false Γ [(D,o')] s' F'→listK.ok ((List.range cnt).map fun j=>Dat.int (vals j)) o' F'→F.le F'→GensKeep fr.sb.gens s'.gens→R (.ok .next) s') :
    codeAny (model pw w) A (.compLoop (.ListComp elt [⟨.Tuple elts x1 tp,iter,[],0⟩] scope pos) 0 (.ref z) (.ref D) fr.env) R s:=by
  have N0:most + 3=most + 3:=rfl
  refine codeAny_loop rfl (fun m s'=>∃ i N' gN a b F' o' gs,m=cnt + 1 - i∧i≤cnt∧N'=zLed z TI TO r ga a b i most ++ gN∧F.le F'∧St pw w W (fr.gens s'.gens) false Γ (N' ++ [(D,o')]) s' F'∧(∀ p ∈ N',fr.sb.heap.objs.size≤p.1)∧(∀ q ∈ N',q.1≠D) ∧
      listK.ok ((List.range i).map fun j=>Dat.int (vals j)) o' F'∧s'.gens[g]?=some gs∧GensKeep fr.sb.gens s'.gens∧GPh w W A env l n vs ns Fg (most + 3) i gs s'.heap gN∧(∀ it o o',gN=[(env.locals,o),(it,o')]→env.locals≠it∧it≠z∧it≠TO∧it≠r∧TI≠it))
    ?_ (cnt + 1) ⟨0,_,_,.none,.none,F,oD,_,rfl,Nat.zero_le _,rfl,.rfl,st.regens s.gens,hnew,hnD,hoD,hgs,hkeep,.inl ⟨oL,hns.choose,rfl,rfl,rfl,hns.choose_spec⟩,fun it o o' e=>by cases e⟩
  rintro m s' ⟨i,N',gN,a,b,F',o',gs,rfl,hic,rfl,hF,st',hnew',hND',hok',hgs',hkeep',ph,hit⟩
  show wpAny _ A ((compTurn _ 0 (.ref z) (.ref D) fr.env).onRaise (fun x=>do noteFrame x fr.env; theTreesLotGoes x)) _ _ s'
  refine wpAny_noted ?_
  have b':=st'.base
  have hz:IsZip s'.heap z TI TO .none:=(st'.prv _ (.head _)).1
  have hTO:IsPair s'.heap TO a b:=(st'.prv _ (.tail _ (.head _))).1
  have hr:IsRangeIter s'.heap r (i:Int) ((most:Int) - i) 1:=(st'.prv _ (.tail _ (.tail _ (.head _)))).1
  have hTI:IsPair s'.heap TI (.ref r) (.ref ga):=(st'.prv _ (.tail _ (.tail _ (.tail _ (.head _))))).1
  have hgaF:=hF.obs _ hga
  have hlF:=hF.obs _ hl
  have hgaG:s'.heap.IsGen ga g:=⟨_,_,_,b'.has _ hgaF,rfl,rfl,rfl⟩
  have offP:∀ p ∈ zLed z TI TO r ga a b i most ++ gN,∀ q ∈ F'.obs,q.1≠p.1:=fun p hp=>(st'.prv p (List.mem_append_left _ hp)).2.2
  have baseP:∀ p ∈ zLed z TI TO r ga a b i most ++ gN,W.base.get? p.1=none:=fun p hp=>get_new_none (Nat.le_trans st.bsize (hnew' p hp))
  have mz:(z,zObj TI TO) ∈ zLed z TI TO r ga a b i most ++ gN:=.head _
  have mT:(TO,pObj a b) ∈ zLed z TI TO r ga a b i most ++ gN:=.tail _ (.head _)
  have mr:(r,rObj i most) ∈ zLed z TI TO r ga a b i most ++ gN:=.tail _ (.tail _ (.head _))
  have mTI:(TI,pObj (.ref r) (.ref ga)) ∈ zLed z TI TO r ga a b i most ++ gN:=.tail _ (.tail _ (.tail _ (.head _)))
  have mg:∀ p ∈ gN,p ∈ zLed z TI TO r ga a b i most ++ gN:=fun p hp=>List.mem_append_right _ hp
  have mL:∃ oL',(env.locals,oL') ∈ gN:=by
    rcases ph with ⟨oL',m,rfl,_⟩ | ⟨it,oL',oI,rfl,_⟩
    · exact ⟨oL',.head _⟩
    · exact ⟨oL',.head _⟩
  obtain ⟨oL₀,mL⟩:=mL
  have hcs:∃ mc,W.base.Ns cStatics mc:=let ⟨mc,h1,_⟩:=W.nolimit; ⟨mc,h1⟩
  obtain ⟨mc,hcs⟩:=hcs
  have cne:∀ p ∈ zLed z TI TO r ga a b i most ++ gN,cStatics≠p.1:=fun p hp e=>by
    have h1:=hcs.lt
    have h2:=Nat.le_trans st.bsize (hnew' p hp)
    exact absurd (e ▸ h1) (Nat.not_lt.mpr h2)
  obtain ⟨it,hcase,hgo⟩:=pull_ready (i:=i) (N:=most + 3) ok ge hv hne (rm.mono (by omega)) ph (fun p hp=>(st'.prv p (List.mem_append_left _ (mg p hp))).1) b'.base (b'.has _ hlF) (baseP _ (mg _ mL)) b'.size (fun p hp=>baseP p (mg p hp)) (fun p hp=>offP p (mg p hp) _ hlF) (fun it o o' e=>(hit it o o' e).1)
    (baseP _ mz) (baseP _ mT) (baseP _ mr) (offP _ mz _ hlF) (offP _ mT _ hlF) (offP _ mr _ hlF) (fun p hp=>by
      rcases ph with ⟨oL',m,rfl,_⟩ | ⟨it,oL',oI,rfl,_⟩
      · cases List.mem_singleton.mp hp
        exact ⟨D5.Lz,D5.LTO,D5.Lr⟩
      · rcases List.mem_cons.mp hp with rfl | hp
        · exact ⟨D5.Lz,D5.LTO,D5.Lr⟩
        · cases List.mem_singleton.mp hp
          obtain ⟨_,h2,h3,h4,_⟩:=hit _ _ _ rfl
          exact ⟨h2,h3,h4⟩) (by omega)
  have itfacts:env.locals≠it∧it≠z∧it≠TO∧it≠r∧TI≠it∧ga≠it∧(∀ q ∈ F'.obs,q.1≠it)∧fr.sb.heap.objs.size≤it∧it≠D∧it≠fr.env.locals:=by
    rcases hcase with ⟨rfl,_⟩ | ⟨oL',oI,rfl⟩
    · have lt:∀ {c:Nat} {o:Obj},s'.heap.get? c=some o→c≠s'.heap.objs.size:=fun e=>Nat.ne_of_lt (Heap.lt_size e)
      obtain ⟨mm,hmm'⟩:=st'.ns
      refine ⟨lt (st'.prv _ (List.mem_append_left _ (mg _ mL))).1,Ne.symm (lt hz),Ne.symm (lt hTO),Ne.symm (lt hr),lt hTI,lt (b'.has _ hgaF),fun q hq=>lt (b'.has _ hq),st'.grow.size,Ne.symm (lt (st'.prv (D,o') (List.mem_append_right _ (.head _))).1),Ne.symm (Nat.ne_of_lt hmm'.lt)⟩
    · obtain ⟨h1,h2,h3,h4,h5⟩:=hit _ _ _ rfl
      have mi:(it,oI) ∈ zLed z TI TO r ga a b i most ++ [(env.locals,oL'),(it,oI)]:=mg _ (.tail _ (.head _))
      exact ⟨h1,h2,h3,h4,h5,offP _ mi _ hgaF,offP _ mi,hnew' _ mi,hND' _ mi,st'.nsP _ (List.mem_append_left _ mi)⟩
  obtain ⟨iL,iz,iT,ir,iI,gi,iF,inew,iD,iloc⟩:=itfacts
  have ZA:ZAp z TI TO r ga env.locals it:=zap_of D5 (offP _ mz _ hgaF) (offP _ mT _ hgaF) (offP _ mr _ hgaF) (offP _ (mg _ mL) _ hgaF) gi iz iT iI ir iL
  have hNL:s'.heap.NoLimit:=W.nolimit.keeps b'.base
  have galt:=Heap.lt_size (b'.has _ hgaF)
  have hX:∀ c ∈ (zLed z TI TO r ga a b i most ++ gN).map (·.1),c=z ∨ c=TO ∨ c=r ∨ c=TI ∨ c=env.locals ∨ c=it:=fun c hc=>by
    obtain ⟨p,hp,rfl⟩:=List.mem_map.mp hc
    rcases List.mem_append.mp hp with hp | hp
    · simp only [zLed,List.mem_cons,List.not_mem_nil,or_false] at hp
      rcases hp with rfl | rfl | rfl | rfl
      · exact .inl rfl
      · exact .inr (.inl rfl)
      · exact .inr (.inr (.inl rfl))
      · exact .inr (.inr (.inr (.inl rfl)))
    · rcases hcase with ⟨_,oL',rfl⟩ | ⟨oL',oI,rfl⟩
      · cases List.mem_singleton.mp hp; exact .inr (.inr (.inr (.inr (.inl rfl))))
      · rcases List.mem_cons.mp hp with rfl | hp
        · exact .inr (.inr (.inr (.inr (.inl rfl))))
        · cases List.mem_singleton.mp hp; exact .inr (.inr (.inr (.inr (.inr rfl))))
  have hX2:∀ c o,s'.heap.get? c=some o→c ∉ (zLed z TI TO r ga a b i most ++ gN).map (·.1)→c≠z∧c≠TO∧c≠r∧c≠env.locals∧c≠it:=fun c o hc hn=>by
    have h1:∀ {p:Addr × Obj},p ∈ zLed z TI TO r ga a b i most ++ gN→c≠p.1:=fun hp e=>hn (List.mem_map.mpr ⟨_,hp,e.symm⟩)
    refine ⟨h1 mz,h1 mT,h1 mr,h1 (mg _ mL),?_⟩
    rcases hcase with ⟨rfl,_⟩ | ⟨oL',oI,rfl⟩
    · exact Nat.ne_of_lt (Heap.lt_size hc)
    · exact h1 (mg (it,oI) (.tail _ (.head _)))
  have hfuel:most + 3 - 1 - (most + 3 - i - 1)=i:=by omega
  have hfuel2:most + 3 - (most + 3 - i)=i:=by omega
  show wpAny _ A (standAt iter.pos >>= fun _=>pyNext (.ref z) >>= fun rr=>match rr with
    | none=>pure (.done .next)
    | some v=>letOwnedTupleGo (.Tuple elts x1 tp) (.ref z) v >>= fun _=>assign (.Tuple elts x1 tp) fr.env v >>= fun _=>listM elt (.ref D) fr.env >>= fun _=>again (.compLoop (.ListComp elt [⟨.Tuple elts x1 tp,iter,[],0⟩] scope pos) 0 (.ref z) (.ref D) fr.env)) _ _ s'
  refine wpAny_bind (wpAny_standAt ?_)
  by_cases hi:i < cnt
  · refine wpAny_bind (pyNext_zip (Qi:=fun v s₁=>wpAny (model pw w) A (letOwnedTupleGo (.Tuple elts x1 tp) (.ref z) v >>= fun _=>assign (.Tuple elts x1 tp) fr.env v >>= fun _=>listM elt (.ref D) fr.env >>= fun _=>again (.compLoop (.ListComp elt [⟨.Tuple elts x1 tp,iter,[],0⟩] scope pos) 0 (.ref z) (.ref D) fr.env)) _ _ s₁) (Ee:=fun _ _=>False) hz
      (zipg_next ZA (rm.mono (by omega)) hNL (cne _ mz) (cne _ mT) (cne _ mr) hz hTI hTO hr (by omega) hgaG hgs' galt hgo (fun v T tx gs' iv s₁ zn hb hiv hvv hpa=>?_) (fun e s₁ _ hf _ _=>?_)) (fun v s₁ h=>h) (fun _ _ h=>h.elim))
    · rw [hfuel,hout i hi] at hiv
      cases hiv
      obtain ⟨oL1,oI1,hL1,hI1,hgo1⟩:=hpa
      refine wpAny_bind (wpAny_letOwnedTupleGo_zip zn.zip fun h'' k8 hs=>?_)
      have Tz:T≠z:=Nat.ne_of_gt (Nat.lt_of_lt_of_le (Heap.lt_size hz) zn.new)
      let F₂:Fz:=(F'.tk tx (.int (i:Int))).ob T { cls:=.type "tuple",data:=.seq [.int (i:Int) tx,v].toArray }
      have le2:F'.le F₂:=(F'.le_tk _ _).trans (Fz.le_ob _ _ _)
      have keep2:∀ c o,s'.heap.get? c=some o→c ∉ (zLed z TI TO r ga a b i most ++ gN).map (·.1)→h''.get? c=some o:=fun c o hc hn=>by
        obtain ⟨h1,h2,h3,h4,h5⟩:=hX2 c o hc hn
        exact (hs.2 c h1).trans (zn.keep c o h1 h2 h3 h4 h5 hc)
      have offX:∀ p ∈ F'.obs,p.1 ∉ (zLed z TI TO r ga a b i most ++ gN).map (·.1):=fun p hp q=>by
        obtain ⟨u,hu,e⟩:=List.mem_map.mp q
        exact offP u hu p hp e.symm
      have gX:GrowX W ((zLed z TI TO r ga a b i most ++ gN).map (·.1)) { s' with gens:=s₁.gens } { s₁ with heap:=h'' } F' F₂:=by
        refine ⟨fun c o _ hc e=>keep2 c o e hc,fun p hp=>?_,le2,fun p hp=>?_,b'.tok.cons zn.tok0 zn.tok1,zn.toks,?_,zn.os,.rfl,?_⟩
        · rcases List.mem_cons.mp hp with rfl | hp
          · exact (hs.2 _ Tz).trans zn.out
          · exact keep2 _ _ (b'.has p hp) (offX p hp)
        · rcases List.mem_cons.mp hp with rfl | hp
          · exact .inr zn.new
          · exact .inl hp
        · show _≤h''.objs.size; rw [hs.1]; exact zn.size
        · refine (b'.tabs.keeps fun c o ht e=>keep2 c o e fun m=>?_).mono le2
          obtain ⟨u,hu,rfl⟩:=List.mem_map.mp m
          exact (st'.prv u (List.mem_append_left _ hu)).2.1 ht
      have hr1:s₁.heap.get? r=some (rObj (i + 1) most):=by
        have:=zn.rng
        rw [show (most:Int) - (i:Int) - 1=(most:Int) - ((i + 1:Nat):Int) by omega] at this
        exact this
      have hDX:∀ p ∈ [(D,o')],∀ q ∈ zLed z TI TO r ga a b i most ++ gN,q.1≠p.1:=fun p hp q hq=>by cases List.mem_singleton.mp hp; exact hND' q hq
      have st₂:=St.stepX (N':=zLed z TI TO r ga (.int (i:Int) tx) v (i + 1) most ++ [(env.locals,oL1)]) (st'.regens s₁.gens) gX (fun p hp=>?_) (fun p hp=>?_) hDX hnew'
      rotate_left
      · rcases List.mem_append.mp hp with hp | hp
        · simp only [zLed,List.mem_cons,List.not_mem_nil,or_false] at hp
          rcases hp with rfl | rfl | rfl | rfl
          · exact List.mem_map_of_mem mz
          · exact List.mem_map.mpr ⟨_,mT,rfl⟩
          · exact List.mem_map.mpr ⟨_,mr,rfl⟩
          · exact List.mem_map_of_mem mTI
        · cases List.mem_singleton.mp hp
          exact List.mem_map.mpr ⟨_,mg _ mL,rfl⟩
      · rcases List.mem_append.mp hp with hp | hp
        · simp only [zLed,List.mem_cons,List.not_mem_nil,or_false] at hp
          rcases hp with rfl | rfl | rfl | rfl
          · exact k8
          · exact (hs.2 _ D5.TOz).trans zn.pair
          · exact (hs.2 _ D5.rz).trans hr1
          · exact (hs.2 _ D5.TIz).trans (zn.keep _ _ D5.TIz D5.TITO D5.TIr D5.TIL iI hTI)
        · cases List.mem_singleton.mp hp
          exact (hs.2 _ D5.Lz).trans hL1
      have st₃:=st₂.addP (a:=it) (o:=oI1) ((hs.2 _ iz).trans hI1) (not_tab_of_le (Nat.le_trans st.bsize inew)) (fun q hq=>by
        rcases List.mem_cons.mp hq with rfl | hq
        · exact zn.Tit
        · exact iF q hq) iloc (fun n c h=>by
          have h':fr.env.cells.lookup n=some c:=h
          rw [hcells] at h'; cases h') hΓ
      obtain ⟨Γ₁,hasg,hkeepΓ,hemit⟩:=turn i hi
      have N2:∀ p ∈ zLed z TI TO r ga (.int (i:Int) tx) v (i + 1) most ++ [(env.locals,oL1),(it,oI1)],fr.sb.heap.objs.size≤p.1∧p.1≠D:=fun p hp=>by
        rcases List.mem_append.mp hp with hp | hp
        · simp only [zLed,List.mem_cons,List.not_mem_nil,or_false] at hp
          rcases hp with rfl | rfl | rfl | rfl
          · exact ⟨hnew' _ mz,hND' _ mz⟩
          · have h1:=hnew' _ mT; have h2:=hND' _ mT; exact ⟨h1,h2⟩
          · have h1:=hnew' _ mr; have h2:=hND' _ mr; exact ⟨h1,h2⟩
          · exact ⟨hnew' _ mTI,hND' _ mTI⟩
        · rcases List.mem_cons.mp hp with rfl | hp
          · have h1:=hnew' _ (mg _ mL); have h2:=hND' _ (mg _ mL); exact ⟨h1,h2⟩
          · cases List.mem_singleton.mp hp
            exact ⟨inew,iD⟩
      have hval:V.is pw w F₂ (.ref T) (.dat (.tuple [.int (i:Int),.int (vals i)])):=.tuple (.head _) (.cons (.int (.head _)) (.cons (hvv.mono ((hFg.trans hF).trans le2)) .nil))
      refine wpAny_bind (hasg (fr.gens s₁.gens) _ _ F₂ (.ref T) hsc st₃ hval A _ _ (rm.mono (by omega)) fun s₄ F₄ st₄ hF₄=>?_)
      refine wpAny_bind (hemit (fr.gens s₁.gens) (zLed z TI TO r ga (.int (i:Int) tx) v (i + 1) most ++ [(env.locals,oL1),(it,oI1)]) s₄ F₄ D o' hsc (st₄.perm fun p hp=>?_) hD (fun p hp=>(N2 p hp).2) (listK.mono _ _ _ _ (le2.trans hF₄) hok') A _ _ (rm.mono (by omega)) fun s₆ F₆ o₆ st₆ hok₆ hF₆=>?_)
      · rcases List.mem_cons.mp hp with rfl | hp
        · exact .tail _ (List.mem_append_right _ (.head _))
        · rcases List.mem_append.mp hp with hp | hp
          · exact .tail _ (List.mem_append_left _ (List.mem_append_left _ hp))
          · rcases List.mem_cons.mp hp with rfl | hp
            · exact .tail _ (List.mem_append_left _ (List.mem_append_right _ (.head _)))
            · cases List.mem_singleton.mp hp
              exact .head _
      · have hk6:GensKeep s₁.gens s₆.gens:=st₆.grow.gens
        have hg1:s₁.gens[g]?=some gs':=by rw [zn.gens]; exact setGen_self hgs'
        refine wpAny_pure ⟨rfl,cnt + 1 - (i + 1),by omega,i + 1,_,[(env.locals,oL1),(it,oI1)],.int (i:Int) tx,v,F₆,o₆,gs',rfl,hi,rfl,((hF.trans le2).trans hF₄).trans hF₆,((st₆.weaken hkeepΓ).perm fun p hp=>?_).regens s₆.gens,fun p hp=>(N2 p hp).1,fun p hp=>(N2 p hp).2,hok₆,hk6.1 _ _ hg1,
          (gens_keep_set hkeep' (by omega) hb zn.gens).trans hk6,.inr ⟨it,oL1,oI1,rfl,fun s'' rd=>hgo1 (by omega) s'' rd⟩,fun it' o o'' e=>by cases e; exact ⟨iL,iz,iT,ir,iI⟩⟩
        rcases List.mem_append.mp hp with hp | hp
        · exact .tail _ hp
        · cases List.mem_singleton.mp hp
          exact .head _
    · rw [hfuel2,hout i hi] at hf
      cases hf
  · have hie:i=cnt:=by omega
    have key:∀ e s₁,ZKeep z TO r env.locals it s' s₁→GensKeep fr.sb.gens s₁.gens→(∃ o,s₁.heap.get? e=some o∧o.cls=.type "StopIteration") →
        ∃ a o,Value.ref e=.ref a∧s₁.heap.get? a=some o∧o.cls=.type "StopIteration"∧R (.ok .next) s₁:=fun e s₁ zk hgk ⟨o,ho,hc⟩=>by
      refine ⟨e,o,rfl,ho,hc,?_⟩
      have keep2:∀ c o,s'.heap.get? c=some o→c ∉ (zLed z TI TO r ga a b i most ++ gN).map (·.1)→s₁.heap.get? c=some o:=fun c o hc hn=>by
        obtain ⟨h1,h2,h3,h4,h5⟩:=hX2 c o hc hn
        exact zk.keep c o h1 h2 h3 h4 h5 hc
      have offX:∀ p ∈ F'.obs,p.1 ∉ (zLed z TI TO r ga a b i most ++ gN).map (·.1):=fun p hp q=>by
        obtain ⟨u,hu,e⟩:=List.mem_map.mp q
        exact offP u hu p hp e.symm
      have gX:GrowX W ((zLed z TI TO r ga a b i most ++ gN).map (·.1)) { s' with gens:=s₁.gens } s₁ F' F':=by
        refine ⟨fun c o _ hc e=>keep2 c o e hc,fun p hp=>keep2 _ _ (b'.has p hp) (offX p hp),.rfl,fun p hp=>.inl hp,b'.tok.le zk.toks,zk.toks,zk.size,zk.os,.rfl,b'.tabs.keeps fun c o ht e=>keep2 c o e fun m=>?_⟩
        obtain ⟨u,hu,rfl⟩:=List.mem_map.mp m
        exact (st'.prv u (List.mem_append_left _ hu)).2.1 ht
      have st₂:=St.stepX (N':=[]) (st'.regens s₁.gens) gX (fun _ h=>nomatch h) (fun _ h=>nomatch h) (fun p hp q hq=>by cases List.mem_singleton.mp hp; exact hND' q hq) hnew'
      exact fin s₁ F' o' st₂ (hie ▸ hok') hF hgk
    by_cases hm:cnt=most
    · refine wpAny_bind (pyNext_zip (Qi:=fun _ _=>False) (Ee:=fun e s₁=>∃ a o,e=.ref a∧s₁.heap.get? a=some o∧o.cls=.type "StopIteration"∧R (.ok .next) s₁) hz
        (zipg_stop ZA (rm.mono (by omega)) hz hTI hr (by omega) fun e s₁ zk hgn hst=>key e s₁ zk (by rw [hgn]; exact hkeep') hst) (fun _ _ h=>h.elim) (fun e s₁ h=>let ⟨a,o,h1,h2,h3,h4⟩:=h; ⟨a,o,h1,h2,h3,wpAny_pure h4⟩))
    · have hf:=hend.resolve_left hm
      refine wpAny_bind (pyNext_zip (Qi:=fun _ _=>False) (Ee:=fun e s₁=>∃ a o,e=.ref a∧s₁.heap.get? a=some o∧o.cls=.type "StopIteration"∧R (.ok .next) s₁) hz
        (zipg_next ZA (rm.mono (by omega)) hNL (cne _ mz) (cne _ mT) (cne _ mr) hz hTI hTO hr (by omega) hgaG hgs' galt hgo (fun v T tx gs' iv s₁ zn hb hiv hvv hpa=>?_) (fun e s₁ zk _ hgn hst=>key e s₁ zk (gens_keep_set hkeep' (by omega) rfl hgn) hst)) (fun _ _ h=>h.elim) (fun e s₁ h=>let ⟨a,o,h1,h2,h3,h4⟩:=h; ⟨a,o,h1,h2,h3,wpAny_pure h4⟩))
      rw [hfuel,hie,hf] at hiv
      cases hiv
end Mine
namespace Mine
variable {w:World} {W:Wd} {k:Nat} {A:Around} {E:Value→Shared→Prop} {s:Shared} {F:Fz}
structure GMade (l:Nat) (env:Env) (ga:Nat) (oL:Obj) (nm qn:Value) (s s':Shared):Prop where
  ge:GEnv env
  L:s'.heap.get? env.locals=some oL
  ns:∃ m,s'.heap.Ns env.locals m∧m ("grouping":Str)=some (.ref l)
  Lnew:s.heap.objs.size≤env.locals
  gnew:s.heap.objs.size≤ga
  gL:ga≠env.locals
  gen:s'.heap.get? ga=some ({ cls:=.type "generator",data:=.fields #[.int s.gens.size 0,nm,qn],slots:=#[] }:Obj)
  gens:s'.gens=s.gens.push (.fresh (.func (dRec 14).body env))
  keep:∀ a o,s.heap.get? a=some o→s'.heap.get? a=some o
  size:s.heap.objs.size≤s'.heap.objs.size
  toks:s.toks≤s'.toks
  os:s'.os=s.os
theorem call_gen {a l:Nat} {Q:Value→Shared→Prop} (fn:FnOk W (dRec 14) a) (b:Base W s F) (rm:Room (k + 1) A) (q:∀ env ga oL nm qn s',GMade l env ga oL nm qn s s'→Q (.ref ga) s'):wpAny (model pw w) A (call (.ref a) [.ref l]) Q E s:=by
  obtain ⟨o,pm,code,doc,ho,hd,hc⟩:=fn.obj
  refine wpAny_call (codeAny_call_generator (fd:=docDef (dRec 14).name (dRec 14).params (dRec 14).body (dRec 14).scope pm code doc) rm.depth (b.base _ _ ho) hd rfl rfl rfl (hc.keeps b.base) ?_)
  have hbind:bindArgs (docDef (dRec 14).name (dRec 14).params (dRec 14).body (dRec 14).scope pm code doc) ⟨[.ref l],[]⟩=pure [(("grouping":Str),Value.ref l)]:=rfl
  rw [hbind]
  refine wpAny_pure (any_hz (wpAny_newFunctionEnv_cells rfl (fun x hx=>?_) fun env he s₁ X hz1 ht1=>?_))
  · cases List.mem_singleton.mp hx; exact .inl rfl
  · have es:env.scope=(dRec 14).scope:=by rw [he]; rfl
    refine ⟨W.nolimit.keeps (fun a o e=>X.toInCall.keep a o (b.base a o e)),?_⟩
    obtain ⟨⟨h',tk,rfl⟩,hns,keep,hL⟩:=X.toInCall
    obtain ⟨oL,es',ep,hoL,hL2⟩:=id hns
    have hLt:=hns.lt
    refine q env _ oL _ _ _ ⟨⟨es,by rw [he]; rfl,by rw [he]; rfl,by rw [he]; rfl⟩,Heap.get?_push_of_some _ hoL,⟨_,hns.push _,bindL_at (by show env.scope.names.lookup _=_; rw [es]; rfl) (by simp) rfl⟩,hL,hz1,Nat.ne_of_gt hLt,Heap.get?_push_size _ rfl,rfl,fun a o e=>Heap.get?_push_of_some _ (keep a o e),?_,?_,rfl⟩
    · show _≤(h'.push _).objs.size; rw [Heap.size_push]; exact Nat.le_succ_of_le hz1
    · show s.toks≤_; exact Nat.le_succ_of_le (Nat.le_succ_of_le ht1)
abbrev zgH1 (h:Heap) (i left step:Int):Heap:=h.push { cls:=.type "range_iterator",data:=.fields #[rawInt i,rawInt left,rawInt step] }
abbrev zgH3 (h:Heap) (i left step:Int) (ga:Nat):Heap:=(zgH1 h i left step).push { cls:=.type "tuple",data:=.seq #[.ref h.objs.size,.ref ga] }
abbrev zgH4 (h:Heap) (i left step:Int) (ga:Nat):Heap:=(zgH3 h i left step ga).push { cls:=.type "tuple",data:=.seq #[.none,.none] }
abbrev zgH5 (h:Heap) (i left step:Int) (ga:Nat):Heap:=(zgH4 h i left step ga).push { cls:=.type "zip",data:=.fields #[.none,.bool false,.bool false,.ref (zgH1 h i left step).objs.size,.ref (zgH3 h i left step ga).objs.size] }
theorem meets_zip_rg {r0 ga g:Nat} {a b c:Int} {t u v:Tok} (hsmall:Builtin.Range.small a b c=true) :
    Meets (Builtin.«zip.__new__» ⟨[.type "zip",.ref r0,.ref ga],[]⟩) (fun _ R s=>IsRange s.heap r0 a b c t u v∧s.heap.IsGen ga g ∧
      R (.ok (.ret (.ref (zgH4 s.heap a (Builtin.Range.rangeSize a b c) c ga).objs.size))) { s with heap:=zgH5 s.heap a (Builtin.Range.rangeSize a b c) c ga }) :=
  .of_wp fun prog w A R s h=>by
    obtain ⟨hp,gg,d,tk,os⟩:=s; obtain ⟨hl1,hl2,h⟩:=h
    have hsub:=sub_zip
    have hL1:IsRange (Shared.heap ⟨hp,gg,d,tk,os⟩) r0 a b c t u v:=hl1
    have hL2:Heap.IsGen (Shared.heap ⟨zgH1 hp a (Builtin.Range.rangeSize a b c) c,gg,d,tk,os⟩) ga g:=Heap.IsGen.push hl2 _
    wp_walk using wpAny_pyIter_range hL1 hsmall,wpAny_pyIter_gen hL2
    exact ⟨_,rfl,h⟩
theorem call_zip_rg {r0 ga g:Nat} {a b c:Int} {t u v:Tok} {Q:Value→Shared→Prop} (hr:IsRange s.heap r0 a b c t u v) (hsmall:Builtin.Range.small a b c=true) (hg:s.heap.IsGen ga g)
    (h:∀ h',IsZip h' (s.heap.objs.size + 3) (s.heap.objs.size + 1) (s.heap.objs.size + 2) .none→IsPair h' (s.heap.objs.size + 1) (.ref s.heap.objs.size) (.ref ga)→IsPair h' (s.heap.objs.size + 2) .none .none →
      IsRangeIter h' s.heap.objs.size a (Builtin.Range.rangeSize a b c) c→h'.objs.size=s.heap.objs.size + 4→(∀ c o,s.heap.get? c=some o→h'.get? c=some o)→Q (.ref (s.heap.objs.size + 3)) { s with heap:=h' }) :
    wpAny (model pw w) A (call (.type "zip") [.ref r0,.ref ga]) Q E s:=by
  refine callType_new F.called_zip (by decide) (F.typeCall_zip_2 _ _) (F.newCall_zip_2 _ _) (fun obj=>F.args_object_init_3 obj _ _) F.entry_zip_new (meets_zip_rg (r0:=r0) (ga:=ga) (g:=g) (t:=t) (u:=u) (v:=v) hsmall) ⟨hr,hg,?_⟩
  have z1:(zgH1 s.heap a (Builtin.Range.rangeSize a b c) c).objs.size=s.heap.objs.size + 1:=Heap.size_push ..
  have z3:(zgH3 s.heap a (Builtin.Range.rangeSize a b c) c ga).objs.size=s.heap.objs.size + 2:=by rw [Heap.size_push,z1]
  have z4:(zgH4 s.heap a (Builtin.Range.rangeSize a b c) c ga).objs.size=s.heap.objs.size + 3:=by rw [Heap.size_push,z3]
  have z5:(zgH5 s.heap a (Builtin.Range.rangeSize a b c) c ga).objs.size=s.heap.objs.size + 4:=by rw [Heap.size_push,z4]
  have g5:(zgH5 s.heap a (Builtin.Range.rangeSize a b c) c ga).get? (zgH4 s.heap a (Builtin.Range.rangeSize a b c) c ga).objs.size=some _:=Heap.get?_push_size _ rfl
  have g4:(zgH5 s.heap a (Builtin.Range.rangeSize a b c) c ga).get? (zgH3 s.heap a (Builtin.Range.rangeSize a b c) c ga).objs.size=some _:=Heap.get?_push_of_some _ (Heap.get?_push_size _ rfl)
  have g3:(zgH5 s.heap a (Builtin.Range.rangeSize a b c) c ga).get? (zgH1 s.heap a (Builtin.Range.rangeSize a b c) c).objs.size=some _:=Heap.get?_push_of_some _ (Heap.get?_push_of_some _ (Heap.get?_push_size _ rfl))
  have g1:(zgH5 s.heap a (Builtin.Range.rangeSize a b c) c ga).get? s.heap.objs.size=some _:=Heap.get?_push_of_some _ (Heap.get?_push_of_some _ (Heap.get?_push_of_some _ (Heap.get?_push_size _ rfl)))
  show _∧_
  rw [z1,z3,z4] at g5
  rw [z1] at g3
  rw [z3] at g4
  rw [z4]
  exact ⟨⟨_,g5,rfl⟩,h _ g5 g3 g4 g1 z5 fun c o x=>Heap.get?_push_of_some _ (Heap.get?_push_of_some _ (Heap.get?_push_of_some _ (Heap.get?_push_of_some _ x)))⟩
end Mine
namespace Mine
variable {w:World} {W:Wd} {k:Nat}
theorem eit_rangeN {prog:Program} {sc:Scope} {fn:Bool} {Γ:Ctx'} {tgt e:Expr} {y:Str} {p pos:Pos} {n:Nat} (hB:BName W sc y (.type "range"))
    (he:Ev prog w W k sc fn Γ e (.dat (.int (n:Int)))) (ht:nameTgt tgt=true:=by rfl) (hn:n≤1000000) (hs:∀ env,starEach [e] env=[(false,eval e env)]:=by intro _; rfl) :
    EvIter prog w W k sc fn Γ tgt (.Call (.Name y p) [e] [] pos) ((List.range n).map fun j:Nat=>V.dat (.int (j:Int))):=by
  have:=eit_range1 (tgt:=tgt) (p:=p) (pos:=pos) hB he ht (by omega) (by omega) hs
  rw [show ((n:Int)).toNat=n by omega,stepFrom_zero,List.map_map] at this
  exact this
theorem red_run {kept:Kept}:∀ {f c r:Nat},redN kept f c=some r→∃ (n:Nat) (cs:Nat→Nat),cs 0=c∧cs n=r∧(∀ i,i < n→cs i≠0∧∃ d,atK kept (bitsN (cs i))=some d∧cs (i + 1)=cs i ^^^ d)∧(r=0 ∨ atK kept (bitsN r)=none)
  | 0,c,r,h=>nomatch h
  | f + 1,c,r,h=>by
    unfold redN at h
    split at h
    · rename_i hc
      cases h
      exact ⟨0,fun _=>c,rfl,hc,fun i hi=>absurd hi (Nat.not_lt_zero _),.inl rfl⟩
    · rename_i hc
      split at h
      · rename_i ha
        cases h
        exact ⟨0,fun _=>c,rfl,rfl,fun i hi=>absurd hi (Nat.not_lt_zero _),.inr ha⟩
      · rename_i d ha
        obtain ⟨n,cs,c0,cn,st,fin⟩:=red_run h
        refine ⟨n + 1,fun i=>if i=0 then c else cs (i - 1),rfl,by simp [cn],fun i hi=>?_,fin⟩
        cases i with
        | zero=>exact ⟨hc,d,ha,by simp [c0]⟩
        | succ i=>simpa using st i (Nat.lt_of_succ_lt_succ hi)
theorem evb_int {prog:Program} {sc:Scope} {fn:Bool} {Γ:Ctx'} {y:Str} {pos:Pos} {a:Int} {c:Bool} (hy:Γ.lookup y=some (.val (.dat (.int a)))) (hc:(a != 0)=c)
    (hd:(y == ("__debug__":Str))=false:=by decide) (hn:(y == ("__classdict__":Str))=false:=by decide):EvB prog w W k sc fn Γ (.Name y pos) c:=by
  subst hc
  exact evb_val (ev_name hy hd hn) tr_int
theorem sp_ranks (ok:Wok W) {levels:List (List Str)} {rs:List Nat} (hr:ranksOf levels=some rs) (hs:∀ l ∈ levels,l.length≤1000∧∀ x ∈ l,x.length≤8) (hl:levels.length≤1000) :
    Spec w W (k + 2) 33 [.dat (.list (levels.map strsD))] (.dat (.list (rs.map fun n:Nat=>Dat.int (n:Int)))):=by
  refine sp_of ["levels"] (fun pm code doc vs h=>by match vs,h with | [u],_=>rfl) (by decide) (by decide) rfl ?_
  have hz2:sizeLine=16777216:=rfl
  refine ex_seq (ex1_newlist (ds:=[]) evl_nil (.inl rfl)) ?_
  obtain ⟨rsf,rs0,rsn,rsst⟩:=foldM_take hr
  have hzl:(levels.zip (levels.drop 1)).length≤1000:=by simp; omega
  have rsl:∀ i,i≤(levels.zip (levels.drop 1)).length→(rsf i).length=i:=by
    intro i
    induction i with
    | zero=>intro _; rw [rs0]; rfl
    | succ i ih =>
      intro hi
      have h1:=rsst i hi
      unfold ranksStep at h1
      cases hk:keptOf (levels.zip (levels.drop 1))[i].1 (levels.zip (levels.drop 1))[i].2 with
      | none=>rw [hk] at h1; cases h1
      | some kp =>
        rw [hk] at h1
        have h2:rsf i ++ [kp.length]=rsf (i + 1):=by simpa using h1
        rw [← h2,List.length_append,ih (by omega)]; rfl
  let L:Bd:=.val (.dat (.list (levels.map strsD)))
  let Γs:Nat→Ctx':=fun i=>[("ranks",.lst ((rsf i).map fun n:Nat=>Dat.int (n:Int))),("levels",L)]
  have h0:∀ y b,(Γs 0).lookup y=some b→List.lookup y [((("ranks":Str)),Bd.lst []),("levels",L)]=some b:=by
    show ∀ y b,List.lookup y [((("ranks":Str)),Bd.lst ((rsf 0).map fun n:Nat=>Dat.int (n:Int))),("levels",L)]=some b→_
    rw [rs0]; exact fun y b h=>h
  refine ex_seq (for_loop (Γs:=Γs) (n:=(levels.zip (levels.drop 1)).length) (eit_zipm (l:=levels) (r:=levels.drop 1) (f:=strsD) (g:=strsD) (bname ok (by decide) rfl (by decide +kernel)) (ev_name rfl) (ev_from (n:=1) (ev_name rfl) (evp_some ev_int) (by omega))) h0 ?_ (.inl ⟨by simp,rfl⟩)) ?_
  · intro i x hi hx
    obtain ⟨_,rfl⟩:=nth_map hx
    generalize hpq:(levels.zip (levels.drop 1))[i]=pq
    have hin:pq ∈ levels.zip (levels.drop 1):=hpq ▸ List.getElem_mem hi
    obtain ⟨b1,b2⟩:=hs pq.1 (List.of_mem_zip hin).1
    obtain ⟨a1,a2⟩:=hs pq.2 (List.mem_of_mem_drop (List.of_mem_zip hin).2)
    have hst:=rsst i hi
    rw [hpq] at hst
    have hri:=rsl i (Nat.le_of_lt hi)
    unfold ranksStep at hst
    cases hk:keptOf pq.1 pq.2 with
    | none=>rw [hk] at hst; cases hst
    | some kp =>
      rw [hk] at hst
      have hri1:rsf (i + 1)=rsf i ++ [kp.length]:=by simpa using hst.symm
      obtain ⟨kf,k0,kn,kst⟩:=foldM_take hk
      have kl:∀ j,j≤pq.2.length→(kf j).length≤j:=by
        intro j
        induction j with
        | zero=>intro _; rw [k0]; exact Nat.le_refl _
        | succ j ih =>
          intro hj
          have h1:=kst j hj
          unfold rankStep at h1
          cases hc:colOf pq.1 pq.2[j] with
          | none=>rw [hc] at h1; cases h1
          | some c =>
            rw [hc] at h1
            cases hd:redN (kf j) 64 c with
            | none=>simp [hd] at h1
            | some d =>
              simp [hd] at h1
              have:=keep_len (kept:=kf j) (c:=d)
              rw [h1] at this
              have:=ih (by omega)
              omega
      let B:Bd:=.val (.dat (strsD pq.1))
      let R:Bd:=.lst ((rsf i).map fun n:Nat=>Dat.int (n:Int))
      let Γn:Nat→Ctx':=fun j=>[("kept",.dic (keptD (kf j))),("below",B),("ranks",R),("levels",L)]
      refine ⟨_,asg_tuple2 (.inl rfl) (.inl rfl),?_⟩
      refine ex_seq (ex1_newdict (.inl rfl)) ?_
      have h0n:∀ y b,(Γn 0).lookup y=some b→List.lookup y [((("kept":Str)),Bd.dic []),("above",.val (.dat (strsD pq.2))),("below",B),("ranks",R),("levels",L)]=some b:=by
        show ∀ y b,List.lookup y [((("kept":Str)),Bd.dic (keptD (kf 0))),("below",B),("ranks",R),("levels",L)]=some b→_
        rw [k0]
        exact (Sub.cons rfl (.cons rfl (.cons rfl (.cons rfl .nil)))).go
      refine ex_seq (for_loop (Γs:=Γn) (n:=pq.2.length) (eit_listm (l:=pq.2) (h:=Dat.str) (ev_name rfl)) h0n ?_ (.inl ⟨by simp,rfl⟩)) ?_
      · intro j x hj hx
        obtain ⟨_,rfl⟩:=nth_map hx
        generalize hnm:pq.2[j]=nm
        have hnm8:nm.length≤8:=a2 nm (hnm ▸ List.getElem_mem hj)
        have h1:=kst j hj
        rw [hnm] at h1
        have hklen:=kl j (Nat.le_of_lt hj)
        unfold rankStep at h1
        cases hc:colOf pq.1 nm with
        | none=>rw [hc] at h1; cases h1
        | some c =>
          rw [hc] at h1
          cases hd:redN (kf j) 64 c with
          | none=>simp [hd] at h1
          | some d =>
            have hkj:keep (kf j) d=kf (j + 1):=by simpa [hd] using h1
            obtain ⟨cf,c0,cn,cst⟩:=foldM_take hc
            obtain ⟨nw,cs,cs0,csn,wst,wfin⟩:=red_run hd
            let K:Bd:=.dic (keptD (kf j))
            let N:Bd:=.val (.dat (.str nm))
            let Γk:Nat→Ctx':=fun m=>[("column",.val (.dat (.int (cf m:Int)))),("name",N),("kept",K),("below",B),("ranks",R),("levels",L)]
            let Γw:Nat→Ctx':=fun m=>[("column",.val (.dat (.int (cs m:Int)))),("kept",K),("below",B),("ranks",R),("levels",L)]
            refine ⟨_,asg_name (.inl rfl),?_⟩
            refine ex_seq (ex1_assign ev_int (.inl rfl)) ?_
            have h0k:∀ y b,(Γk 0).lookup y=some b→List.lookup y [((("column":Str)),Bd.val (.dat (.int 0))),("name",N),("kept",K),("below",B),("ranks",R),("levels",L)]=some b:=by
              show ∀ y b,List.lookup y [((("column":Str)),Bd.val (.dat (.int (cf 0:Int)))),("name",N),("kept",K),("below",B),("ranks",R),("levels",L)]=some b→_
              rw [c0]; exact fun y b h=>h
            refine ex_seq (for_loop (Γs:=Γk) (n:=(List.range nm.length).length) (eit_rangeN (n:=nm.length) (bname ok (by decide) rfl (by decide +kernel)) (ev_b (bname ok (by decide) rfl (by decide +kernel)) (evl_cons (ev_name rfl) evl_nil) (c_len_str (by omega))) rfl (by omega)) h0k ?_ (.inl ⟨by simp,rfl⟩)) ?_
            · intro m x hm hx
              obtain ⟨_,rfl⟩:=nth_map hx
              have hstep:=cst m hm
              rw [List.getElem_range] at hstep ⊢
              unfold colStep at hstep
              cases hix:idxOf (without nm m) pq.1 with
              | none=>rw [hix] at hstep; cases hstep
              | some ix =>
                rw [hix] at hstep
                have hcm:cf (m + 1)=cf m ^^^ 2 ^ ix:=by simpa using hstep.symm
                have hixl:=idxOf_lt hix
                obtain ⟨i1,i2⟩:=idxOf_spec hix
                have t1:=sTake_len nm m
                have t2:=sDrop_len nm (m + 1)
                refine ⟨_,asg_name (.inl rfl),?_⟩
                have hsz:(sTake nm m ++ sDrop nm (m + 1)).length≤sizeLine:=by
                  show ((sTake nm m).cps ++ (sDrop nm (m + 1)).cps).size≤sizeLine
                  rw [Array.size_append]
                  have t1':(sTake nm m).cps.size≤nm.cps.size:=t1
                  have t2':(sDrop nm (m + 1)).cps.size≤nm.cps.size:=t2
                  have t3:nm.cps.size≤8:=hnm8
                  omega
                refine ex_to (ex_seq (ex1_assign (x:=.dat (.int (cf (m + 1):Int))) ?_ (.inl rfl)) ex_nil) (.cons rfl (.cons rfl (.cons rfl (.cons rfl (.cons rfl (.cons rfl .nil))))))
                rw [hcm,← bitXor_nat,show ((2 ^ ix:Nat):Int)=1 * 2 ^ ((ix:Nat):Int).toNat by simp]
                refine ev_fn ok sp_xor (evl_cons (ev_name rfl) (evl_cons (ev_fn ok (sp_lshift (by omega) ?_) (evl_cons ev_int (evl_cons (ev_fn ok (sp_indexOf (g:=Dat.str) (fun a b h=>by injection h) (fun a=>.str a) i1 i2 ok) (evl_cons (ev_name rfl) (evl_cons (ev_fn ok (sp_add_str hsz) (evl_cons (ev_str_upto (n:=m) (ev_name rfl) (evp_some (ev_name rfl)) (by omega)) (evl_cons (ev_str_from (n:=m + 1) (ev_name rfl) (evp_some (ev_bin (ev_name rfl) ev_int bin_add)) (by omega)) evl_nil))) evl_nil))) evl_nil))) evl_nil))
                have:Builtin.Int.intBits 1=1:=by decide +kernel
                rw [this]; omega
            · have hcn:cf (List.range nm.length).length=c:=cn
              have hbl:∀ (v:Nat),((bitsN v:Nat):Int)=(Builtin.Int.intBits (v:Int):Int):=fun v=>by rw [intBits_nat]
              have h0w:∀ y b,(Γw 0).lookup y=some b→(Γk (List.range nm.length).length).lookup y=some b:=by
                show ∀ y b,List.lookup y [((("column":Str)),Bd.val (.dat (.int (cs 0:Int)))),("kept",K),("below",B),("ranks",R),("levels",L)]=some b→List.lookup y [((("column":Str)),Bd.val (.dat (.int (cf (List.range nm.length).length:Int)))),("name",N),("kept",K),("below",B),("ranks",R),("levels",L)]=some b
                rw [cs0,hcn]
                exact (Sub.cons rfl (.cons rfl (.cons rfl (.cons rfl (.cons rfl .nil))))).go
              refine ex_seq (while_loop (Γs:=Γw) nw h0w (fun m hm=>?_) ?_) ?_
              · obtain ⟨w1,e,w2,w3⟩:=wst m hm
                have hne:((cs m:Int) != 0)=true:=by simp; omega
                constructor
                · have hin:(keptD (kf j)).any (fun p=>decide (p.1=((bitsN (cs m):Nat):Int)))=true:=by rw [keptD_any,w2]; rfl
                  have:true=(true && (true && true)):=rfl
                  rw [this]
                  refine evb_boolop (eva_and_cons (evb_int rfl hne) fun _=>eva_and_cons ?_ fun _=>eva_and_nil)
                  rw [← hin,hbl]
                  exact evb_in_dic rfl (ev_bit_length (ev_name rfl))
                · refine ex_to (ex_seq (ex1_assign (x:=.dat (.int (cs (m + 1):Int))) ?_ (.inl rfl)) ex_nil) (.cons rfl (.cons rfl (.cons rfl (.cons rfl (.cons rfl .nil)))))
                  rw [w3,← bitXor_nat]
                  refine ev_fn ok sp_xor (evl_cons (ev_name rfl) (evl_cons (ev_get_dic (d:=.int (e:Int)) (x:=((bitsN (cs m):Nat):Int)) rfl ?_ ?_) evl_nil))
                  · rw [hbl]; exact ev_bit_length (ev_name rfl)
                  · rw [keptD_at,w2]; rfl
              · rcases wfin with rfl | hnone
                · have hz0:((cs nw:Int) != 0)=false:=by rw [csn]; rfl
                  have:false=(false && true):=rfl
                  rw [this]
                  exact evb_boolop (eva_and_cons (evb_int rfl hz0) fun h=>nomatch h)
                · by_cases hd0:d=0
                  · subst hd0
                    have hz0:((cs nw:Int) != 0)=false:=by rw [csn]; rfl
                    have:false=(false && true):=rfl
                    rw [this]
                    exact evb_boolop (eva_and_cons (evb_int rfl hz0) fun h=>nomatch h)
                  · have hne:((cs nw:Int) != 0)=true:=by rw [csn]; simp; omega
                    have hin:(keptD (kf j)).any (fun p=>decide (p.1=((bitsN (cs nw):Nat):Int)))=false:=by rw [keptD_any,csn,hnone]; rfl
                    have:false=(true && (false && true)):=rfl
                    rw [this]
                    refine evb_boolop (eva_and_cons (evb_int rfl hne) fun _=>eva_and_cons ?_ fun h=>nomatch h)
                    rw [← hin,hbl]
                    exact evb_in_dic rfl (ev_bit_length (ev_name rfl))
              · have hcol:List.lookup ("column":Str) (Γw nw)=some (.val (.dat (.int (d:Int)))):=by show some _=some _; rw [csn]
                refine ex_seq (Γ':=Γn (j + 1)) ?_ ex_nil
                by_cases hd0:d=0
                · have hkk:kf (j + 1)=kf j:=by rw [← hkj,hd0]; rfl
                  have hf:((d:Int) != 0)=false:=by rw [hd0]; rfl
                  refine ex1_if (b:=false) (evb_int hcol hf) (fun h=>nomatch h) (fun _=>ex_to ex_nil (.cons ?_ (.cons rfl (.cons rfl (.cons rfl .nil)))))
                  rw [hkk]; rfl
                · have hnone:atK (kf j) (bitsN d)=none:=wfin.resolve_left hd0
                  have hkk:kf (j + 1)=kf j ++ [(bitsN d,d)]:=by rw [← hkj]; unfold keep; rw [if_neg hd0]
                  have ht:((d:Int) != 0)=true:=by simp; omega
                  refine ex1_if (b:=true) (evb_int hcol ht) (fun _=>?_) (fun h=>nomatch h)
                  refine ex_to (ex_seq (ex1_setdic (kvs:=keptD (kf j)) (x:=((bitsN d:Nat):Int)) (d:=.int (d:Int)) rfl (ev_name hcol) ?_ ?_) ex_nil) (.cons ?_ (.cons rfl (.cons rfl (.cons rfl .nil))))
                  · rw [hbl]; exact ev_bit_length (ev_name hcol)
                  · rw [List.length_map]; omega
                  · show some _=some _
                    rw [hkk,keptD_store hnone]
      · refine ex_to (ex_seq (ex1_append (ds:=(rsf i).map fun n:Nat=>Dat.int (n:Int)) (d:=.int ((keptD (kf pq.2.length)).length:Int)) rfl (ev_len_dic (bname ok (by decide) rfl (by decide +kernel)) rfl ?_) ?_) ex_nil) (.cons ?_ (.cons rfl .nil))
        · rw [List.length_map]; have:=kl pq.2.length (Nat.le_refl _); omega
        · rw [List.length_map,hri]; omega
        · show some _=some _
          rw [hri1,List.map_append,kn]
          simp
  · refine ex_freeze (y:="ranks") (ds:=rs.map fun n:Nat=>Dat.int (n:Int)) ?_ (ex_stop (ex1_return (ev_name rfl)))
    show some _=some _
    rw [rsn]
end Mine
namespace Mine
variable {w:World} {W:Wd} {k:Nat}
theorem gens_push {G:Array GenState} {x:GenState} (h:x.bare=true):GensKeep G (G.push x):=by
  refine ⟨fun i y hi=>?_,fun ha y hy=>?_⟩
  · have hlt:=(Array.getElem?_eq_some_iff.mp hi).1
    rw [Array.getElem?_push,if_neg (by omega)]; exact hi
  · rcases Array.mem_push.mp hy with h1 | rfl
    · exact ha y h1
    · exact h
theorem fn_call {fr:Frm} {P:Led} {s:Shared} {F:Fz} {A:Around} {E:Value→Shared→Prop} {Q:Value→Shared→Prop} {y:Str} {es:List Expr} {xs:List V} {p pos:Pos} {a:Nat} {o:Obj} {fd:FuncData} {sc:Scope} {fn:Bool} {Γ:Ctx'}
    (hf:Ev pw w W k sc fn Γ (.Name y p) (.ref a)) (ho:W.base.get? a=some o) (hd:o.data=.func fd) (ha:EvL pw w W k sc fn Γ es xs) (hsc:fr.env.scope=sc) (st:St pw w W fr fn Γ P s F) (rm:Room k A)
    (hs:∀ env,(starEach es env).any (·.1)=false) (q:∀ vs s' F',Grow W s s' F F'→VsIs pw w F' vs xs→wpAny (model pw w) A (PySem.call (.ref a) vs) Q E s'):wpAny (model pw w) A (eval (.Call (.Name y p) es [] pos) fr.env) Q E s:=by
  have e:eval (.Call (.Name y p) es [] pos) fr.env=(do callWith pos (← eval (.Name y p) fr.env) [] (backTo pos (starEach es fr.env)) []):=rfl
  rw [e]
  refine wpAny_bind (hf fr P s F hsc st A _ E rm fun v s₁ F₁ g₁ hv=>?_)
  cases hv
  refine callWith_function (o:=o) (fd:=fd) ?_
  refine evalArgs_of ha hsc (st.step g₁) rm hs fun vs s₂ F₂ g₂ hv=>?_
  exact ⟨⟨((st.step g₁).step g₂).base.base _ _ ho,hd⟩,q vs s₂ F₂ (g₁.trans g₂) hv⟩
def outG (ns:List Int) (j:Nat):Int:=match gOut ns none j with
  | .y i=>i
  | _=>0
theorem sp_sizes (ok:Wok W) {ns:List Int} {most cnt:Nat} (hne:∀ q,gOut ns none q≠.err) (hout:∀ i,i < cnt→∃ v,gOut ns none i=.y v) (hcm:cnt≤most) (hend:cnt=most ∨ gOut ns none cnt=.fin) (hmm:most≤1000) :
    Spec w W (k + 5) 29 [.dat (.list (ns.map Dat.int)),.dat (.int (most:Int))] (.dat (.list ((List.range cnt).map fun j=>Dat.int (outG ns j)))):=by
  have hout':∀ i,i < cnt→gOut ns none i=.y (outG ns i):=fun i hi=>by
    obtain ⟨v,hv⟩:=hout i hi
    rw [hv]; unfold outG; rw [hv]
  refine sp_of ["sizes","most"] (fun pm code doc vs h=>by match vs,h with | [u,v],_=>rfl) (by decide) (by decide) rfl ?_
  refine ex_stop (ex1_return fun fr P s F hsc st A Q E rm q=>?_)
  rw [eval_ListComp]
  have okS:=scOk_spec (sc:=(dRec 29).scope) (scope:=⟨.function,[(".0",.local),("k",.local),("size",.local)],false,false,[]⟩) (by decide)
  have hclos:=closure_of (scope:=⟨.function,[(".0",.local),("k",.local),("size",.local)],false,false,[]⟩) (env:=fr.env) (fun x hx hf=>by simp at hx; rcases hx with rfl | rfl | rfl <;> cases hf)
  refine wpAny_comprehension_free rfl (by intro _; rfl) hclos okS.kind okS.loc ?_
  have e:∀ {y:Str} {p pos:Pos} {es:List Expr},eval (.Call (.Name y p) es [] pos) fr.env=(do callWith pos (← eval (.Name y p) fr.env) [] (backTo pos (starEach es fr.env)) []):=rfl
  show wpAny (model pw w) A (eval (.Call (.Name ("zip":Str) _) [_,_] [] _) fr.env) _ _ s
  rw [e]
  have hBz:BName W (dRec 29).scope ("zip":Str) (.type "zip"):=bname ok (by decide) rfl (by decide +kernel)
  have hBr:BName W (dRec 29).scope ("range":Str) (.type "range"):=bname ok (by decide) rfl (by decide +kernel)
  refine wpAny_bind (name_builtin st (hsc ▸ hBz.kind) hBz.glob hBz.boot hBz.nn ?_ hBz.nd)
  refine PyProof.Rows.callWith_type rfl (evalArgs_plain (spliced_cons ?_))
  refine builtin_ctx hBr.kind hBr.glob hBr.boot hBr.nn hBr.call (evl_cons (ev_name rfl) evl_nil) (by intro _; rfl) hBr.nd hsc st rm fun vs s₁ F₁ g₁ hv=>?_
  cases hv with | cons h1 hr =>
  cases hr
  cases h1 with | int hm =>
  rename_i t₀
  refine call_range_1 ?_
  have b₁:=(st.step g₁).base
  let oR:Obj:={ cls:=.type "range",data:=.fields #[.int 0 s₁.toks,.int (most:Int) t₀,.int 1 (s₁.toks + 1)] }
  have g₂:Grow W s₁ { s₁ with heap:=s₁.heap.push oR,toks:=s₁.toks + 1 + 1 } F₁ (F₁.ob s₁.heap.objs.size oR):=Grow.push b₁ oR (by omega) rfl
  have st₂:=(st.step g₁).step g₂
  refine spliced_cons ?_
  obtain ⟨a,fn⟩:=ok.fns 14 (by decide)
  obtain ⟨o,pm,code,doc,ho,hd,_⟩:=id fn.obj
  refine fn_call (xs:=[.dat (.list (ns.map Dat.int))]) (ev_glob rfl fn.glob) ho hd (evl_cons (ev_name rfl) evl_nil) hsc st₂ rm (by intro _; rfl) fun vs s₃ F₃ g₃ hv=>?_
  cases hv with | cons h1 hr =>
  cases hr
  cases h1 with | list hl hvs =>
  rename_i l vs n
  have st₃:=st₂.step g₃
  refine call_gen (k:=k + 3) fn st₃.base (rm.mono (by omega)) fun genv ga oL nm qn s₄ gm=>?_
  refine spliced_nil ?_
  show wpAny _ A (call (.type "zip") [.ref s₁.heap.objs.size,.ref ga]) _ _ s₄
  have hsm:Builtin.Range.small 0 (most:Int) 1=true:=small_one (by decide) (by decide) (by omega) (by omega)
  have hgen:s₄.heap.IsGen ga s₃.gens.size:=⟨_,_,_,gm.gen,rfl,rfl,rfl⟩
  have hR₄:IsRange s₄.heap s₁.heap.objs.size 0 (most:Int) 1 s₁.toks t₀ (s₁.toks + 1):=gm.keep _ _ (st₃.base.has _ (g₃.sub.obs _ (.head _)))
  refine call_zip_rg hR₄ hsm hgen fun h₅ hz hTI hTO hri hz5 hk5=>?_
  refine wpAny_pyIter_zip hz ?_
  have hacc:∀ (s:Shared) (Q:Value→Shared→Prop),Q (.ref s.heap.objs.size) { s with heap:=s.heap.push (listOf ([]:List Value).toArray 0) }→wpAny (model pw w) A (newList []) Q E s:=fun s Q h=>wpAny_newObj_type h
  refine hacc _ _ ?_
  refine wpAny_newFunctionEnv okS.cell (by intro y hy; simp at hy) (fun h₁ hns hsb=>?_) okS.kind
  dsimp only at hns hsb ⊢
  rw [show (h₅.push (listOf ([]:List Value).toArray 0)).objs.size=h₅.objs.size + 1 by simp] at hns hsb ⊢
  have e1:relabel ⟨.function,[(".0",.local),("k",.local),("size",.local)],false,false,[]⟩ fr.env=relab (dRec 29).scope ⟨.function,[(".0",.local),("k",.local),("size",.local)],false,false,[]⟩:=by rw [relab_eq,hsc]
  rw [e1]
  let scope:Scope:=⟨.function,[(".0",.local),("k",.local),("size",.local)],false,false,[]⟩
  let cenv:Env:={ newEnv scope (h₅.objs.size + 1) fr.env.globals (clOf fr.env.cells scope.names) fr.env.qual none .none (some fr.env) fr.env.builtins with scope:=relab (dRec 29).scope scope }
  let oG:Obj:={ cls:=.type "generator",data:=.fields #[.int s₃.gens.size 0,nm,qn],slots:=#[] }
  let s₅:Shared:={ s₄ with heap:=h₅ }
  have keep45:∀ c o,s₃.heap.get? c=some o→h₅.get? c=some o:=fun c o e=>hk5 _ _ (gm.keep _ _ e)
  have sz5:s₃.heap.objs.size≤h₅.objs.size:=by rw [hz5]; have:=gm.size; omega
  have g₄:Grow W s₃ s₅ F₃ ⟨[(ga,oG)] ++ F₃.obs,F₃.tks⟩:=Grow.of_keeps [(ga,oG)] st₃.base keep45 (fun p hp=>by cases List.mem_singleton.mp hp; exact ⟨hk5 _ _ gm.gen,gm.gnew⟩) sz5 gm.toks gm.os (by show GensKeep _ s₄.gens; rw [gm.gens]; exact gens_push rfl)
  have off3:∀ a,s₃.heap.objs.size≤a→a≠ga→∀ q ∈ ([(ga,oG)] ++ F₃.obs:Led),q.1≠a:=fun a ha hg q hq=>by
    rcases List.mem_append.mp hq with hq | hq
    · cases List.mem_singleton.mp hq; exact Ne.symm hg
    · exact fun e=>absurd (Heap.lt_size (st₃.base.has q hq)) (Nat.not_lt.mpr (e ▸ ha))
  have galt:ga < s₄.heap.objs.size:=Heap.lt_size gm.gen
  have Llt:@LT.lt Nat _ genv.locals s₄.heap.objs.size:=Heap.lt_size gm.L
  have sz4:=gm.size
  have hN:∀ p ∈ zLed (s₄.heap.objs.size + 3) (s₄.heap.objs.size + 1) (s₄.heap.objs.size + 2) s₄.heap.objs.size ga .none .none 0 most ++ [(genv.locals,oL)],h₅.get? p.1=some p.2∧s₃.heap.objs.size≤p.1∧∀ q ∈ ([(ga,oG)] ++ F₃.obs:Led),q.1≠p.1:=fun p hp=>by
    rcases List.mem_append.mp hp with hp | hp
    · simp only [zLed,List.mem_cons,List.not_mem_nil,or_false] at hp
      rcases hp with rfl | rfl | rfl | rfl
      · exact ⟨hz,by show _≤s₄.heap.objs.size + 3; omega,off3 _ (by show _≤s₄.heap.objs.size + 3; omega) (by show s₄.heap.objs.size + 3≠ga; omega)⟩
      · exact ⟨hTO,by show _≤s₄.heap.objs.size + 2; omega,off3 _ (by show _≤s₄.heap.objs.size + 2; omega) (by show s₄.heap.objs.size + 2≠ga; omega)⟩
      · refine ⟨?_,by show _≤s₄.heap.objs.size; omega,off3 _ (by show _≤s₄.heap.objs.size; omega) (by show s₄.heap.objs.size≠ga; omega)⟩
        have hri':=hri
        rw [rangeSize_nat] at hri'
        have e2:(((((most:Int) - 0).toNat:Nat):Int))=(most:Int) - ((0:Nat):Int):=by omega
        rw [e2] at hri'
        exact hri'
      · exact ⟨hTI,by show _≤s₄.heap.objs.size + 1; omega,off3 _ (by show _≤s₄.heap.objs.size + 1; omega) (by show s₄.heap.objs.size + 1≠ga; omega)⟩
    · cases List.mem_singleton.mp hp
      exact ⟨hk5 _ _ gm.L,gm.Lnew,off3 _ gm.Lnew (Ne.symm gm.gL)⟩
  have st₅:=comp_frame (P:=P) (N:=zLed (s₄.heap.objs.size + 3) (s₄.heap.objs.size + 1) (s₄.heap.objs.size + 2) s₄.heap.objs.size ga .none .none 0 most ++ [(genv.locals,oL)]) (s₂:=s₅) (o:=listOf ([]:List Value).toArray 0) (t:=s₄.toks + ([]:List (Str × Value)).length) st₃ hsc okS g₄ hN rfl cenv hns hsb rfl rfl rfl rfl rfl (by simp [s₅])
  have D5:Apart5 (s₄.heap.objs.size + 3) (s₄.heap.objs.size + 1) (s₄.heap.objs.size + 2) s₄.heap.objs.size genv.locals:=by
    have hn:∀ {a b:Nat},a≠b→a≠b:=fun h=>h
    constructor <;> (refine hn ?_; omega)
  suffices loop:codeAny (model pw w) A (.compLoop (.ListComp _ [⟨_,_,[],0⟩] _ _) 0 (.ref (s₄.heap.objs.size + 3)) (.ref h₅.objs.size) cenv) (compPost (model pw w) A E none Q (.ref h₅.objs.size) cenv.locals) { s₅ with heap:=h₁,toks:=s₄.toks + ([]:List (Str × Value)).length } from
    codeAny_compStart_list loop (wpAny_pyIter_zip (f0:=.none) (st₅.prv _ (.head _)).1 loop)
  refine gloop (k:=k + 2) (fr:=⟨s₃,F₃,cenv⟩) (env:=genv) (D:=h₅.objs.size) (g:=s₃.gens.size) (l:=l) (n:=n) (ns:=ns) (Fg:=F₃) (vals:=outG ns) (cnt:=cnt) (gnm:=nm) (gqn:=qn) ok gm.ge hvs hne rm D5 hout' hcm hend hmm rfl rfl (fun y b h=>by obtain ⟨_,_,_,z,rfl,_⟩:=capt_spec h; rfl) rfl st₅ (fun p hp=>(hN p hp).2.1) (by exact sz5) (fun p hp=>Nat.ne_of_lt (Heap.lt_size (hN p hp).1)) g₄.sub (g₄.sub.obs _ hl) (.head _) ?_ ?_ ?_ ⟨[],0,rfl,.nil⟩ (fun i hi=>?_) (fun s' F' o' st' hok' hF' hkeep'=>?_)
  · show s₄.gens[s₃.gens.size]?=_
    rw [gm.gens]; exact Array.getElem?_push_size ..
  · show GensKeep _ s₄.gens
    rw [gm.gens]; exact gens_push rfl
  · obtain ⟨m,hm1,hm2⟩:=gm.ns
    refine ⟨m,hm1.at' fun o e=>(hsb.2 _ ?_).trans (Heap.get?_push_of_some _ (Heap.get?_push_of_some _ (hk5 _ _ e))),hm2⟩
    have hn:∀ {a b:Nat},a≠b→a≠b:=fun h=>h
    refine hn ?_
    omega
  · refine ⟨_,asg_tuple2 (.inl rfl) (.inl rfl),(fun y b h=>by obtain ⟨h1,_⟩:=capt_spec h; simp at h1),?_⟩
    have:=emit_list (prog:=pw) (w:=w) (W:=W) (k:=k + 2) (sc:=relab (dRec 29).scope scope) (Γ:=(("size":Str),.val (.dat (.int (outG ns i)))) :: (("k":Str),.val (.dat (.int (i:Int)))) :: capt (dRec 29).scope scope ([("sizes":Str),("most":Str)].zip (List.map Bd.val [V.dat (Dat.list (List.map Dat.int ns)),V.dat (Dat.int ↑most)])))
      (elt:=.Name ("size":Str) ⟨144,12,144,16⟩) (d:=.int (outG ns i)) (a:=(List.range i).map fun j=>Dat.int (outG ns j)) (ev_name rfl) (by simp [sizeLine]; omega)
    have e3:(List.range (i + 1)).map (fun j=>Dat.int (outG ns j))=(List.range i).map (fun j=>Dat.int (outG ns j)) ++ [.int (outG ns i)]:=by rw [List.range_succ,List.map_append]; rfl
    rw [e3]
    exact this
  · obtain ⟨vs',n',rfl,hr'⟩:=hok'
    obtain ⟨m,hm⟩:=st'.ns
    obtain ⟨hDo,_,hDF⟩:=st'.prv _ (.head _)
    refine ⟨m,hm,fun h' hs'=>?_⟩
    have g':=st'.grow
    have g₆:Grow W s s' F F':=((g₁.trans g₂).trans g₃).trans ⟨g'.keep,g'.has,g'.sub,g'.new,g'.tok,g'.toks,g'.size,g'.os,hkeep',g'.tabs⟩
    have hCn:s₃.heap.objs.size≤cenv.locals:=st'.nsNew
    have hCn0:s.heap.objs.size≤cenv.locals:=Nat.le_trans ((g₁.trans g₂).trans g₃).size hCn
    have hCD:h₅.objs.size≠cenv.locals:=Nat.ne_of_lt (Nat.lt_succ_self _)
    have g₇:Grow W s { s' with heap:=h' } F F':=by
      refine ⟨fun a o ht e=>(hs'.2 a (fun q=>?_)).trans (g₆.keep a o ht e),fun p hp=>(hs'.2 _ (st'.nsF p hp)).trans (g₆.has p hp),g₆.sub,g₆.new,g₆.tok,g₆.toks,?_,g₆.os,g₆.gens,g₆.tabs.keeps fun a o ha e=>(hs'.2 a fun q=>?_).trans e⟩
      · rw [q] at e; exact absurd (Heap.lt_size e) (Nat.not_lt.mpr hCn0)
      · show _≤h'.objs.size; rw [hs'.1]; exact g₆.size
      · rw [q] at ha; exact st.base.not_tab_of_size hCn0 ha
    exact q _ _ _ (g₇.freeze (Nat.le_trans ((g₁.trans g₂).trans g₃).size sz5) ((hs'.2 _ hCD).trans hDo)) (.list (.head _) (hr'.mono (Fz.le_ob _ _ _)))
end Mine
namespace Mine
def AnyW (B:Heap) (l:List Env) (e t:Nat) (h:Heap):Prop:=B.StaysIn h∧B.get? e=none∧h.FunFrames B l∧∃ fl,h.TracedAtW B e (.type "ValueError") (.ref t) fl
section
variable {M:Model} {A:Around} {E:Value→Shared→Prop} {s:Shared} {B:Heap} {l outer:List Env} {env env₀:Env} {L e t:Nat} {Q:Unit→Shared→Prop}
theorem exc_flight {fr:Option Addr} (x:AnyW B l e t s.heap) (hQ:∀ h',AnyW B l e t h'→s.heap.UpToSlots h'→Q () { s with heap:=h' }):wpAny M A (setFlight (.ref e) fr) Q E s:=by
  obtain ⟨x1,x2,x3,fl,oe,vs,T,oT,ts,he,hc,hd,h1,hnT,hTe,hT,hdT,h3⟩:=x
  have hlt:3 < ts.size:=(Array.getElem?_eq_some_iff.mp h3).1
  unfold setFlight
  refine wpAny_bind (wpAny_field he hd h1 ?_)
  rw [if_pos (show (Value.ref T != Value.none)=true from by simp)]
  refine wpAny_setField hT hdT hlt ?_
  have off:∀ b,b≠T→(s.heap.update T (Obj.mapFields (·.setIfInBounds 3 (fr.elim Value.none fun f=>rawInt f)))).get? b=s.heap.get? b:=fun b hb=>Heap.get?_update_other _ _ (Ne.symm hb)
  have rc:∀ b o,s.heap.get? b=some o→(∀ vs,o.data≠.fields vs)→b≠T:=fun b o hb hn q=>by
    subst q; rw [hT] at hb; cases hb; exact hn ts hdT
  refine hQ _ ⟨fun b o hb=>(off b fun q=>?_).trans (x1 b o hb),x2,x3.of_keeps fun b o hb hn=>⟨o,(off b (rc b o hb hn)).trans hb,rfl⟩,_,oe,vs,T,_,_,(off e (Ne.symm hTe)).trans he,hc,hd,h1,hnT,hTe,
    Heap.get?_update_self _ hT (Obj.isFreed_of_fields (Obj.data_mapFields hdT _)),Obj.data_mapFields hdT _,Array.getElem?_setIfInBounds_self_of_lt hlt⟩ fun b o hb hn=>⟨o.slots,(off b (rc b o hb hn)).trans hb⟩
  rw [q,hnT] at hb; cases hb
theorem note_congr (h:env.frame=env₀.frame) (x:Value):noteFrame x env=noteFrame x env₀:=by
  unfold noteFrame PySem.frameOf
  rw [h]
theorem exc_note0 (hfr:A.frames=some (env :: outer)) (hf:env.frame=some L) (x:AnyW B (env :: outer) e t s.heap) (hQ:∀ h',AnyW B (env :: outer) e t h'→s.heap.UpToSlots h'→Q () { s with heap:=h' }) :
    wpAny M A (noteFrame (.ref e) env) Q E s:=by
  obtain ⟨x1,x2,x3,fl,oe,vs,T,oT,ts,he,hc,hd,h1,hnT,hTe,hT,hdT,h3⟩:=id x
  have hlt:3 < ts.size:=(Array.getElem?_eq_some_iff.mp h3).1
  unfold noteFrame
  simp only [hf]
  refine wpAny_bind (wpAny_field he hd h1 ?_)
  rw [if_pos (show (Value.ref T != Value.none)=true from by simp)]
  refine wpAny_bind (wpAny_field hT hdT h3 ?_)
  by_cases hfl:(fl == rawInt L)=true
  · rw [if_pos hfl]
    exact wpAny_pure (hQ s.heap x (Heap.UpToSlots.refl _))
  · rw [if_neg hfl]
    refine wpAny_bind (wpAny_setField hT hdT hlt ?_)
    have off:∀ b,b≠T→(s.heap.update T (Obj.mapFields (·.setIfInBounds 3 Value.none))).get? b=s.heap.get? b:=fun b hb=>Heap.get?_update_other _ _ (Ne.symm hb)
    have rc:∀ b o,s.heap.get? b=some o→(∀ vs,o.data≠.fields vs)→b≠T:=fun b o hb hn q=>by
      subst q; rw [hT] at hb; cases hb; exact hn ts hdT
    refine wpAny_entryW (base:=B) hfr (x3.of_keeps fun b o hb hn=>⟨o,(off b (rc b o hb hn)).trans hb,rfl⟩) hf ((off e (Ne.symm hTe)).trans he) (fun b o hb=>(off b fun q=>?_).trans (x1 b o hb)) x2 hd (Array.getElem?_eq_some_iff.mp h1).1 hc.2 fun h' hN=>?_
    · rw [q,hnT] at hb; cases hb
    · obtain ⟨n1,n2,n3,n4⟩:=hN
      rw [hc.1] at n3
      exact hQ h' ⟨n1,x2,n2,_,n3⟩ fun b o hb hn=>n4 b o ((off b (rc b o hb hn)).trans hb) hn
theorem exc_note (hfr:A.frames=some (env₀ :: outer)) (hf:env₀.frame=some L) (he:env.frame=env₀.frame) (x:AnyW B (env₀ :: outer) e t s.heap) (hQ:∀ h',AnyW B (env₀ :: outer) e t h'→s.heap.UpToSlots h'→Q () { s with heap:=h' }) :
    wpAny M A (noteFrame (.ref e) env) Q E s:=by
  rw [note_congr he]
  exact exc_note0 hfr hf x hQ
theorem exc_leave (hfr:A.frames=some (env :: outer)) (hf:env.frame=some L) (x:AnyW B (env :: outer) e t s.heap) (hQ:∀ h',AnyW B outer e t h'→s.heap.UpToSlots h'→Q () { s with heap:=h' }) :
    wpAny M A (leaving env (.ref e)) Q E s:=by
  unfold leaving
  refine wpAny_bind (exc_note0 hfr hf x fun h₁ x₁ u₁=>exc_flight (s:={ s with heap:=h₁ }) x₁ fun h₂ x₂ u₂=>?_)
  obtain ⟨k1,k2,⟨_,_,k3⟩,k4⟩:=x₂
  exact hQ h₂ ⟨k1,k2,k3,k4⟩ (u₁.trans u₂)
theorem exc_made {h:Heap} {args:List Value} (hfr:A.frames=some (env :: outer)) (hf:env.frame=some L) (hB:B.StaysIn h) (hl:h.FunFrames B (env :: outer)) (hx:Heap.MadeExcOf h s.heap e (.type "ValueError") args)
    (hQ:∀ h' t,AnyW B (env :: outer) e t h'→h'.TupAt t args→B.get? t=none→s.heap.UpToSlots h'→Q () { s with heap:=h' }):wpAny M A (noteFrame (.ref e) env) Q E s:=by
  obtain ⟨t,he,htn,ht⟩:=hx.there
  have fresh:∀ b,h.get? b=none→B.get? b=none:=fun b hb=>by
    cases hq:B.get? b with
    | none=>rfl
    | some o=>have:=hB b o hq; rw [hb] at this; cases this
  unfold noteFrame
  simp only [hf]
  refine wpAny_bind (wpAny_field he rfl (x:=.none) rfl ?_)
  rw [if_neg (by decide)]
  refine wpAny_entryW (base:=B) (a0:=.ref t) hfr (hl.of_keeps fun b o hb _=>⟨o,hx.keeps b o hb,rfl⟩) hf he (fun b o hb=>hx.keeps b o (hB b o hb)) (fresh e hx.new) rfl (by simp) rfl fun h' hN=>?_
  obtain ⟨n1,n2,n3,n4⟩:=hN
  exact hQ h' t ⟨n1,fresh e hx.new,n2,_,n3⟩ (Heap.TupAt.of_slots ⟨_,_,ht,rfl,rfl⟩ n4) (fresh t htn) n4
theorem AnyW.tracedback {h:Heap} (x:AnyW B l e t h):∃ oe vs T,h.get? e=some oe∧oe.cls=.type "ValueError"∧oe.data=.fields vs∧vs[1]?=some (.ref T)∧vs[0]?=some (.ref t):=by
  obtain ⟨_,_,_,fl,oe,vs,T,oT,ts,he,hc,hd,h1,_⟩:=x
  exact ⟨oe,vs,T,he,hc.1,hd,h1,hc.2⟩
theorem exc_back {fr:Option Addr} {what:String} (x:AnyW B l e t s.heap) (hQ:∀ h',AnyW B l e t h'→s.heap.UpToSlots h'→Q () { s with heap:=h' }) :
    wpAny M A (do
      if (← field (.ref e) 1) == Value.none then unsupported what
      setFlight (.ref e) fr:Sem Unit) Q E s:=by
  obtain ⟨oe,vs,T,he,_,hd,h1,_⟩:=x.tracedback
  refine wpAny_bind (wpAny_field he hd h1 ?_)
  rw [if_neg (show ¬ (Value.ref T == Value.none)=true from by simp)]
  exact exc_flight x hQ
theorem exc_cameBack (x:AnyW B l e t s.heap) (hQ:∀ h',AnyW B l e t h'→s.heap.UpToSlots h'→E (.ref e) { s with heap:=h' }):cameBackBy M A env E (.ref e) s:=exc_back x hQ
theorem exc_passOn {α:Type} {what:String} {Q:α→Shared→Prop} (x:AnyW B l e t s.heap) (hQ:∀ h',AnyW B l e t h'→s.heap.UpToSlots h'→E (.ref e) { s with heap:=h' }):wpAny M A (PySem.passOn what (.ref e) env:Sem α) Q E s:=by
  obtain ⟨oe,vs,T,he,_,hd,h1,_⟩:=x.tracedback
  unfold PySem.passOn
  refine wpAny_bind (wpAny_field he hd h1 ?_)
  rw [if_neg (show ¬ (Value.ref T == Value.none)=true from by simp)]
  exact wpAny_bind (exc_flight x fun h' x' u'=>wpAny_throw (hQ h' x' u'))
end
end Mine
namespace Mine
def frs (l:List Env):List Nat:=l.filterMap (·.frame)
def FramesOk (h:Heap) (l:List Env):Prop:=∀ env ∈ l,env.scope.kind≠.module∧∃ L o,env.frame=some L∧h.get? L=some o∧∀ vs,o.data≠.fields vs
theorem FramesOk.mem {h:Heap} {l:List Env} (x:FramesOk h l) {a:Nat} (ha:a ∈ frs l):∃ o,h.get? a=some o∧∀ vs,o.data≠.fields vs:=by
  obtain ⟨env,he,hf⟩:=List.mem_filterMap.mp ha
  obtain ⟨_,L,o,hf',ho,hd⟩:=x env he
  rw [hf] at hf'; cases hf'
  exact ⟨o,ho,hd⟩
theorem funFrames_of {h B:Heap}:∀ {l:List Env},FramesOk h l→(∀ a ∈ frs l,B.get? a=none)→h.FunFrames B l
  | [],_,_=>trivial
  | env :: l,x,hB=>by
    obtain ⟨hk,L,o,hf,ho,hd⟩:=x env (.head _)
    refine ⟨hk,⟨L,o,hf,hB L (List.mem_filterMap.mpr ⟨env,.head _,hf⟩),ho,hd⟩,funFrames_of (fun e he=>x e (.tail _ he)) fun a ha=>hB a ?_⟩
    obtain ⟨e,he,hf'⟩:=List.mem_filterMap.mp ha
    exact List.mem_filterMap.mpr ⟨e,.tail _ he,hf'⟩
structure Fly (B:Heap) (t tk:Nat) (X:List Nat) (l:List Env) (s s':Shared) (e:Nat) (msg:Str):Prop where
  any:AnyW B l e t s'.heap
  tup:s'.heap.TupAt t [.str msg tk]
  tn:B.get? t=none
  tk0:s.toks≤tk
  tk1:tk < s'.toks
  keep:∀ a o,a ∉ X→s.heap.get? a=some o→B.get? a=some o
  upto:s.heap.UpToSlots s'.heap
  os:s'.os=s.os
  gens:s'.gens=s.gens
theorem Fly.next {B:Heap} {t tk:Nat} {X:List Nat} {l l':List Env} {s s':Shared} {e:Nat} {msg:Str} {h':Heap} (x:Fly B t tk X l s s' e msg) (a:AnyW B l' e t h') (u:s'.heap.UpToSlots h'):Fly B t tk X l' s { s' with heap:=h' } e msg :=
  ⟨a,x.tup.of_slots u,x.tn,x.tk0,x.tk1,x.keep,x.upto.trans u,x.os,x.gens⟩
section
variable {w:World} {W:Wd} {A:Around} {s:Shared} {F:Fz} {env:Env} {outer:List Env}
theorem raise_site {E:Value→Shared→Prop} {Q:Flow→Shared→Prop} {np cpos p pos:Pos} {msg:Str} {c:Nat} (ok:Wok W) (hb:W.base.StaysIn s.heap) (hh:A.handled=none) (hfr:A.frames=some (env :: outer)) (hF:FramesOk s.heap (env :: outer))
    (hk:env.scope.kind=.function) (hx:env.scope.names.lookup ("ValueError":Str)=some .globalImplicit) (hg:env.globals=mainGlobals) (hbt:env.builtins=builtinsNs)
    (h:∀ B t tk e s',Fly B t tk (frs (env :: outer)) (env :: outer) s s' e msg→E (.ref e) s') :
    wpAny (model pw w) A (exec (.Raise (some (.Call (.Name ("ValueError":Str) np) [.Constant (.str msg) c p] [] cpos)) none pos) env) Q (fun x s'=>wpAny (model pw w) A (noteFrame x env) (fun _ s''=>E x s'') (fun _ _=>False) s') s:=by
  refine Raise_madeB PySem.F.excCall_ValueError PySem.F.excRaise_ValueError hh ?_
  refine Name_function_global hk hx (loadGlobal_builtin (by rw [hg]; exact W.g.keeps hb) (ok.free _ (by decide)) (by rw [hbt]; exact W.b.keeps hb) ((W.builtins _ (by decide)).trans (by decide +kernel:bootBuiltins ("ValueError":Str)=some (.type "ValueError"))) ⟨rfl,?_⟩)
  refine spliced_cons (wpAny_Constant_str (k:=c) (pos:=p) (spliced_nil ⟨by simp [sizeLine],fun h' e hx'=>?_⟩))
  obtain ⟨_,L,oL,hf,_⟩:=hF env (.head _)
  let B:=hideAll s.heap (frs (env :: outer))
  have hBn:∀ a ∈ frs (env :: outer),B.get? a=none:=fun a ha=>hideAll_none _ ha
  refine exc_made (s:={ s with heap:=h',toks:=s.toks + 1 }) (h:=s.heap) (B:=B) hfr hf (fun b o q=>of_hideAll _ q) (funFrames_of hF hBn) hx'.of fun h₁ t a₁ tu hBt u=>?_
  exact h B t s.toks e _ ⟨a₁,tu,hBt,Nat.le_refl _,Nat.lt_succ_self _,fun a o hn ho=>hideAll_get _ ho hn,(Heap.UpToSlots.of_keeps hx'.keeps).trans u,rfl,rfl⟩
end
theorem AnyW.less {B B' h:Heap} {l:List Env} {e t:Nat} (x:AnyW B l e t h) (hB:∀ a o,B'.get? a=some o→B.get? a=some o):AnyW B' l e t h:=by
  have no:∀ a,B.get? a=none→B'.get? a=none:=fun a ha=>by
    cases q:B'.get? a with
    | none=>rfl
    | some o=>rw [hB a o q] at ha; cases ha
  obtain ⟨x1,x2,x3,fl,oe,vs,T,oT,ts,he,hc,hd,h1,hnT,r⟩:=x
  refine ⟨fun a o q=>x1 a o (hB a o q),no _ x2,?_,fl,oe,vs,T,oT,ts,he,hc,hd,h1,no _ hnT,r⟩
  clear he hc hd h1 hnT r x1 x2
  induction l with
  | nil=>trivial
  | cons env l ih =>
    obtain ⟨a1,⟨L,o,a2,a3,a4⟩,a5⟩:=x3
    exact ⟨a1,⟨L,o,a2,no _ a3,a4⟩,ih a5⟩
theorem AnyW.turn {B h h':Heap} {l:List Env} {e t c:Nat} {o:Obj} (x:AnyW B l e t h) (hc:B.get? c=some o) (hs:Heap.SameBut c h h'):AnyW (B.hide c) l e t h':=by
  have ne:∀ {a:Nat},B.get? a=none→a≠c:=fun ha q=>by rw [q,hc] at ha; cases ha
  have stay:∀ {a:Nat} {o:Obj},B.get? a=none→h.get? a=some o→h'.get? a=some o:=fun ha q=>(hs.2 _ (ne ha)).trans q
  have y:=x.less (B':=B.hide c) fun a o q=>Heap.of_hide q
  obtain ⟨y1,y2,y3,_⟩:=y
  obtain ⟨x1,x2,x3,fl,oe,vs,T,oT,ts,he,hcc,hd,h1,hnT,hTe,hT,hdT,h3⟩:=x
  have none':∀ {a:Nat},B.get? a=none→(B.hide c).get? a=none:=fun {a} ha=>by
    cases q:(B.hide c).get? a with
    | none=>rfl
    | some o=>rw [Heap.of_hide q] at ha; cases ha
  refine ⟨fun a o q=>(hs.2 a fun e=>by rw [e,Heap.hide_self] at q; cases q).trans (y1 a o q),y2,?_,fl,oe,vs,T,oT,ts,stay x2 he,hcc,hd,h1,none' hnT,hTe,stay hnT hT,hdT,h3⟩
  clear he hcc hd h1 hnT x1 x2 hT y1 y2 y3 hdT h3
  induction l with
  | nil=>trivial
  | cons env l ih =>
    obtain ⟨a1,⟨L,o,a2,a3,a4,a5⟩,a6⟩:=x3
    exact ⟨a1,⟨L,o,a2,none' a3,stay a3 a4,a5⟩,ih a6⟩
structure FlyZ (B:Heap) (t tk:Nat) (X:List Nat) (l:List Env) (s s':Shared) (e:Nat) (msg:Str):Prop where
  any:AnyW B l e t s'.heap
  tup:s'.heap.TupAt t [.str msg tk]
  tn:B.get? t=none
  tk0:s.toks≤tk
  tk1:tk < s'.toks
  keep:∀ a o,a ∉ X→s.heap.get? a=some o→B.get? a=some o
  upto:∀ a ∈ frs l,∀ o,s.heap.get? a=some o→(∀ vs,o.data≠.fields vs)→∃ sl,s'.heap.get? a=some { o with slots:=sl }
  os:s'.os=s.os
theorem FlyZ.next {B:Heap} {t tk:Nat} {X:List Nat} {l:List Env} {s s':Shared} {e:Nat} {msg:Str} {h':Heap} (x:FlyZ B t tk X l s s' e msg) (a:AnyW B l e t h') (u:s'.heap.UpToSlots h'):FlyZ B t tk X l s { s' with heap:=h' } e msg :=
  ⟨a,x.tup.of_slots u,x.tn,x.tk0,x.tk1,x.keep,fun b hb o ho hd=>by
    obtain ⟨sl,h1⟩:=x.upto b hb o ho hd
    obtain ⟨sl',h2⟩:=u b _ h1 hd
    exact ⟨sl',h2⟩,x.os⟩
theorem FlyZ.turn {B:Heap} {t tk c:Nat} {X:List Nat} {l:List Env} {s s':Shared} {e:Nat} {msg:Str} {h':Heap} {o:Obj} (x:FlyZ B t tk X l s s' e msg) (hc:B.get? c=some o) (hs:Heap.SameBut c s'.heap h') (hcf:c ∉ frs l):FlyZ (B.hide c) t tk (c :: X) l s { s' with heap:=h' } e msg where
  any:=x.any.turn hc hs
  tup:=let ⟨o',n,h1,h2,h3⟩:=x.tup; ⟨o',n,(hs.2 _ fun q=>by have:=x.tn; rw [q,hc] at this; cases this).trans h1,h2,h3⟩
  tn:=by
    cases q:(B.hide c).get? t with
    | none=>rfl
    | some o=>have:=Heap.of_hide q; rw [x.tn] at this; cases this
  tk0:=x.tk0
  tk1:=x.tk1
  keep:=fun a o hn ho=>by
    simp only [List.mem_cons,not_or] at hn
    rw [Heap.hide_ne _ hn.1]
    exact x.keep a o hn.2 ho
  upto:=fun a ha o ho hd=>let ⟨sl,h1⟩:=x.upto a ha o ho hd; ⟨sl,(hs.2 _ fun q=>hcf (q ▸ ha)).trans h1⟩
  os:=x.os
theorem Fly.z {B:Heap} {t tk:Nat} {X:List Nat} {l:List Env} {s s':Shared} {e:Nat} {msg:Str} (x:Fly B t tk X l s s' e msg):FlyZ B t tk X l s s' e msg :=
  ⟨x.any,x.tup,x.tn,x.tk0,x.tk1,x.keep,fun a _ o ho hd=>x.upto a o ho hd,x.os⟩
theorem FlyZ.before {B:Heap} {t tk:Nat} {X:List Nat} {l:List Env} {s₀ s s':Shared} {e:Nat} {msg:Str} (x:FlyZ B t tk X l s s' e msg) (hk:∀ a o,s₀.heap.get? a=some o→s.heap.get? a=some o) (ht:s₀.toks≤s.toks) (ho:s.os=s₀.os):FlyZ B t tk X l s₀ s' e msg :=
  ⟨x.any,x.tup,x.tn,Nat.le_trans ht x.tk0,x.tk1,fun a o hn h=>x.keep a o hn (hk a o h),fun a ha o h hd=>x.upto a ha o (hk a o h) hd,x.os.trans ho⟩
structure Flown (W:Wd) (B:Heap) (t tk:Nat) (l:List Env) (s s':Shared) (F F':Fz) (e:Nat) (msg:Str):Prop where
  any:AnyW B l e t s'.heap
  tup:s'.heap.TupAt t [.str msg tk]
  tkm:(tk,Dat.str msg) ∈ F'.tks
  keep:∀ a o,¬ W.tab a→a ∉ frs l→s.heap.get? a=some o→B.get? a=some o
  obs:∀ p ∈ F'.obs,B.get? p.1=some p.2
  tabs:TabInv W F' B
  upto:∀ a ∈ frs l,∀ o,s.heap.get? a=some o→∃ sl,s'.heap.get? a=some { o with slots:=sl }
  sub:F.le F'
  new:∀ p ∈ F'.obs,p ∈ F.obs ∨ s.heap.objs.size≤p.1
  tok:TokOk F'.tks s'.toks
  toks:s.toks≤s'.toks
  os:s'.os=s.os
  gens:GensKeep s.gens s'.gens
theorem Flown.next {W:Wd} {B:Heap} {t tk:Nat} {l:List Env} {s s':Shared} {F F':Fz} {e:Nat} {msg:Str} {h':Heap} (x:Flown W B t tk l s s' F F' e msg) (hF:FramesOk s.heap l) (a:AnyW B l e t h') (u:s'.heap.UpToSlots h'):Flown W B t tk l s { s' with heap:=h' } F F' e msg :=
  ⟨a,x.tup.of_slots u,x.tkm,x.keep,x.obs,x.tabs,fun b hb o ho=>by
    obtain ⟨sl,h1⟩:=x.upto b hb o ho
    obtain ⟨o',h2,hd⟩:=hF.mem hb
    rw [ho] at h2; cases h2
    obtain ⟨sl',h3⟩:=u b _ h1 hd
    exact ⟨sl',h3⟩,x.sub,x.new,x.tok,x.toks,x.os,x.gens⟩
theorem Flown.size {W:Wd} {B:Heap} {t tk:Nat} {l:List Env} {s s':Shared} {F F':Fz} {e:Nat} {msg:Str} (x:Flown W B t tk l s s' F F' e msg) (hz:hz s≤hz s'):GrowX W (frs l) s s' F F' :=
  ⟨fun a o ht hn ho=>x.any.1 _ _ (x.keep a o ht hn ho),fun p hp=>x.any.1 _ _ (x.obs p hp),x.sub,x.new,x.tok,x.toks,hz,x.os,x.gens,x.tabs.keeps fun a o _ e=>x.any.1 _ _ e⟩
theorem frs_cons {env:Env} {outer:List Env} {L:Nat} (h:env.frame=some L):frs (env :: outer)=L :: frs outer:=by unfold frs; rw [List.filterMap_cons,h]
def Raises (w:World) (W:Wd) (k:Nat) (f:Value) (xs:List V) (msg:Str):Prop :=
  ∀ s F vs,Base W s F→VsIs pw w F vs xs→∀ (A:Around) (l:List Env) (Q:Value→Shared→Prop) (E:Value→Shared→Prop),Room k A→A.frames=some l→FramesOk s.heap l→(∀ p ∈ F.obs,p.1 ∉ frs l) →
    (∀ B t tk e s' F',Flown W B t tk l s s' F F' e msg→E (.ref e) s')→wpAny (model pw w) A (call f vs) Q E s
section
variable {w:World} {W:Wd} {k:Nat}
theorem leave_fly {A:Around} {E:Value→Shared→Prop} {s s₁ s':Shared} {F F₁:Fz} {env:Env} {outer:List Env} {Γ:Ctx'} {B:Heap} {t tk e:Nat} {X:List Nat} {msg:Str} (b₀:Base W s F) (st:St pw w W ⟨s,F,env⟩ true Γ [] s₁ F₁) (hf:env.frame=some env.locals) (hfr:A.frames=some (env :: outer))
    (hFo:FramesOk s.heap outer) (hoff:∀ p ∈ F.obs,p.1 ∉ frs outer) (x:FlyZ B t tk X (env :: outer) s₁ s' e msg) (hX:∀ a ∈ X,a ∈ frs (env :: outer) ∨ (s.heap.objs.size≤a∧∀ p ∈ F₁.obs,p.1≠a)) (hg:GensKeep s₁.gens s'.gens)
    (h:∀ s' F',Flown W B t tk outer s s' F F' e msg→E (.ref e) s'):wpAny (model pw w) A (leaving env (.ref e)) (fun _ s''=>E (.ref e) s'') (fun e' s''=>E e' s'') s':=by
  refine exc_leave hfr hf x.any fun h' a' u'=>h _ (F₁.tk tk (.str msg)) ?_
  have y:FlyZ B t tk X outer s₁ { s' with heap:=h' } e msg:=⟨a',x.tup.of_slots u',x.tn,x.tk0,x.tk1,x.keep,fun a ha o ho hd=>by
    obtain ⟨sl,h1⟩:=x.upto a (by rw [frs_cons hf]; exact .tail _ ha) o ho hd
    obtain ⟨sl',h2⟩:=u' a _ h1 hd
    exact ⟨sl',h2⟩,x.os⟩
  have hLn:s.heap.get? env.locals=none:=get_new_none st.nsNew
  have ntab:∀ {c:Nat} {o:Obj},s.heap.get? c=some o→(∀ vs,o.data≠.fields vs)→¬ W.tab c:=fun {c o} ho hd ht=>by
    obtain ⟨q,hq,rfl⟩:=ht
    obtain ⟨ps,h1,_⟩:=b₀.tabs q hq
    rw [ho] at h1; cases h1
    exact hd _ rfl
  have inX:∀ a,a ∈ X→a=env.locals ∨ a ∈ frs outer ∨ (s.heap.objs.size≤a∧∀ p ∈ F₁.obs,p.1≠a):=fun a ha=>by
    rcases hX a ha with h1 | h1
    · rw [frs_cons hf] at h1
      rcases List.mem_cons.mp h1 with rfl | h1
      · exact .inl rfl
      · exact .inr (.inl h1)
    · exact .inr (.inr h1)
  refine ⟨y.any,y.tup,.head _,fun a o ht hn ho=>y.keep a o (fun hm=>?_) (st.grow.keep a o ht ho),fun p hp=>y.keep _ _ (fun hm=>?_) (st.base.has p hp),(st.base.tabs.keeps fun a o ha ho=>y.keep a o (fun hm=>?_) ho).mono (Fz.le_tk _ _ _),fun a ha o ho=>?_,st.grow.sub.trans (Fz.le_tk _ _ _),st.grow.new,?_,?_,?_,?_⟩
  · rcases inX a hm with rfl | h1 | ⟨h1,_⟩
    · rw [hLn] at ho; cases ho
    · exact hn h1
    · exact absurd (Heap.lt_size ho) (Nat.not_lt.mpr h1)
  · rcases inX p.1 hm with h1 | h1 | ⟨_,h1⟩
    · exact st.nsF p hp h1
    · rcases st.grow.new p hp with h2 | h2
      · exact hoff p h2 h1
      · obtain ⟨o,ho,_⟩:=hFo.mem h1
        exact absurd (Heap.lt_size ho) (Nat.not_lt.mpr h2)
    · exact h1 p hp rfl
  · rcases inX a hm with h1 | h1 | ⟨h1,_⟩
    · exact st.tabL (h1 ▸ ha)
    · obtain ⟨o',ho',hd'⟩:=hFo.mem h1
      exact ntab ho' hd' ha
    · exact b₀.not_tab_of_size h1 ha
  · obtain ⟨o',ho',hd'⟩:=hFo.mem ha
    rw [ho] at ho'; cases ho'
    obtain ⟨sl,h1⟩:=x.upto a (by rw [frs_cons hf]; exact .tail _ ha) o (st.grow.keep a o (ntab ho hd') ho) hd'
    obtain ⟨sl',h2⟩:=u' a _ h1 hd'
    exact ⟨sl',h2⟩
  · exact st.base.tok.cons y.tk0 y.tk1
  · have:=st.grow.toks
    have h1:=y.tk0
    have h2:=y.tk1
    exact Nat.le_trans this (Nat.le_trans h1 (Nat.le_of_lt h2))
  · exact y.os.trans st.grow.os
  · exact st.grow.gens.trans hg
end
end Mine
namespace Mine
variable {w:World} {W:Wd} {k:Nat}
theorem not_tab_frame {s:Shared} {F:Fz} (b:Base W s F) {c:Nat} {o:Obj} (ho:s.heap.get? c=some o) (hd:∀ vs,o.data≠.fields vs):¬ W.tab c:=fun ht=>by
  obtain ⟨q,hq,rfl⟩:=ht
  obtain ⟨ps,h1,_⟩:=b.tabs q hq
  rw [ho] at h1; cases h1
  exact hd _ rfl
theorem frames_keep {s s':Shared} {F:Fz} {outer:List Env} (b:Base W s F) (hk:∀ a o,¬ W.tab a→s.heap.get? a=some o→s'.heap.get? a=some o) (h:FramesOk s.heap outer):FramesOk s'.heap outer:=fun e he=>by
  obtain ⟨h1,L,o,hf,ho,hd⟩:=h e he
  exact ⟨h1,L,o,hf,hk _ _ (not_tab_frame b ho hd) ho,hd⟩
theorem frames_at {prog:Program} {s s':Shared} {F F':Fz} {env:Env} {fn:Bool} {Γ:Ctx'} {P:Led} {outer:List Env} (st:St prog w W ⟨s,F,env⟩ fn Γ P s' F') (b:Base W s F) (h:FramesOk s.heap outer) (hf:env.frame=some env.locals):FramesOk s'.heap (env :: outer):=fun e he=>by
  rcases List.mem_cons.mp he with rfl | he
  · obtain ⟨m,o,es,ep,ho,hd,_⟩:=st.ns
    exact ⟨by have:e.scope.kind=.function:=st.kind
              rw [this]; decide,_,o,hf,ho,fun vs q=>by rw [hd] at q; cases q⟩
  · exact frames_keep b (fun a o ht ho=>st.grow.keep a o ht ho) h e he
theorem raises_def {i:Nat} {a:Nat} {xs:List V} {msg:Str} (fn:FnOk W (dRec i) a) (names:List Str)
    (hb:∀ pm code doc (vs:List Value),vs.length=xs.length→bindArgs (docDef (dRec i).name (dRec i).params (dRec i).body (dRec i).scope pm code doc) ⟨vs,[]⟩=pure (names.zip vs))
    (hp:parOk (dRec i).scope names=true) (hn:names.Nodup) (hl:names.length=xs.length)
    (hex:∀ (s:Shared) (F:Fz) (env:Env) (s₁:Shared) (F₁:Fz) (A:Around) (outer:List Env) (Q:Flow→Shared→Prop) (E:Value→Shared→Prop),env.scope=(dRec i).scope→env.frame=some env.locals→Base W s F→St pw w W ⟨s,F,env⟩ true (names.zip (xs.map Bd.val)) [] s₁ F₁ →
      Room k A→A.frames=some (env :: outer)→FramesOk s.heap outer→(∀ p ∈ F.obs,p.1 ∉ frs outer) →
      (∀ B t tk e X s₂ F₂ s',St pw w W ⟨s,F,env⟩ true [] [] s₂ F₂→FlyZ B t tk X (env :: outer) s₂ s' e msg→(∀ a ∈ X,a ∈ frs (env :: outer) ∨ (s.heap.objs.size≤a∧∀ p ∈ F₂.obs,p.1≠a))→GensKeep s₂.gens s'.gens→E (.ref e) s')→wpAny (model pw w) A (execs (dRec i).body env) Q E s₁) :
    Raises w W (k + 1) (.ref a) xs msg:=by
  intro s F vs b hv A outer Q E rm hfr hFo hoff q
  obtain ⟨o,pm,code,doc,ho,hd,hc⟩:=fn.obj
  unfold parOk at hp
  simp only [Bool.and_eq_true,beq_iff_eq,Bool.not_eq_true',List.all_eq_true,Bool.or_eq_true] at hp
  obtain ⟨⟨⟨hk,hco⟩,hgen⟩,hkinds⟩:=hp
  have vl:=hv.length
  refine wpAny_call ?_
  refine codeAny_call_function (fd:=docDef (dRec i).name (dRec i).params (dRec i).body (dRec i).scope pm code doc) rm.depth (b.base _ _ ho) hd hco hgen rfl (hc.keeps b.base) ?_
  rw [hb _ _ _ _ vl]
  have hbm:(names.zip vs).map (·.1)=names:=by
    rw [List.map_fst_zip]; omega
  have key:∀ x ∈ names.zip vs,(dRec i).scope.names.lookup x.1=some .local ∨ (dRec i).scope.names.lookup x.1=some .cell:=fun x hx=>hkinds x.1 (List.of_mem_zip hx).1
  refine wpAny_pure (any_hz (wpAny_newFunctionEnv_cells hk (fun x hx=>?_) fun env he s₁ X hz1 ht1=>?_))
  · rcases key x hx with h | h
    · exact .inl h
    · obtain ⟨c,hc⟩:=cellsFrom_some (n:=s.heap.objs.size + 1) (acc:=[]) (.inl (mem_of_lookup h))
      exact .inr ⟨h,by show ((cellsFrom (s.heap.objs.size + 1) (dRec i).scope.names []).lookup x.1).isSome=true; rw [hc]; rfl⟩
  · have es:env.scope=(dRec i).scope:=by rw [he]; rfl
    have st:St pw w W ⟨s,F,env⟩ true (names.zip (xs.map Bd.val)) [] s₁ F:=call_frame (sc:=(dRec i).scope) (binds:=names.zip vs) b hz1 ht1 (by rw [he]; rfl) (by rw [he]; rfl) es hk ⟨s.heap.objs.size + 1,by rw [he]; rfl⟩ X (by rw [hbm]; exact hn) fun y bd hy=>by
      obtain ⟨h1,x,v,e1,e2,e3⟩:=zip_lookup hv hy
      exact ⟨hkinds y h1,x,v,e1,e2,e3⟩
    refine ⟨W.nolimit.keeps (fun a o e=>X.toInCall.keep a o (b.base a o e)),codeAny_func ?_⟩
    have hf:env.frame=some env.locals:=by rw [he]; rfl
    have hfr':(A.deeper env).frames=some (env :: outer):=Around.frames_deeper hfr
    refine hex s F env s₁ F _ outer _ _ es hf b st (rm.deeper env) hfr' hFo hoff fun B t tk e X s₂ F₂ s' st₂ fly hX hg=>?_
    exact leave_fly (E:=fun x s''=>E x s'') b st₂ hf hfr' hFo hoff fly hX hg fun s'' F' fl=>q B t tk e s'' F' fl
theorem rs_indexOf {α:Type} [DecidableEq α] {l:List α} {g:α→Dat} {e:α} (hg:∀ a b,g a=g b→a=b) (ha:∀ a,Atom (g a)) (hnot:∀ i:Nat,l[i]?≠some e) (ok:Wok W) {a:Nat} (fn:FnOk W (dRec 23) a) :
    Raises w W (k + 1) (.ref a) [.dat (.list (l.map g)),.dat (g e)] ("sequence.index(x): x not in sequence":Str):=by
  refine raises_def fn ["a","b"] (fun pm code doc vs h=>by match vs,h with | [u,v],_=>rfl) (by decide) (by decide) rfl ?_
  intro s F env s₁ F₁ A outer Q E hsc hf b st rm hfr hFo hoff hE
  let Γs:Nat→Ctx':=fun i=>[("a",.val (.dat (.list (l.map g)))),("b",.val (.dat (g e)))]
  have hen:∀ (ds:List Dat) (j i:Nat),(enumD j ds)[i]?=(ds[i]?).map fun d=>Dat.tuple [.int ((j + i:Nat):Int),d]:=by
    intro ds
    induction ds with
    | nil=>intro j i; simp [enumD]
    | cons d r ih =>
      intro j i
      cases i with
      | zero=>simp [enumD]
      | succ i =>
        have:=ih (j + 1) i
        simp only [enumD,List.getElem?_cons_succ,this]
        rw [show j + 1 + i=j + (i + 1) by omega]
  have hx':∀ (i:Nat) (x:V),((enumD 0 (l.map g)).map V.dat)[i]?=some x→∃ a,l[i]?=some a∧x=V.dat (.tuple [.int (i:Int),g a]):=fun i x hx=>by
    rw [List.getElem?_map,hen,List.getElem?_map] at hx
    cases h:l[i]? with
    | none=>rw [h] at hx; cases hx
    | some a =>
      rw [h] at hx
      simp at hx
      exact ⟨a,rfl,hx.symm⟩
  have hlen:∀ (ds:List Dat) (j:Nat),(enumD j ds).length=ds.length:=by
    intro ds
    induction ds with
    | nil=>intro j; rfl
    | cons d r ih=>intro j; simp [enumD,ih]
  have hB:BName W (dRec 23).scope "enumerate" (.type "enumerate"):=bname ok (by decide) rfl (by decide +kernel)
  refine wpAny_execs_cons (for_core (fr:=⟨s,F,env⟩) (Γs:=Γs) (n:=l.length) (eit_enum hB (ev_name rfl)) (Sub.cons rfl (.cons rfl .nil)).go ?_ hsc st rm (.inl ⟨by simp [hlen],fun s' F' hF st'=>?_⟩))
  · intro i x hi hx
    obtain ⟨a,h1,rfl⟩:=hx' i x hx
    refine ⟨_,asg_tuple2 (.inl rfl) (.inl rfl),?_⟩
    have hb:false=true ↔ g a=g e:=⟨fun h=>(nomatch h),fun h=>absurd (by rw [h1,hg _ _ h]) (hnot i)⟩
    refine ex_to (ex_seq (Γ':=_) (ex1_if (evb_is_eq (ev_name rfl) (ev_name rfl) (ev_name rfl) (ev_name rfl) hb (ha _) (ha _)) (fun h=>nomatch h) (fun _=>ex_nil)) ex_nil) (.cons rfl (.cons rfl .nil))
  · refine wpAny_execs_cons (wpAny_mono (raise_site (Q:=fun _ _=>False) (E:=fun x s'=>cameBackBy (model pw w) A env E x s') ok st'.base.base rm.handled hfr (frames_at st' b hFo hf) (by rw [hsc]; rfl) (by rw [hsc]; rfl) st'.glob st'.blt ?_) (fun _ _ h=>h.elim) fun x s'' h=>?_)
    · intro B t tk e' s'' fly
      exact exc_cameBack fly.any fun h' a' u'=>hE B t tk e' _ s' F' _ (st'.weaken fun y b h=>by cases h) (fly.next a' u').z (fun _ h=>.inl h) (by have:=fly.gens; rw [this]; exact .rfl)
    · exact wpAny_mono h (fun _ _ h=>h) fun _ _ h=>h.elim
end Mine
namespace Mine
variable {w:World} {W:Wd} {k:Nat} {env:Env} {it l n:Nat} {vs:List Value} {m:Str→Option Value} {s₀ s:Shared} {A:Around}
abbrev badG:Str:="invalid grouping"
def genX (env:Env) (it:Nat) (lenv:List Env):GenEnd:=fun k s₀ r s=>∃ e B t tk s₁,r=.error (.ref e)∧Since env.locals it s₀ s₁∧Fly B t tk (frs (env :: lenv)) lenv s₁ s e badG
theorem gframes {lenv:List Env} {j:Nat} {s':Shared} (ge:GEnv env) (st3:GSt W env it l n vs j m s s') (hF:FramesOk s.heap lenv) (hLf:env.locals ∉ frs lenv) (hit:it=s.heap.objs.size):FramesOk s'.heap (env :: lenv):=fun e he=>by
  rcases List.mem_cons.mp he with rfl | he
  · obtain ⟨o,es,ep,ho,hd,_⟩:=st3.ns
    exact ⟨by rw [ge.sc]; decide,_,o,ge.frame,ho,fun vs q=>by rw [hd] at q; cases q⟩
  · obtain ⟨h1,L,o,hf,ho,hd⟩:=hF e he
    refine ⟨h1,L,o,hf,st3.since.keep L o (fun q=>hLf (q ▸ List.mem_filterMap.mpr ⟨e,he,hf⟩)) (fun q=>?_) ho,hd⟩
    have:=Heap.lt_size ho
    rw [q,hit] at this
    exact Nat.lt_irrefl _ this
theorem gen_raise {lenv:List Env} {Y:Protocol} (ok:Wok W) (ge:GEnv env) (ap:GAp W env it l) (hA:A.handled=none) (hfr:A.frames=some lenv) (hF:FramesOk s.heap lenv) (hLf:env.locals ∉ frs lenv)
    (hb:W.base.StaysIn s.heap) (hl:s.heap.get? l=some (listOf vs.toArray n)) (hv:∃ t,vs[0]?=some (.int 0 t)) (hn:s.heap.Ns env.locals m) (hm:m ("grouping":Str)=some (.ref l)) (hit:it=s.heap.objs.size) :
    Seg (model pw w) A (genX env it lenv) Y k s (.func (dRec 14).body env) ((model pw w).den (.func (dRec 14).body env)) [] s:=by
  refine seg_func (seg_execs_cons (seg_wrap (wpAny_Assign_Name (wpAny_Constant_none (g_store ge hn rfl fun h' hn' hs=>?_)))))
  have hsz:h'.objs.size=it:=by rw [hs.1,hit]
  have hl':h'.get? l=some (listOf vs.toArray n):=(hs.2 _ ap.lL).trans hl
  refine seg_execs_cons (seg_For (g_name ge hn' rfl ((if_neg (by decide)).trans hm) ?_) (by intro _; rfl))
  refine wpAny_pyIter_list ⟨_,hl',rfl,_,rfl⟩ fun p=>?_
  show Seg _ _ _ _ _ _ (.forLoop _ (.ref h'.objs.size) _ _ _) _ _ _
  rw [hsz]
  obtain ⟨t,hv⟩:=hv
  have st:GSt W env it l n vs 0 (fun y=>if y=("last_interval":Str) then some Value.none else m y) s { s with heap:=h'.push { cls:=.type "list_iterator",data:=.fields #[.ref l,.int 0 0] },toks:=s.toks + 1 }:=by
    refine ⟨?_,?_,hn'.push _,?_,⟨?_,?_,Nat.le_succ _,rfl,rfl⟩⟩
    · exact fun a o e=>Heap.get?_push_of_some _ (stays_same hb hs ap.bL a o e)
    · exact Heap.get?_push_of_some _ hl'
    · exact ⟨_,by rw [← hsz]; exact Heap.get?_push_size _ rfl,rfl,rfl⟩
    · exact fun a o h1 h2 e=>Heap.get?_push_of_some _ ((hs.2 a h1).trans e)
    · show _≤(h'.push _).objs.size; rw [Heap.size_push,hs.1]; omega
  refine seg_forLoop (wpAny_pyNext_list_item st.iter ⟨_,st.list,rfl,_,rfl⟩ (x:=.int 0 t) (by simpa using hv) fun h₂ hi hs₂=>?_)
  have st1:=st.next ap hi hs₂
  refine wpAny_of_eq (go_name rfl _ _) ?_
  refine wpAny_assign_Name (g_store ge st1.ns rfl fun h'' hn'' hs'=>?_)
  have st2:=st1.store ap hn'' hs'
  refine seg_execs_cons (seg_If (g_cmax ok ge st2.base st2.ns rfl (if_pos rfl) ?_))
  rw [if_neg (show ¬ ((0:Int) == 127)=true by decide)]
  refine seg_execs_nil ?_
  refine seg_execs_cons (seg_If (g_zero ge st2.ns rfl (if_pos rfl) ?_))
  have st3:=st2.tok
  rw [if_pos (show ((0:Int) == 0)=true by decide)]
  refine seg_execs_cons (seg_If (g_isnone (v:=.none) ge st3.ns rfl ((if_neg (by decide)).trans (if_pos rfl)) ?_))
  rw [if_pos (show (Value.none == Value.none)=true by decide)]
  have hFk:=gframes ge st3 hF hLf hit
  refine seg_execs_cons (seg_wrap (wpAny_mono (raise_site (Q:=fun _ _=>False) (E:=fun x s'=>Seg (model pw w) A (genX env it lenv) Y k s (.forLoop gTgt (.ref it) gBody [] env) (.raise x) (gFrames env p) s') (env:=env) (outer:=lenv) ok st3.base (by exact hA) (by show Option.map _ _=_; rw [hfr]; rfl) hFk (by rw [ge.sc]; rfl) (by rw [ge.sc]; rfl) ge.glob ge.blt ?_) (fun _ _ h=>h.elim) fun x s' h=>?_))
  · intro B tt tk e s' fly
    refine seg_leaf (.error (.ref e)) ?_
    show Seg _ A _ Y k s _ (((do
      if (← field (.ref e) 1) == Value.none then unsupported "frame.own-activation:exception-without-traceback"
      setFlight (.ref e) env.frame:Sem Unit) >>= fun _=>(.raise (.ref e):Sem Flow)).wrap _ (funH env) id id) [] s'
    rw [Sem.bind_eq_wrap',Sem.wrap_wrap]
    refine seg_wrap (exc_back fly.any fun h₅ a₅ u₅=>?_)
    have fly5:=fly.next a₅ u₅
    show Seg _ A _ Y k s _ ((leaving env (.ref e)).wrap (fun _=>.raise (.ref e)) .raise id id) [] _
    refine seg_wrap (exc_leave (s:={ s' with heap:=h₅ }) (env:=env) (outer:=lenv) (by show Option.map _ _=_; rw [hfr]; rfl) ge.frame a₅ fun h₆ a₆ u₆=>?_)
    exact seg_end (.error (.ref e)) ⟨e,B,tt,tk,_,rfl,st3.since,fly5.next a₆ u₆⟩
  · refine seg_wrap (wpAny_bind (wpAny_mono h (fun _ s₂ h₂=>wpAny_theTreesLotGoes h₂) fun _ _ h=>h.elim))
end Mine
namespace Mine
variable {w:World} {W:Wd} {k:Nat} {env:Env} {it l n:Nat} {vs:List Value} {m:Str→Option Value} {s₀ s:Shared} {A:Around}
theorem sub_ve_stop:isSubtype (.type "ValueError") (.type "StopIteration")=pure false:=by rw [isSubtype_type]; kernel_rfl
theorem AnyW.typeIs {B:Heap} {l:List Env} {e t:Nat} {s:Shared} (x:AnyW B l e t s.heap):s.TypeIs (.ref e) "ValueError":=by
  obtain ⟨oe,vs,T,he,hc,_⟩:=x.tracedback
  exact ⟨oe,he,hc⟩
section
variable {E:Value→Shared→Prop} {Q:Value→Shared→Prop} {lenv:List Env}
theorem nextOf_gen_raise {a g k:Nat} {c:Code} {Y:Protocol} (hh:A.handled=none) (hl:s.heap.NoLimit) (hroom:A.depth < recursionLimit) (hg:s.heap.IsGen a g) (hgs:s.gens[g]?=some (.fresh c))
    (hgo:(GenState.fresh c).Goes (model pw w) A.in1 (genX env it lenv) Y k (.send .none) (s.setGen g .running)) (hY:∀ v s₁ κ,¬ Y (k - 1) (s.setGen g .running) v s₁ κ)
    (haL:a≠env.locals) (hai:a≠it) (haf:a ∉ frs (env :: lenv))
    (hE:∀ e s' B t tk s₁,Since env.locals it (s.setGen g .running) s₁→Fly B t tk (frs (env :: lenv)) lenv s₁ s' e badG→E (.ref e) (s'.setGen g .finished)) :
    wpAny (model pw w) A (Builtin.SmallTypes.nextOf (.ref a)) Q E s:=by
  unfold Builtin.SmallTypes.nextOf
  refine wpAny_bind (wpAny_callSpecial?_slot (name:=Str.ofString "__next__") hg.typeIs slot_gen_next
    (wpAny_call_entry slot_gen_next hg.typeIs entry_gen_next ?_ (args_gen_next _)))
  show wpAny _ _ (Builtin.Generator.genWake (.ref a) (.send .none)) _ _ s
  unfold Builtin.Generator.genWake
  refine wpAny_bind (wpAny_holding (wpAny_genNumber hg (wpAny_bind (wpAny_genState hgs ?_))))
  refine wpAny_bind (wpAny_roomToWake hl hroom ?_)
  show wpAny _ _ (.resume g (.send .none) [] _) _ _ s
  refine wpAny_resumeQ hgs hgo (fun x s₁ hx=>?_) (fun v s₁ gs' hb hv=>absurd hv (hY _ _ _))
  obtain ⟨e,B,t,tk,s₂,rfl,si,fly⟩:=hx
  show wpAny _ A.in1 (Builtin.Generator.genLeft (.ref a) (.ref e)) _ _ _
  obtain ⟨o,nm,qn,ho,hcl,hdt,hsl⟩:=hg
  have ho':s₁.heap.get? a=some o:=fly.any.1 _ _ (fly.keep a o haf (si.keep a o haL hai ho))
  unfold Builtin.Generator.genLeft Builtin.Generator.madeByALambda
  refine wpAny_bind (wpAny_bind (wpAny_load (o:=o) ho' ?_))
  refine wpAny_pure ?_
  refine wpAny_bind (wpAny_isInstance (T:="ValueError") (U:="StopIteration") (b:=false) (AnyW.typeIs (s:=s₁.setGen g .finished) fly.any) sub_ve_stop ?_)
  rw [hdt]
  simp only [Bool.and_false,Bool.false_eq_true,if_false]
  unfold Builtin.Generator.genEscaped
  refine wpAny_bind (wpAny_isInstance (T:="ValueError") (U:="StopIteration") (b:=false) (AnyW.typeIs (s:=s₁.setGen g .finished) fly.any) sub_ve_stop ?_)
  simp only [Bool.not_false,if_true]
  exact wpAny_bind (wpAny_throw (hE e s₁ B t tk s₂ si fly))
end
end Mine
namespace Mine
variable {w:World} {W:Wd} {k:Nat} {env:Env} {it l n:Nat} {vs:List Value} {m:Str→Option Value} {s₀ s:Shared} {A:Around}
variable {E:Value→Shared→Prop} {lenv:List Env} {z TI TO r ga g:Nat} {x left:Int} {a b:Value} {c:Code}
theorem zipg_raise {Q:Fin→Shared→Prop} (D:ZAp z TI TO r ga env.locals it) (rm:Room 2 A) (hl0:s.heap.NoLimit) (hcz:cStatics≠z) (hcT:cStatics≠TO) (hcr:cStatics≠r) (hz:IsZip s.heap z TI TO .none) (hTI:IsPair s.heap TI (.ref r) (.ref ga)) (hTO:IsPair s.heap TO a b)
    (hr:IsRangeIter s.heap r x left 1) (hleft:0 < left) (hg:s.heap.IsGen ga g) (hgs:s.gens[g]?=some (.fresh c))
    (hgo:∀ s',(∀ c o,c≠z→c≠TO→c≠r→s.heap.get? c=some o→s'.heap.get? c=some o)→s'.heap.objs.size=s.heap.objs.size→(GenState.fresh c).Goes (model pw w) A.in1.in1 (genX env it lenv) (fun _ _ _ _ _=>False) k (.send .none) s')
    (hXf:∀ a ∈ frs lenv,a≠z∧a≠TO∧a≠r∧a≠env.locals∧a≠it∧a≠ga) (hfe:env.frame=some env.locals)
    (hE:∀ e s' B t tk,FlyZ B t tk (z :: TO :: r :: env.locals :: it :: frs (env :: lenv)) lenv s s' e badG→s'.gens=(s.setGen g .finished).gens→E (.ref e) s') :
    wpAny (model pw w) A.in1 (Builtin.«zip.__next__» ⟨[.ref z],[]⟩) Q E s:=by
  show wpAny _ _ (field (.ref z) 2 >>= _) _ _ _
  refine wpAny_bind (wpAny_field hz rfl (x:=.bool false) rfl ?_)
  show wpAny _ _ (field (.ref z) 3 >>= _) _ _ _
  refine wpAny_bind (wpAny_field hz rfl (x:=.ref TI) rfl ?_)
  refine wpAny_bind (wpAny_seqItems hTI rfl ?_)
  show wpAny _ _ (Builtin.SmallTypes.ownedTupleIsFree (.ref z) >>= _) _ _ _
  refine wpAny_bind ?_
  unfold Builtin.SmallTypes.ownedTupleIsFree
  refine wpAny_bind (wpAny_field hz rfl (x:=.none) rfl (wpAny_pure ?_))
  simp only [if_true]
  refine wpAny_bind (wpAny_rule ?_)
  refine wpAny_bind (wpAny_field hz rfl (x:=.ref TO) rfl ?_)
  refine wpAny_bind (wpAny_setField_rec hz (by simp) fun h₁ hz₁ hs₁=>?_)
  replace hz₁:IsZip h₁ z TI TO .ellipsis:=hz₁
  refine wpAny_bind ?_
  simp only [List.zipIdx_cons,List.zipIdx_nil,List.forIn_cons,List.forIn_nil]
  refine wpAny_bind (wpAny_bind (wpAny_onRaise ?_))
  show wpAny _ _ (Builtin.SmallTypes.nextOf (.ref r) >>= _) _ _ _
  refine wpAny_bind (nextOf_range_item (x:=x) (left:=left) (step:=1) ((hs₁.2 _ D.rz).trans hr) hleft fun h₂ hr₂ hs₂=>wpAny_pure ?_)
  have hTO₂:IsPair h₂ TO a b:=(hs₂.2 _ D.rTO.symm).trans ((hs₁.2 _ D.TOz).trans hTO)
  refine wpAny_bind (wpAny_seqItems hTO₂ rfl ?_)
  refine wpAny_bind (wpAny_updateSeq_pair hTO₂ fun h₃ hTO₃ hs₃=>?_)
  refine wpAny_bind (wpAny_letGo (wpAny_pure ?_))
  have k₃:∀ c o,c≠z→c≠TO→c≠r→s.heap.get? c=some o→h₃.get? c=some o:=fun c o c1 c2 c3 e=>(hs₃.2 _ c2).trans ((hs₂.2 _ c3).trans ((hs₁.2 _ c1).trans e))
  have z₃:h₃.objs.size=s.heap.objs.size:=by rw [hs₃.1,hs₂.1,hs₁.1]
  have hz₃:IsZip h₃ z TI TO .ellipsis:=(hs₃.2 _ D.TOz.symm).trans ((hs₂.2 _ D.rz.symm).trans hz₁)
  refine wpAny_bind (wpAny_bind (wpAny_onRaise ?_))
  show wpAny _ _ (Builtin.SmallTypes.nextOf (.ref ga) >>= _) _ _ _
  have hg₃:h₃.IsGen ga g:=let ⟨o,nm,qn,ho,y⟩:=hg; ⟨o,nm,qn,k₃ _ _ D.gz D.gTO D.gr ho,y⟩
  have hl₃:h₃.NoLimit:=let ⟨mc,hns,hnn⟩:=hl0; ⟨mc,hns.at' fun o e=>k₃ _ _ hcz hcT hcr e,hnn⟩
  have hfc:frs (env :: lenv)=env.locals :: frs lenv:=frs_cons hfe
  have hgf:ga ∉ frs (env :: lenv):=by
    rw [hfc]
    intro hm
    rcases List.mem_cons.mp hm with h | h
    · exact D.gL h
    · exact (hXf ga h).2.2.2.2.2 rfl
  have hzf:z ∉ frs (env :: lenv):=by
    rw [hfc]
    intro hm
    rcases List.mem_cons.mp hm with h | h
    · exact D.Lz h.symm
    · exact (hXf z h).1 rfl
  refine wpAny_bind (nextOf_gen_raise (A:=A.in1) rm.handled hl₃ rm.depth hg₃ hgs (hgo _ k₃ z₃) (fun _ _ _ h=>h) D.gL D.gi hgf fun e s' B t tk s₁ si fly=>?_)
  have hzs:s₁.heap.get? z=some _:=si.keep _ _ D.Lz.symm D.iz.symm hz₃
  have hzB:B.get? z=some _:=fly.keep z _ hzf hzs
  have hz':IsZip s'.heap z TI TO .ellipsis:=fly.any.1 _ _ hzB
  have fz:FlyZ B t tk (TO :: r :: z :: env.locals :: it :: frs (env :: lenv)) lenv s (s'.setGen g .finished) e badG:=by
    refine ⟨fly.any,fly.tup,fly.tn,?_,fly.tk1,fun a o hn ho=>?_,fun a ha o ho hd=>?_,fly.os.trans si.os⟩
    · have:=si.toks
      exact Nat.le_trans (Nat.le_of_succ_le this) fly.tk0
    · simp only [List.mem_cons,not_or] at hn
      exact fly.keep a o hn.2.2.2.2.2 (si.keep a o hn.2.2.2.1 hn.2.2.2.2.1 (k₃ a o hn.2.2.1 hn.1 hn.2.1 ho))
    · obtain ⟨c1,c2,c3,c4,c5,_⟩:=hXf a ha
      exact fly.upto a o (si.keep a o c4 c5 (k₃ a o c1 c2 c3 ho)) hd
  refine wpAny_setField_rec hz' (by simp) fun h₅ _ hs₅=>?_
  have fz2:=fz.turn (h':=h₅) hzB hs₅ fun hm=>(hXf z hm).1 rfl
  refine hE e _ _ t tk ⟨fz2.any,fz2.tup,fz2.tn,fz2.tk0,fz2.tk1,fun a o hn ho=>fz2.keep a o (fun hm=>hn ?_) ho,fz2.upto,fz2.os⟩ ?_
  · simp only [List.mem_cons] at hm ⊢
    rcases hm with h | h | h | h | h | h | h
    · exact .inl h
    · exact .inr (.inl h)
    · exact .inr (.inr (.inl h))
    · exact .inl h
    · exact .inr (.inr (.inr (.inl h)))
    · exact .inr (.inr (.inr (.inr (.inl h))))
    · exact .inr (.inr (.inr (.inr (.inr h))))
  · show (s'.setGen g .finished).gens=_
    unfold Shared.setGen
    rw [fly.gens,si.gens]
    simp [Shared.setGen]
theorem pyNext_zip_raise {f0:Value} {Q:Option Value→Shared→Prop} {Ee:Value→Shared→Prop} (hz:IsZip s.heap z TI TO f0)
    (h:wpAny (model pw w) A.in1 (Builtin.«zip.__next__» ⟨[.ref z],[]⟩) (fun _ _=>False) Ee s)
    (hS:∀ e s',Ee e s'→∃ a,e=.ref a∧s'.TypeIs (.ref a) "ValueError"∧E e s'):wpAny (model pw w) A (pyNext (.ref z)) Q E s:=by
  have hT:s.TypeIs (.ref z) "zip":=⟨_,hz,rfl⟩
  unfold pyNext
  refine wpAny_bind (wpAny_attempt (wpAny_callSpecial?_slot (name:=Str.ofString "__next__") hT F.slot_zip_next
    (wpAny_call_entry F.slot_zip_next hT F.entry_zip_next (wpAny_mono h (fun fin s' hf=>hf.elim) fun e s' he=>?_) (F.args_zip_next_1 _))))
  obtain ⟨a,rfl,ht,hq⟩:=hS e s' he
  refine wpAny_bind (wpAny_isInstance (T:="ValueError") (U:="StopIteration") (b:=false) ht sub_ve_stop ?_)
  exact wpAny_throw hq
end Mine
namespace Mine
variable {w:World} {W:Wd} {k:Nat}
theorem rs_sizes (ok:Wok W) {r:List Int} {most:Nat} (hmm:most≤1000) (hm0:0 < most) {a:Nat} (fn29:FnOk W (dRec 29) a):Raises w W (k + 5) (.ref a) [.dat (.list (((0:Int) :: r).map Dat.int)),.dat (.int (most:Int))] badG:=by
  refine raises_def fn29 ["sizes","most"] (fun pm code doc vs h=>by match vs,h with | [u,v],_=>rfl) (by decide) (by decide) rfl ?_
  intro s₀ F₀ env s F A outer Q₀ E hsc hf b₀ st rm hfr hFo hoff hE
  refine wpAny_execs_cons (wpAny_Return_some ?_)
  generalize hnsE:((0:Int) :: r)=ns at st ⊢
  rw [eval_ListComp]
  have okS:=scOk_spec (sc:=(dRec 29).scope) (scope:=⟨.function,[(".0",.local),("k",.local),("size",.local)],false,false,[]⟩) (by decide)
  have hclos:=closure_of (scope:=⟨.function,[(".0",.local),("k",.local),("size",.local)],false,false,[]⟩) (env:=env) (fun x hx hf=>by simp at hx; rcases hx with rfl | rfl | rfl <;> cases hf)
  refine wpAny_comprehension_free rfl (by intro _; rfl) hclos okS.kind okS.loc ?_
  have e:∀ {y:Str} {p pos:Pos} {es:List Expr},eval (.Call (.Name y p) es [] pos) env=(do callWith pos (← eval (.Name y p) env) [] (backTo pos (starEach es env)) []):=rfl
  show wpAny (model pw w) A (eval (.Call (.Name ("zip":Str) _) [_,_] [] _) env) _ _ s
  rw [e]
  have hBz:BName W (dRec 29).scope ("zip":Str) (.type "zip"):=bname ok (by decide) rfl (by decide +kernel)
  have hBr:BName W (dRec 29).scope ("range":Str) (.type "range"):=bname ok (by decide) rfl (by decide +kernel)
  refine wpAny_bind (name_builtin st (hsc ▸ hBz.kind) hBz.glob hBz.boot hBz.nn ?_ hBz.nd)
  refine PyProof.Rows.callWith_type rfl (evalArgs_plain (spliced_cons ?_))
  refine builtin_ctx hBr.kind hBr.glob hBr.boot hBr.nn hBr.call (evl_cons (ev_name rfl) evl_nil) (by intro _; rfl) hBr.nd hsc st rm fun vs s₁ F₁ g₁ hv=>?_
  cases hv with | cons h1 hr =>
  cases hr
  cases h1 with | int hm =>
  rename_i t₀
  refine call_range_1 ?_
  have b₁:=(st.step g₁).base
  let oR:Obj:={ cls:=.type "range",data:=.fields #[.int 0 s₁.toks,.int (most:Int) t₀,.int 1 (s₁.toks + 1)] }
  have g₂:Grow W s₁ { s₁ with heap:=s₁.heap.push oR,toks:=s₁.toks + 1 + 1 } F₁ (F₁.ob s₁.heap.objs.size oR):=Grow.push b₁ oR (by omega) rfl
  have st₂:=(st.step g₁).step g₂
  refine spliced_cons ?_
  obtain ⟨a,fn⟩:=ok.fns 14 (by decide)
  obtain ⟨o,pm,code,doc,ho,hd,_⟩:=id fn.obj
  refine fn_call (xs:=[.dat (.list (ns.map Dat.int))]) (ev_glob rfl fn.glob) ho hd (evl_cons (ev_name rfl) evl_nil) hsc st₂ rm (by intro _; rfl) fun vs s₃ F₃ g₃ hv=>?_
  cases hv with | cons h1 hr =>
  cases hr
  cases h1 with | list hl hvs =>
  rename_i l vs n
  have st₃:=st₂.step g₃
  refine call_gen (k:=k + 3) fn st₃.base (rm.mono (by omega)) fun genv ga oL nm qn s₄ gm=>?_
  refine spliced_nil ?_
  show wpAny _ A (call (.type "zip") [.ref s₁.heap.objs.size,.ref ga]) _ _ s₄
  have hsm:Builtin.Range.small 0 (most:Int) 1=true:=small_one (by decide) (by decide) (by omega) (by omega)
  have hgen:s₄.heap.IsGen ga s₃.gens.size:=⟨_,_,_,gm.gen,rfl,rfl,rfl⟩
  have hR₄:IsRange s₄.heap s₁.heap.objs.size 0 (most:Int) 1 s₁.toks t₀ (s₁.toks + 1):=gm.keep _ _ (st₃.base.has _ (g₃.sub.obs _ (.head _)))
  refine call_zip_rg hR₄ hsm hgen fun h₅ hz hTI hTO hri hz5 hk5=>?_
  refine wpAny_pyIter_zip hz ?_
  have hacc:∀ (s:Shared) (Q:Value→Shared→Prop),Q (.ref s.heap.objs.size) { s with heap:=s.heap.push (listOf ([]:List Value).toArray 0) }→wpAny (model pw w) A (newList []) Q E s:=fun s Q h=>wpAny_newObj_type h
  refine hacc _ _ ?_
  refine wpAny_newFunctionEnv okS.cell (by intro y hy; simp at hy) (fun h₁ hns hsb=>?_) okS.kind
  dsimp only at hns hsb ⊢
  rw [show (h₅.push (listOf ([]:List Value).toArray 0)).objs.size=h₅.objs.size + 1 by simp] at hns hsb ⊢
  have e1:relabel ⟨.function,[(".0",.local),("k",.local),("size",.local)],false,false,[]⟩ env=relab (dRec 29).scope ⟨.function,[(".0",.local),("k",.local),("size",.local)],false,false,[]⟩:=by rw [relab_eq,hsc]
  rw [e1]
  let scope:Scope:=⟨.function,[(".0",.local),("k",.local),("size",.local)],false,false,[]⟩
  let cenv:Env:={ newEnv scope (h₅.objs.size + 1) env.globals (clOf env.cells scope.names) env.qual none .none (some env) env.builtins with scope:=relab (dRec 29).scope scope }
  let oG:Obj:={ cls:=.type "generator",data:=.fields #[.int s₃.gens.size 0,nm,qn],slots:=#[] }
  let s₅:Shared:={ s₄ with heap:=h₅ }
  have keep45:∀ c o,s₃.heap.get? c=some o→h₅.get? c=some o:=fun c o e=>hk5 _ _ (gm.keep _ _ e)
  have sz5:s₃.heap.objs.size≤h₅.objs.size:=by rw [hz5]; have:=gm.size; omega
  have g₄:Grow W s₃ s₅ F₃ ⟨[(ga,oG)] ++ F₃.obs,F₃.tks⟩:=Grow.of_keeps [(ga,oG)] st₃.base keep45 (fun p hp=>by cases List.mem_singleton.mp hp; exact ⟨hk5 _ _ gm.gen,gm.gnew⟩) sz5 gm.toks gm.os (by show GensKeep _ s₄.gens; rw [gm.gens]; exact gens_push rfl)
  have off3:∀ a,s₃.heap.objs.size≤a→a≠ga→∀ q ∈ ([(ga,oG)] ++ F₃.obs:Led),q.1≠a:=fun a ha hg q hq=>by
    rcases List.mem_append.mp hq with hq | hq
    · cases List.mem_singleton.mp hq; exact Ne.symm hg
    · exact fun e=>absurd (Heap.lt_size (st₃.base.has q hq)) (Nat.not_lt.mpr (e ▸ ha))
  have galt:ga < s₄.heap.objs.size:=Heap.lt_size gm.gen
  have Llt:@LT.lt Nat _ genv.locals s₄.heap.objs.size:=Heap.lt_size gm.L
  have sz4:=gm.size
  have hN:∀ p ∈ zLed (s₄.heap.objs.size + 3) (s₄.heap.objs.size + 1) (s₄.heap.objs.size + 2) s₄.heap.objs.size ga .none .none 0 most ++ [(genv.locals,oL)],h₅.get? p.1=some p.2∧s₃.heap.objs.size≤p.1∧∀ q ∈ ([(ga,oG)] ++ F₃.obs:Led),q.1≠p.1:=fun p hp=>by
    rcases List.mem_append.mp hp with hp | hp
    · simp only [zLed,List.mem_cons,List.not_mem_nil,or_false] at hp
      rcases hp with rfl | rfl | rfl | rfl
      · exact ⟨hz,by show _≤s₄.heap.objs.size + 3; omega,off3 _ (by show _≤s₄.heap.objs.size + 3; omega) (by show s₄.heap.objs.size + 3≠ga; omega)⟩
      · exact ⟨hTO,by show _≤s₄.heap.objs.size + 2; omega,off3 _ (by show _≤s₄.heap.objs.size + 2; omega) (by show s₄.heap.objs.size + 2≠ga; omega)⟩
      · refine ⟨?_,by show _≤s₄.heap.objs.size; omega,off3 _ (by show _≤s₄.heap.objs.size; omega) (by show s₄.heap.objs.size≠ga; omega)⟩
        have hri':=hri
        rw [rangeSize_nat] at hri'
        have e2:(((((most:Int) - 0).toNat:Nat):Int))=(most:Int) - ((0:Nat):Int):=by omega
        rw [e2] at hri'
        exact hri'
      · exact ⟨hTI,by show _≤s₄.heap.objs.size + 1; omega,off3 _ (by show _≤s₄.heap.objs.size + 1; omega) (by show s₄.heap.objs.size + 1≠ga; omega)⟩
    · cases List.mem_singleton.mp hp
      exact ⟨hk5 _ _ gm.L,gm.Lnew,off3 _ gm.Lnew (Ne.symm gm.gL)⟩
  have st₅:=comp_frame (P:=[]) (N:=zLed (s₄.heap.objs.size + 3) (s₄.heap.objs.size + 1) (s₄.heap.objs.size + 2) s₄.heap.objs.size ga .none .none 0 most ++ [(genv.locals,oL)]) (s₂:=s₅) (o:=listOf ([]:List Value).toArray 0) (t:=s₄.toks + ([]:List (Str × Value)).length) st₃ hsc okS g₄ hN rfl cenv hns hsb rfl rfl rfl rfl rfl (by simp [s₅])
  have D5:Apart5 (s₄.heap.objs.size + 3) (s₄.heap.objs.size + 1) (s₄.heap.objs.size + 2) s₄.heap.objs.size genv.locals:=by
    have hn:∀ {a b:Nat},a≠b→a≠b:=fun h=>h
    constructor <;> (refine hn ?_; omega)
  suffices loop:codeAny (model pw w) A (.compLoop (.ListComp _ [⟨_,_,[],0⟩] _ _) 0 (.ref (s₄.heap.objs.size + 3)) (.ref h₅.objs.size) cenv) (compPost (model pw w) A E none _ (.ref h₅.objs.size) cenv.locals) { s₅ with heap:=h₁,toks:=s₄.toks + ([]:List (Str × Value)).length } from
    codeAny_compStart_list loop (wpAny_pyIter_zip (f0:=.none) (st₅.prv _ (.head _)).1 loop)
  have gt3:∀ {a:Nat} {o:Obj},s₃.heap.get? a=some o→@LT.lt Nat _ a s₃.heap.objs.size:=fun e=>Heap.lt_size e
  have hn:∀ {a b:Nat},a≠b→a≠b:=fun h=>h
  have Ln:@LE.le Nat _ s₃.heap.objs.size genv.locals:=gm.Lnew
  have gn:@LE.le Nat _ s₃.heap.objs.size ga:=gm.gnew
  have galt':@LT.lt Nat _ ga s₄.heap.objs.size:=galt
  have gLne:@Ne Nat ga genv.locals:=gm.gL
  have hz1:h₁.objs.size=h₅.objs.size + 2:=by rw [hsb.1]; simp
  have keep36:∀ c o,s₃.heap.get? c=some o→h₁.get? c=some o:=fun c o e=>by
    have h1:=gt3 e
    refine (hsb.2 _ ?_).trans (Heap.get?_push_of_some _ (Heap.get?_push_of_some _ (keep45 c o e)))
    refine hn ?_
    omega
  have frlt:∀ a ∈ frs (env :: outer),@LT.lt Nat _ a s₃.heap.objs.size:=fun a ha=>by
    obtain ⟨o,ho,_⟩:=(frames_at st₃ b₀ hFo hf).mem ha
    exact gt3 ho
  have hbs:W.base.objs.size≤s₃.heap.objs.size:=st₃.base.size
  have bn:∀ a,s₃.heap.objs.size≤a→W.base.get? a=none:=fun a ha=>get_new_none (Nat.le_trans hbs ha)
  have llt:=gt3 (st₃.base.has _ hl)
  refine codeAny_of_tree ?_
  show wpAny _ A ((compTurn _ 0 (.ref (s₄.heap.objs.size + 3)) (.ref h₅.objs.size) cenv).onRaise (fun x=>do noteFrame x cenv; theTreesLotGoes x)) _ _ _
  refine wpAny_noted ?_
  show wpAny _ A (standAt _ >>= fun _=>pyNext (.ref (s₄.heap.objs.size + 3)) >>= _) _ _ _
  refine wpAny_bind (wpAny_standAt ?_)
  have hz₆:IsZip h₁ (s₄.heap.objs.size + 3) (s₄.heap.objs.size + 1) (s₄.heap.objs.size + 2) .none:=(st₅.prv _ (.head _)).1
  have hTO₆:IsPair h₁ (s₄.heap.objs.size + 2) .none .none:=(st₅.prv _ (.tail _ (.head _))).1
  have hr₆:IsRangeIter h₁ s₄.heap.objs.size ((0:Nat):Int) ((most:Int) - ((0:Nat):Int)) 1:=(st₅.prv _ (.tail _ (.tail _ (.head _)))).1
  have hTI₆:IsPair h₁ (s₄.heap.objs.size + 1) (.ref s₄.heap.objs.size) (.ref ga):=(st₅.prv _ (.tail _ (.tail _ (.tail _ (.head _))))).1
  have hga₆:h₁.IsGen ga s₃.gens.size:=⟨_,_,_,st₅.base.has _ (.head _),rfl,rfl,rfl⟩
  have hNL:h₁.NoLimit:=W.nolimit.keeps st₅.base.base
  have cne:∀ a,s₃.heap.objs.size≤a→cStatics≠a:=fun a ha e=>by
    obtain ⟨mc,hcs,_⟩:=W.nolimit
    exact absurd (e ▸ hcs.lt) (Nat.not_lt.mpr (Nat.le_trans hbs ha))
  have ZA:ZAp (s₄.heap.objs.size + 3) (s₄.heap.objs.size + 1) (s₄.heap.objs.size + 2) s₄.heap.objs.size ga genv.locals h₁.objs.size:=by
    constructor <;> (refine hn ?_; omega)
  obtain ⟨vv,hvv1,hvv2⟩:=hvs.get (k:=0) (d:=.int 0) (by rw [← hnsE]; rfl)
  have hvv:∃ t,vs[0]?=some (.int 0 t):=by cases hvv2 with | int _=>exact ⟨_,hvv1⟩
  obtain ⟨mg,hmg1,hmg2⟩:=gm.ns
  refine wpAny_bind (pyNext_zip_raise (Ee:=fun e s'=>∃ a,e=.ref a∧s'.TypeIs (.ref a) "ValueError"∧_) hz₆ (zipg_raise (k:=0) (env:=genv) (lenv:=env :: outer) (it:=h₁.objs.size) (s:={ s₅ with heap:=h₁,toks:=s₄.toks + ([]:List (Str × Value)).length }) ZA (rm.mono (by omega)) hNL (cne _ (by omega)) (cne _ (by omega)) (cne _ (by omega)) hz₆ hTI₆ hTO₆ hr₆ (by omega) hga₆ (c:=.func (dRec 14).body genv) (by show s₄.gens[s₃.gens.size]?=_; rw [gm.gens]; exact Array.getElem?_push_size ..) (fun s' hk hzz=>⟨rfl,?_⟩) (fun a ha=>?_) gm.ge.frame (fun e s' B t tk fly hgn=>⟨e,rfl,fly.any.typeIs,?_⟩)) fun e s' h=>h)
  · have kk:∀ c o,s₃.heap.get? c=some o→s'.heap.get? c=some o:=fun c o e=>by
      have h1:=gt3 e
      refine hk c o ?_ ?_ ?_ (keep36 c o e) <;> (refine hn ?_; omega)
    have kL:∀ o,s₄.heap.get? genv.locals=some o→s'.heap.get? genv.locals=some o:=fun o e=>by
      refine hk _ o ?_ ?_ ?_ ((hsb.2 _ ?_).trans (Heap.get?_push_of_some _ (Heap.get?_push_of_some _ (hk5 _ _ e)))) <;> (refine hn ?_; omega)
    refine gen_raise (A:=A.in1.in1) (m:=mg) (n:=n) ok gm.ge ⟨bn _ Ln,bn _ ?_,?_,?_,?_⟩ rm.handled hfr ?_ (fun hm=>?_) (fun a o e=>kk a o (st₃.base.base a o e)) (kk _ _ (st₃.base.has _ hl)) hvv (hmg1.at' fun o e=>kL o e) hmg2 hzz.symm
    · omega
    · refine hn ?_; omega
    · refine hn ?_; omega
    · refine hn ?_; omega
    · intro e' he'
      obtain ⟨h1,L,o,hf',ho,hd'⟩:=frames_at st₃ b₀ hFo hf e' he'
      exact ⟨h1,L,o,hf',kk _ _ ho,hd'⟩
    · have:=frlt _ hm; omega
  · have:=frlt a ha
    refine ⟨?_,?_,?_,?_,?_,?_⟩ <;> (refine hn ?_; omega)
  · have hfg:frs (genv :: env :: outer)=genv.locals :: frs (env :: outer):=frs_cons gm.ge.frame
    obtain ⟨mC,oC,esC,epC,hoC,hC2⟩:=id st₅.ns
    have hoC':h₁.get? (h₅.objs.size + 1)=some oC:=hoC
    have hCX:h₅.objs.size + 1 ∉ (s₄.heap.objs.size + 3) :: (s₄.heap.objs.size + 2) :: s₄.heap.objs.size :: genv.locals :: h₁.objs.size :: frs (genv :: env :: outer):=fun hm=>by
      rw [hfg] at hm
      simp only [List.mem_cons] at hm
      rcases hm with h | h | h | h | h | h | h
      · omega
      · omega
      · omega
      · have h':@Eq Nat (h₅.objs.size + 1) genv.locals:=h; omega
      · omega
      · have h':@Eq Nat (h₅.objs.size + 1) genv.locals:=h; omega
      · have:=frlt _ h; omega
    have hCB:B.get? (h₅.objs.size + 1)=some oC:=fly.keep _ _ hCX hoC'
    refine exc_note (env₀:=env) (outer:=outer) hfr hf rfl fly.any fun h' a' u'=>?_
    have fly1:=fly.next a' u'
    refine ⟨mC,⟨oC,esC,epC,a'.1 _ _ hCB,hC2⟩,fun h'' hs'' cenv' hce=>?_⟩
    have fly2:=fly1.turn (h':=h'') hCB hs'' (fun hm=>by have:=frlt _ hm; omega)
    refine exc_passOn (l:=env :: outer) (s:={ s' with heap:=h'' }) fly2.any fun h₇ a₇ u₇=>?_
    refine hE _ t tk e _ s₃ F₃ _ (st₃.weaken fun y b h=>by cases h) ((fly2.next a₇ u₇).before keep36 (by show _≤s₄.toks + _; have:=gm.toks; simp; exact this) gm.os) (fun a ha=>?_) ?_
    · have new:∀ a,s₃.heap.objs.size≤a→s₀.heap.objs.size≤a∧∀ p ∈ F₃.obs,p.1≠a:=fun a h=>⟨Nat.le_trans st₃.grow.size h,fun p hp e=>absurd (Heap.lt_size (st₃.base.has p hp)) (Nat.not_lt.mpr (e ▸ h))⟩
      rw [hfg] at ha
      simp only [List.mem_cons] at ha
      rcases ha with rfl | rfl | rfl | rfl | rfl | rfl | rfl | h
      · exact .inr (new _ (by omega))
      · exact .inr (new _ (by omega))
      · exact .inr (new _ (by omega))
      · exact .inr (new _ (by omega))
      · exact .inr (new _ Ln)
      · exact .inr (new _ (by omega))
      · exact .inr (new _ Ln)
      · exact .inl h
    · show GensKeep s₃.gens s'.gens
      refine gens_keep_set (g:=s₃.gens.size) (gs':=.finished) (s:={ s₅ with heap:=h₁,toks:=s₄.toks + ([]:List (Str × Value)).length }) ?_ (Nat.le_refl _) rfl hgn
      show GensKeep _ s₄.gens
      rw [gm.gens]; exact gens_push rfl
end Mine
namespace Mine
variable {w:World} {W:Wd} {k:Nat}
def CallsX (w:World) (W:Wd) (k:Nat) (f:Value) (xs:List V) (msg:Str):Prop :=
  ∀ s F vs,Base W s F→VsIs pw w F vs xs→∀ (A:Around) (l:List Env) (Q:Value→Shared→Prop) (E:Value→Shared→Prop),Room k A→A.frames=some l→FramesOk s.heap l→(∀ p ∈ F.obs,p.1 ∉ frs l)→(∀ a ∈ frs l,W.base.get? a=none) →
    (∀ v s' F',GrowX W (frs l) s s' F F'→(∀ a ∈ frs l,∀ o,s.heap.get? a=some o→∃ sl,s'.heap.get? a=some { o with slots:=sl })→Rep F' v (.str msg)→Q v s')→wpAny (model pw w) A (call f vs) Q E s
section
variable {prog:Program} {sc:Scope} {fn:Bool} {Γ:Ctx'}
theorem ex1_try {body:List Stmt} {h₀:ExceptHandler} {hs:List ExceptHandler} {pos:Pos} {x:V} (h:Ex prog w W k sc fn Γ body (.ret x)):Ex1 prog w W k sc fn Γ (.Try body (h₀ :: hs) [] [] pos) (.ret x) :=
  fun fr P s F hsc st A Q E rm q=>wpAny_Try_except (h fr P s F hsc st A _ _ rm fun fl s' F' ho hF=>by
    obtain ⟨v,rfl,h1⟩:=ho
    exact q _ s' F' ⟨v,rfl,h1⟩ hF)
end
theorem sp_asked {b:Nat} {o:Obj} {fd:FuncData} {x y r:V} (ho:W.base.get? b=some o) (hd:o.data=.func fd) (hc:Calls pw w W k (.ref b) [x,y] r):Spec w W (k + 1) 31 [.ref b,x,y] r :=
  sp_of ["deed","one","two"] (fun pm code doc vs h=>by match vs,h with | [u,v,z],_=>rfl) (by decide) (by decide) rfl
    (ex_stop (ex1_try (ex_stop (ex1_return (ev_call (ev_name rfl) ho hd (evl_cons (ev_name rfl) (evl_cons (ev_name rfl) evl_nil)) hc)))))
theorem sub_ve_base:isSubtype (.type "ValueError") (.type "BaseException")=pure true:=by rw [isSubtype_type]; kernel_rfl
theorem sub_ve_self:isSubtype (.type "ValueError") (.type "ValueError")=pure true:=by rw [isSubtype_type]; kernel_rfl
theorem sub_ve_tuple:isSubtype (.type ((Manifest.find? "ValueError").elim "type" fun x=>x.metatype)) (.type "tuple")=pure false:=by
  have e:((Manifest.find? "ValueError").elim "type" fun x=>x.metatype)="type":=by decide +kernel
  rw [e]; exact tc_notTuple
theorem cx_asked (ok:Wok W) {b a:Nat} {o:Obj} {fd:FuncData} {x y:V} {msg:Str} (ho:W.base.get? b=some o) (hd:o.data=.func fd) (hr:Raises w W k (.ref b) [x,y] msg) (fn:FnOk W (dRec 31) a):CallsX w W (k + 1) (.ref a) [.ref b,x,y] msg:=by
  intro s F vs b₀ hv A outer Q E rm hfr hFo hoff hfb q
  obtain ⟨o',pm,code,doc,ho',hd',hc⟩:=fn.obj
  refine any_hz ?_
  have vl:=hv.length
  have hb:∀ pm code doc (vs:List Value),vs.length=3→bindArgs (docDef (dRec 31).name (dRec 31).params (dRec 31).body (dRec 31).scope pm code doc) ⟨vs,[]⟩=pure ((["deed","one","two"]:List Str).zip vs):=fun pm code doc vs h=>by match vs,h with | [u,v,z],_=>rfl
  refine wpAny_call ?_
  refine codeAny_call_function (fd:=docDef (dRec 31).name (dRec 31).params (dRec 31).body (dRec 31).scope pm code doc) rm.depth (b₀.base _ _ ho') hd' rfl rfl rfl (hc.keeps b₀.base) ?_
  rw [hb _ _ _ _ vl]
  have hbm:((["deed","one","two"]:List Str).zip vs).map (·.1)=(["deed","one","two"]:List Str):=by
    rw [List.map_fst_zip]; simp at vl ⊢; omega
  have key:∀ x ∈ (["deed","one","two"]:List Str).zip vs,(dRec 31).scope.names.lookup x.1=some .local:=fun x hx=>by
    have:=(List.of_mem_zip hx).1
    simp at this
    rcases this with h | h | h <;> rw [h] <;> rfl
  refine wpAny_pure (any_hz (wpAny_newFunctionEnv_cells rfl (fun x hx=>.inl (key x hx)) fun env he s₁ X hz1 ht1=>?_))
  have es:env.scope=(dRec 31).scope:=by rw [he]; rfl
  have st:St pw w W ⟨s,F,env⟩ true ((["deed","one","two"]:List Str).zip ([V.ref b,x,y].map Bd.val)) [] s₁ F:=call_frame (sc:=(dRec 31).scope) (binds:=(["deed","one","two"]:List Str).zip vs) b₀ hz1 ht1 (by rw [he]; rfl) (by rw [he]; rfl) es rfl ⟨s.heap.objs.size + 1,by rw [he]; rfl⟩ X (by rw [hbm]; decide) fun y bd hy=>by
    obtain ⟨h1,x,v,e1,e2,e3⟩:=zip_lookup hv hy
    refine ⟨.inl ?_,x,v,e1,e2,e3⟩
    simp at h1
    rcases h1 with h | h | h <;> rw [h] <;> rfl
  refine ⟨W.nolimit.keeps (fun a o e=>X.toInCall.keep a o (b₀.base a o e)),codeAny_func ?_⟩
  have hf:env.frame=some env.locals:=by rw [he]; rfl
  have hfr':(A.deeper env).frames=some (env :: outer):=Around.frames_deeper hfr
  have rm':Room k (A.deeper env):=rm.deeper env
  refine wpAny_execs_cons (wpAny_Try_except (wpAny_execs_cons (wpAny_Return_some ?_)))
  refine fn_call (xs:=[x,y]) (ev_name rfl) ho hd (evl_cons (ev_name rfl) (evl_cons (ev_name rfl) evl_nil)) es st rm' (by intro _; rfl) fun vs₂ s₂ F₂ g₂ hv₂=>?_
  have st₂:=st.step g₂
  have hFk:=frames_at st₂ b₀ hFo hf
  have hoff₂:∀ p ∈ F₂.obs,p.1 ∉ frs (env :: outer):=fun p hp hm=>by
    rw [frs_cons hf] at hm
    rcases List.mem_cons.mp hm with h | h
    · exact st₂.nsF p hp h
    · rcases st₂.grow.new p hp with h1 | h1
      · exact hoff p h1 h
      · obtain ⟨o,ho,_⟩:=hFo.mem h
        exact absurd (Heap.lt_size ho) (Nat.not_lt.mpr h1)
  refine hr s₂ F₂ vs₂ st₂.base hv₂ _ (env :: outer) _ _ rm' hfr' hFk hoff₂ fun B t tk e s₃ F₃ fl=>?_
  refine exc_note0 hfr' hf fl.any fun h₄ a₄ u₄=>?_
  refine exc_flight (s:={ s₃ with heap:=h₄ }) a₄ fun h₅ a₅ u₅=>?_
  have fl5:=(fl.next hFk a₄ u₄).next hFk a₅ u₅
  have BL:B.get? env.locals=none:=by
    obtain ⟨_,_,⟨_,⟨L,_,hL,hn,_⟩,_⟩,_⟩:=fl.any
    rw [hf] at hL; cases hL; exact hn
  have Bbase:W.base.StaysIn B:=fun a o e=>fl.keep a o (Wd.not_tab e) (fun hm=>by
    rw [frs_cons hf] at hm
    rcases List.mem_cons.mp hm with h | h
    · have:W.base.get? env.locals=none:=get_new_none (Nat.le_trans st₂.bsize st₂.nsNew)
      rw [h,this] at e; cases e
    · rw [hfb a h] at e; cases e) (st₂.base.base a o e)
  refine wpAny_handleBy_builtin_as (X:="ValueError") (T:="ValueError") (b:=true) sub_ve_base sub_ve_tuple sub_ve_self ?_
  have hkind:env.scope.kind=.function:=by rw [es]; rfl
  refine Name_function_global hkind (by show env.scope.names.lookup _=_; rw [es]; rfl) (loadGlobal_builtin (by rw [st₂.glob]; exact W.g.keeps (fun a o e=>a₅.1 _ _ (Bbase a o e))) (ok.free _ (by decide)) (by rw [st₂.blt]; exact W.b.keeps (fun a o e=>a₅.1 _ _ (Bbase a o e))) ((W.builtins _ (by decide)).trans (by decide +kernel:bootBuiltins ("ValueError":Str)=some (.type "ValueError"))) ⟨rfl,AnyW.typeIs (s:={ s₃ with heap:=h₅ }) a₅,?_⟩)
  show wpAny _ _ (setFlight (.ref e) none) _ _ _
  refine exc_flight (s:={ s₃ with heap:=h₅ }) a₅ fun h₆ a₆ u₆=>?_
  have fl6:=fl5.next hFk a₆ u₆
  obtain ⟨mL,oL,esL,epL,hoL,hdL,hL3⟩:=st₂.ns
  obtain ⟨sl,hL6⟩:=fl6.upto env.locals (by rw [frs_cons hf]; exact .head _) oL hoL
  have hns6:h₆.Ns env.locals mL:=⟨_,esL,epL,hL6,hdL,hL3⟩
  obtain ⟨oe,ws,T,heo,hecls,hedat,he1,he0⟩:=a₆.tracedback
  obtain ⟨ot,nt,hto,htcls,htdat⟩:=fl6.tup
  have eL:e≠env.locals:=fun q=>by
    rw [q] at heo
    have:=heo.symm.trans hL6; cases this
    rw [hdL] at hedat; cases hedat
  have tL:t≠env.locals:=fun q=>by
    rw [q] at hto
    have:=hto.symm.trans hL6; cases this
    rw [hdL] at htdat; cases htdat
  refine wpAny_storeName_local (by show env.scope.names.lookup _=_; rw [es]; rfl) hns6 (fun h₇ hn₇ hs₇=>?_) (by rw [hkind]; rfl)
  have stay7:∀ a o,B.get? a=some o→h₇.get? a=some o:=fun a o q=>(hs₇.2 a fun e=>by rw [e,BL] at q; cases q).trans (a₆.1 a o q)
  refine wpAny_execs_cons (wpAny_Return_some ?_)
  have ev:∀ {y:Str} {p pos:Pos} {es:List Expr},eval (.Call (.Name y p) es [] pos) env=(do callWith pos (← eval (.Name y p) env) [] (backTo pos (starEach es env)) []):=rfl
  rw [ev]
  refine wpAny_bind (Name_function_global hkind (by show env.scope.names.lookup _=_; rw [es]; rfl) (loadGlobal_builtin (by rw [st₂.glob]; exact W.g.keeps (fun a o e=>stay7 _ _ (Bbase a o e))) (ok.free _ (by decide)) (by rw [st₂.blt]; exact W.b.keeps (fun a o e=>stay7 _ _ (Bbase a o e))) ((W.builtins _ (by decide)).trans (by decide +kernel:bootBuiltins ("str":Str)=some (.type "str"))) ?_))
  refine PyProof.Rows.callWith_type rfl (evalArgs_plain (spliced_cons ?_))
  refine wpAny_Name (wpAny_loadName_local hkind (by show env.scope.names.lookup _=_; rw [es]; rfl) hn₇ (if_pos rfl) (spliced_nil ?_))
  show wpAny _ _ (call (.type "str") [.ref e]) _ _ _
  refine P.str_of_exc_one (t0:=t) (m:=msg) (tk:=tk) PySem.F.excStr_ValueError ?_ ⟨oe,ws,(hs₇.2 _ eL).trans heo,hecls,hedat,he0⟩ ⟨ot,nt,(hs₇.2 _ tL).trans hto,htcls,htdat⟩ ?_
  · have:=rm'.units
    show _ + 2 < _
    simp only [Around.mark_units]
    omega
  · refine wpAny_nameGoes (by show env.scope.names.lookup _=_; rw [es]; rfl) hn₇ (by rw [hkind]; rfl) fun h₈ m₈ hn₈ hs₈=>?_
    have stay8:∀ a o,B.get? a=some o→h₈.get? a=some o:=fun a o q=>(hs₈.2 a fun e=>by rw [e,BL] at q; cases q).trans (stay7 a o q)
    have hLs:s.heap.get? env.locals=none:=get_new_none st₂.nsNew
    intro hz8 ht8
    refine q _ _ F₃ ⟨fun a o ht hn h=>stay8 _ _ (fl.keep a o ht (fun hm=>?_) (st₂.grow.keep a o ht h)),fun p hp=>stay8 _ _ (fl.obs p hp),st₂.grow.sub.trans fl.sub,fun p hp=>?_,fl.tok.le ?_,ht8,hz8,fl.os.trans st₂.grow.os,st₂.grow.gens.trans fl.gens,fl.tabs.keeps fun a o _ h=>stay8 _ _ h⟩ (fun a ha o h=>?_) (.str fl.tkm)
    · rw [frs_cons hf] at hm
      rcases List.mem_cons.mp hm with rfl | h1
      · rw [hLs] at h; cases h
      · exact hn h1
    · rcases fl.new p hp with h1 | h1
      · exact st₂.grow.new p h1
      · exact .inr (Nat.le_trans st₂.grow.size h1)
    · show s₃.toks≤s₃.toks + 1 + 1
      omega
    · obtain ⟨o2,h2,hd2⟩:=hFo.mem ha
      rw [h] at h2; cases h2
      obtain ⟨sl2,h3⟩:=fl6.upto a (by rw [frs_cons hf]; exact .tail _ ha) o (st₂.grow.keep a o (not_tab_frame b₀ h hd2) h)
      have hne:a≠env.locals:=fun e=>by rw [e,hLs] at h; cases h
      exact ⟨sl2,(hs₈.2 _ hne).trans ((hs₇.2 _ hne).trans h3)⟩
end Mine
namespace Mine
variable {prog:Program} {w:World} {W:Wd} {k:Nat} {sc:Scope} {fn:Bool} {Γ:Ctx'} {fr:Frm} {P:Led} {s:Shared} {F:Fz}
theorem among_snoc {pos:Pos} {a b:Int} {c cv:Value}:∀ {l:List Value},TriplesOk l→codeAmong pos (l ++ [rawInt a,rawInt b,c])=some cv→codeAmong pos l=some cv ∨ cv=c
  | [],_,h=>by
    have h':(if a == (pos.line:Int) && b == (pos.col:Int) then some c else none)=some cv:=h
    split at h'
    · cases h'; exact .inr rfl
    · cases h'
  | .int x _ :: .int y _ :: d :: r,ht,h=>by
    have h':(if x == (pos.line:Int) && y == (pos.col:Int) then some d else codeAmong pos (r ++ [rawInt a,rawInt b,c]))=some cv:=h
    show (if x == (pos.line:Int) && y == (pos.col:Int) then some d else codeAmong pos r)=some cv ∨ cv=c
    split at h'
    · rename_i hc
      rw [if_pos hc]; exact .inl h'
    · rename_i hc
      rw [if_neg hc]; exact among_snoc (show TriplesOk r from ht) h'
theorem make_nest {c Pt:Addr} {name qual:Str} {params:Arguments} {body:List Stmt} {scope:Scope} {clos:List (Str × Addr)} {pos:Pos} {fl:Nat} {A:Around} {Q:Value→Shared→Prop} {E:Value→Shared→Prop} {env:Env}
    (b:Base W s F) (hq:(c,Pt) ∈ W.tabs) (hnd:∀ q ∈ W.tabs,∀ q' ∈ W.tabs,q.2=q'.2→q=q') (hglob:env.globals=mainGlobals) (hcode:env.code=.ref c) (hqual:qual=W.qual Pt) (hcl:closureFor scope env=pure clos)
    (h:∀ (f c':Addr) (doc pm ctv:Value) (oc:Obj) (vs:Array Value) (t:Nat) (s':Shared) (F':Fz),Grow W s s' F F'→(f,fnMade name qual params body scope clos doc pm c' ctv) ∈ F'.obs→(c',oc) ∈ F'.obs→oc.data=.fields vs→vs[1]?=some (.str qual t)→Q (.ref f) s') :
    wpAny (model prog w) A (makeFunction name qual params (.stmts body) scope env [] [] [] pos fl) Q E s:=by
  obtain ⟨ps,hP,htr,hall⟩:=b.tabs _ hq
  have hgs:=W.g.keeps b.base
  obtain ⟨bm,ob,b1,b2,b3,b4,b5,b6⟩:=W.bmain
  have hhid:=W.hidden _ hq
  have hgP:mainGlobals≠Pt:=fun q=>by
    obtain ⟨o,es,ep,e,hd,_⟩:=hgs
    rw [q,hP] at e; cases e; cases hd
  have hbP:bm≠Pt:=fun q=>by rw [q,hhid] at b3; cases b3
  have hbG:bm≠mainGlobals:=fun q=>by
    obtain ⟨o,es,ep,e,hd,_⟩:=W.g
    rw [q,e] at b3; cases b3; rw [hd] at b6; cases b6
  have hB:s.heap.BuiltinsAt W.mg Pt:=⟨bm,ob,b1,b2,hbG,hbP,b.base _ _ b3,b4,b5,b6⟩
  have hC:CodeHd s.heap c Pt:=(W.heads _ hq).keeps b.base
  have offF:∀ a,s.heap.objs.size≤a→∀ p ∈ F.obs,p.1≠a:=fun a ha p hp e=>absurd (Heap.lt_size (b.has p hp)) (Nat.not_lt.mpr (e ▸ ha))
  have tabT:W.tab Pt:=⟨_,hq,rfl⟩
  cases hc:codeAmong pos ps.toList with
  | none =>
    refine any_hz (makeFunction_K (mg:=W.mg) hcl hglob hgs hcode hC hP htr hc hgP hB fun c' ctv doc h' tk hx hge hlt hrec htb hz1 ht1=>?_)
    obtain ⟨c₂,oc,vs,t,e2,hoc,hd,hv⟩:=hrec
    cases e2
    have keep:∀ a o,¬ W.tab a→s.heap.get? a=some o→(h'.push (fnMade name qual params body scope clos doc ((W.mg "__name__").getD .none) c' ctv)).get? a=some o:=fun a o ht e =>
      Heap.get?_push_of_some _ (hx a o (fun q=>ht (q ▸ tabT)) e)
    have hfn:(h'.push (fnMade name qual params body scope clos doc ((W.mg "__name__").getD .none) c' ctv)).get? h'.objs.size=some (fnMade name qual params body scope clos doc ((W.mg "__name__").getD .none) c' ctv):=Heap.get?_push_size _ rfl
    have hoc':(h'.push (fnMade name qual params body scope clos doc ((W.mg "__name__").getD .none) c' ctv)).get? c'=some oc:=Heap.get?_push_of_some _ hoc
    let F':Fz:=(F.ob c' oc).ob h'.objs.size (fnMade name qual params body scope clos doc ((W.mg "__name__").getD .none) c' ctv)
    have le:F.le F':=(F.le_ob _ _).trans (Fz.le_ob _ _ _)
    have hlts:s.heap.objs.size≤h'.objs.size:=Nat.le_of_lt (Nat.lt_of_le_of_lt hge hlt)
    have g:Grow W s { s with heap:=h'.push (fnMade name qual params body scope clos doc ((W.mg "__name__").getD .none) c' ctv),toks:=tk } F F':=by
      refine ⟨keep,fun p hp=>?_,le,fun p hp=>?_,b.tok.le ht1,ht1,hz1,rfl,.rfl,fun q' hq'=>?_⟩
      · rcases List.mem_cons.mp hp with rfl | hp
        · exact hfn
        · rcases List.mem_cons.mp hp with rfl | hp
          · exact hoc'
          · exact keep _ _ (b.off p hp) (b.has p hp)
      · rcases List.mem_cons.mp hp with rfl | hp
        · exact .inr hlts
        · rcases List.mem_cons.mp hp with rfl | hp
          · exact .inr hge
          · exact .inl hp
      · by_cases e:q'.2=Pt
        · refine ⟨ps ++ #[rawInt pos.line,rawInt pos.col,.ref c'],by rw [e]; exact Heap.get?_push_of_some _ htb,?_,fun pos' cv hcv=>?_⟩
          · have:=TriplesOk_snoc (pos.line:Int) (pos.col:Int) (.ref c') ps.toList htr
            simpa using this
          · have hcv':codeAmong pos' (ps.toList ++ [rawInt pos.line,rawInt pos.col,.ref c'])=some cv:=by simpa using hcv
            rcases among_snoc htr hcv' with h1 | rfl
            · obtain ⟨c3,o3,vs3,t3,e3,m3,r3⟩:=hall pos' cv h1
              exact ⟨c3,o3,vs3,t3,e3,le.obs _ m3,by rw [e]; exact r3⟩
            · exact ⟨c',oc,vs,t,rfl,.tail _ (.head _),hd,by rw [e,← hqual]; exact hv⟩
        · obtain ⟨ps',hP',htr',hall'⟩:=b.tabs q' hq'
          exact ⟨ps',Heap.get?_push_of_some _ (hx _ _ e hP'),htr',fun pos' cv hcv=>let ⟨c3,o3,vs3,t3,e3,m3,r3⟩:=hall' pos' cv hcv; ⟨c3,o3,vs3,t3,e3,le.obs _ m3,r3⟩⟩
    exact h h'.objs.size c' doc _ ctv oc vs t _ F' g (.head _) (.tail _ (.head _)) hd hv
  | some cv =>
    obtain ⟨c',oc,vs,t,rfl,m3,hd,hv⟩:=hall pos cv hc
    refine any_hz (makeFunction_hit (mg:=W.mg) hcl hglob hgs hcode hC hP htr hc hB fun ctv doc h' tk hk hsz hz1 ht1=>?_)
    have hfn:(h'.push (fnMade name qual params body scope clos doc ((W.mg "__name__").getD .none) c' ctv)).get? h'.objs.size=some (fnMade name qual params body scope clos doc ((W.mg "__name__").getD .none) c' ctv):=Heap.get?_push_size _ rfl
    have g:=Grow.of_keeps (W:=W) [] b (s':={ s with heap:=h'.push (fnMade name qual params body scope clos doc ((W.mg "__name__").getD .none) c' ctv),toks:=tk }) (fun a o e=>Heap.get?_push_of_some _ (hk a o e)) (fun _ h=>nomatch h) hz1 ht1 rfl .rfl
    refine h h'.objs.size c' doc _ ctv oc vs t _ _ (g.freeze hsz hfn) (.head _) (.tail _ m3) hd (by rw [hqual]; exact hv)
end Mine
namespace Mine
section
variable (prog:Program) (w:World) (W:Wd)
def CallsG (k:Nat) (G:Fz) (f:Nat) (xs:List V) (r:V):Prop :=
  ∀ s F vs,Base W s F→G.le F→VsIs prog w F vs xs→Gives prog w W k (call (.ref f) vs) s F (Is prog w r)
end
variable {prog:Program} {w:World} {W:Wd} {k:Nat} {sc:Scope} {fn:Bool} {Γ:Ctx'} {fr:Frm} {P:Led} {s:Shared} {F:Fz}
theorem CallsG.mono {j:Nat} {G:Fz} {f:Nat} {xs:List V} {r:V} (h:CallsG prog w W j G f xs r) (hj:j≤k):CallsG prog w W k G f xs r:=fun s F vs b g hv=>(h s F vs b g hv).mono_room hj
theorem ev_callG {y:Str} {es:List Expr} {xs:List V} {p pos:Pos} {f:Nat} {G:Fz} {o:Obj} {fd:FuncData} {r:V} (hy:Γ.lookup y=some (.val (.fn f G))) (ho:(f,o) ∈ G.obs) (hd:o.data=.func fd)
    (ha:EvL prog w W k sc fn Γ es xs) (hc:CallsG prog w W k G f xs r)
    (hs:∀ env,(starEach es env).any (·.1)=false:=by intro _; rfl) (hdb:(y == ("__debug__":Str))=false:=by decide) (hn:(y == ("__classdict__":Str))=false:=by decide) :
    Ev prog w W k sc fn Γ (.Call (.Name y p) es [] pos) r:=fun fr P s F hsc st A Q E rm q=>by
  have e:eval (.Call (.Name y p) es [] pos) fr.env=(do callWith pos (← eval (.Name y p) fr.env) [] (backTo pos (starEach es fr.env)) []):=rfl
  rw [e]
  obtain ⟨v,h1,h2⟩:=st.vars y _ hy
  obtain ⟨rfl,hG⟩:=h2
  refine wpAny_bind (st.load_any h1 ?_ hdb hn)
  refine callWith_function (o:=o) (fd:=fd) ?_
  refine evalArgs_of ha hsc st rm hs fun vs s₂ F₂ g₂ hv=>?_
  have b₂:=(st.step g₂).base
  refine ⟨⟨b₂.has _ (g₂.sub.obs _ (hG.obs _ ho)),hd⟩,?_⟩
  exact hc s₂ F₂ vs b₂ (hG.trans g₂.sub) hv A Q E rm fun z s₃ F₃ g₃ hz=>q z s₃ F₃ (g₂.trans g₃) hz
def nestOk (sc:Scope) (names:List Str):Bool :=
  sc.kind == .function && !sc.isCoroutine && !sc.isGenerator && sc.names.all (fun x=>x.2 != .cell) && names.all fun n=>sc.names.lookup n == some .local
theorem zip_reverse_lookup {y:Str} {v:Value}:∀ {l:List (Str × Value)},(l.map (·.1)).Nodup→l.lookup y=some v→l.reverse.lookup y=some v
  | [],_,h=>nomatch h
  | (n,u) :: r,hn,h=>by
    simp only [List.map_cons,List.nodup_cons] at hn
    rw [List.reverse_cons,List.lookup_append]
    rw [List.lookup_cons] at h
    by_cases e:y=n
    · subst e
      rw [beq_self_eq_true] at h
      cases h
      have:r.reverse.lookup y=none:=by
        cases hr:r.reverse.lookup y with
        | none=>rfl
        | some v=>exact absurd (List.mem_map.mpr ⟨_,List.mem_reverse.mp (mem_of_lookup hr),rfl⟩) hn.1
      rw [this]; simp
    · rw [beq_eq_false_iff_ne.mpr e] at h
      rw [zip_reverse_lookup hn.2 h]; rfl
theorem calls_nest {G:Fz} {f:Nat} {name qual:Str} {params:Arguments} {body:List Stmt} {scope:Scope} {clos:List (Str × Addr)} {doc pm ctv:Value} {c':Addr} {oc:Obj} {us:Array Value} {tq:Nat} {xs:List V} {r:V} {capt:Ctx'} (names:List Str)
    (hf:(f,fnMade name qual params body scope clos doc pm c' ctv) ∈ G.obs) (hoc:(c',oc) ∈ G.obs) (hocd:oc.data=.fields us) (hus:us[1]?=some (.str qual tq))
    (hb:∀ (vs:List Value),vs.length=xs.length→bindArgs (fnX name qual params body scope clos .none .none doc pm none (.ref c') ctv) ⟨vs,[]⟩=pure (names.zip vs))
    (hp:nestOk scope names=true) (hn:names.Nodup) (hl:names.length=xs.length)
    (hclos:∀ n c,clos.lookup n=some c→∃ o v x,(c,o) ∈ G.obs∧o.data=.cell (some v)∧capt.lookup n=some (.val x)∧x.is prog w G v)
    (hcapt:∀ y b,capt.lookup y=some b→scope.names.lookup y=some .free∧∃ c,clos.lookup y=some c)
    (hinj:∀ n n' c,clos.lookup n=some c→clos.lookup n'=some c→n=n')
    (hex:Ex prog w W k scope false (names.zip (xs.map Bd.val) ++ capt) body (.ret r)):CallsG prog w W (k + 1) G f xs r:=by
  intro s F vs b hG hv A Q E rm q
  have ho:=b.has _ (hG.obs _ hf)
  have hco:=b.has _ (hG.obs _ hoc)
  have hp0:=hp
  unfold nestOk at hp
  simp only [Bool.and_eq_true,beq_iff_eq,Bool.not_eq_true',List.all_eq_true,bne_iff_ne] at hp
  obtain ⟨⟨⟨⟨hk,hcor⟩,hgen⟩,hcell⟩,hkinds⟩:=hp
  have vl:=hv.length
  refine wpAny_call ?_
  refine codeAny_call_function (fd:=fnX name qual params body scope clos .none .none doc pm none (.ref c') ctv) rm.depth ho rfl hcor hgen rfl ⟨c',oc,us,tq,rfl,hco,hocd,hus⟩ ?_
  rw [hb _ vl]
  have hbm:(names.zip vs).map (·.1)=names:=by
    rw [List.map_fst_zip]; omega
  refine wpAny_pure (any_hz (wpAny_newFunctionEnv hcell (fun x hx=>hkinds x.1 (List.of_mem_zip hx).1) (fun h' hns hsb hz1 ht1=>?_) hk))
  have keep:∀ a o,s.heap.get? a=some o→h'.get? a=some o:=fun a o e=>(hsb.2 a (Nat.ne_of_lt (Heap.lt_size e))).trans (Heap.get?_push_of_some _ e)
  have g:Grow W s { s with heap:=h',toks:=s.toks + (names.zip vs).length } F F:=Grow.of_keeps [] b keep (fun _ h=>nomatch h) hz1 ht1 rfl .rfl
  let env:Env:=newEnv scope s.heap.objs.size mainGlobals clos (qual ++ ".<locals>.") (some f) (.ref c') none builtinsNs
  have hcl:∀ n c,clos.lookup n=some c→∃ o v x,h'.get? c=some o∧o.data=.cell (some v)∧capt.lookup n=some (.val x)∧x.is prog w F v∧s.heap.get? c=some o∧(c,o) ∈ F.obs:=fun n c hc=>by
    obtain ⟨o,v,x,h1,h2,h3,h4⟩:=hclos n c hc
    exact ⟨o,v,x,keep _ _ (b.has _ (hG.obs _ h1)),h2,h3,V.is.mono hG h4,b.has _ (hG.obs _ h1),hG.obs _ h1⟩
  have st:St prog w W ⟨s,F,env⟩ false (names.zip (xs.map Bd.val) ++ capt) [] { s with heap:=h',toks:=s.toks + (names.zip vs).length } F:=by
    refine ⟨b.grow g,g,b.size,rfl,rfl,hk,⟨_,hns⟩,Nat.le_refl _,fun p hp=>Nat.ne_of_lt (Heap.lt_size (b.has p hp)),fun _ h=>(nomatch h),fun _ h=>(nomatch h),fun n c hc=>?_,fun n n' c h1 h2=>hinj n n' c h1 h2,fun x hx=>?_,fun y bd hy=>?_,?_⟩
    · obtain ⟨o,v,x,h1,h2,h3,h4,h5,h6⟩:=hcl n c hc
      exact ⟨⟨some v,o,h1,h2⟩,Nat.ne_of_lt (Heap.lt_size h5),(fun h=>by cases h),fun _ h=>(nomatch h),b.off _ h6,fun h=>by cases h⟩
    · exact absurd rfl (hcell _ (mem_of_lookup (show scope.names.lookup x=some .cell from hx)))
    · rw [List.lookup_append] at hy
      cases hz:(names.zip (xs.map Bd.val)).lookup y with
      | some bd' =>
        rw [hz] at hy
        cases hy
        obtain ⟨h1,x,v,e1,e2,e3⟩:=zip_lookup hv hz
        subst e1
        refine ⟨v,.inl ⟨hkinds y h1,_,hns,?_⟩,e3⟩
        exact zip_reverse_lookup (by rw [hbm]; exact hn) e2
      | none =>
        rw [hz] at hy
        have hy':capt.lookup y=some bd:=by simpa using hy
        obtain ⟨h1,c,hc⟩:=hcapt y bd hy'
        obtain ⟨o,v,x,h2,h3,h4,h5,_⟩:=hcl y c hc
        rw [hy'] at h4
        cases h4
        exact ⟨v,.inr ⟨.inr h1,c,hc,o,h2,h3⟩,h5⟩
    · intro x y bx by' a hne h1 h2 o1 o2
      rw [List.lookup_append] at h1
      cases hz:(names.zip (xs.map Bd.val)).lookup x with
      | some bd' =>
        rw [hz] at h1
        cases h1
        obtain ⟨_,x',v,e1,_⟩:=zip_lookup hv hz
        subst e1; cases o1
      | none =>
        rw [hz] at h1
        have hy':capt.lookup x=some bx:=by simpa using h1
        obtain ⟨_,c,hc⟩:=hcapt x bx hy'
        obtain ⟨o,v,x',h2,h3,h4,h5,_⟩:=hcl x c hc
        rw [hy'] at h4
        cases h4; cases o1
  refine ⟨W.nolimit.keeps (fun a o e=>keep a o (b.base a o e)),codeAny_func ?_⟩
  refine hex ⟨s,F,env⟩ [] _ F rfl st _ _ _ (rm.deeper env) fun fl s' F' ho' hF'=>?_
  obtain ⟨v,rfl,hv',st'⟩:=ho'
  exact q v s' F' st'.grow hv'
end Mine
namespace Mine
section
variable (prog:Program) (w:World) (W:Wd)
def EvE (φ:Env→Prop) (k:Nat) (sc:Scope) (fn:Bool) (Γ:Ctx') (e:Expr) (x:V):Prop :=
  ∀ fr P s F,fr.env.scope=sc→φ fr.env→St prog w W fr fn Γ P s F→Gives prog w W k (eval e fr.env) s F (Is prog w x)
def ExE (φ:Env→Prop) (k:Nat) (sc:Scope) (fn:Bool) (Γ:Ctx') (ss:List Stmt) (o:Out):Prop :=
  ∀ fr P s F,fr.env.scope=sc→φ fr.env→St prog w W fr fn Γ P s F→∀ (A:Around) (Q:Flow→Shared→Prop) (E:Value→Shared→Prop),Room k A →
    (∀ fl s' F',o.ok prog w W fr fn P fl s' F'→F.le F'→Q fl s')→wpAny (model prog w) A (execs ss fr.env) Q E s
end
variable {prog:Program} {w:World} {W:Wd} {k:Nat} {sc:Scope} {fn:Bool} {Γ Γ':Ctx'} {φ:Env→Prop}
theorem eve_of {e:Expr} {x:V} (h:Ev prog w W k sc fn Γ e x):EvE prog w W φ k sc fn Γ e x:=fun fr P s F hsc _ st=>h fr P s F hsc st
theorem eve_ite {t b e:Expr} {pos:Pos} {c:Bool} {x:V} (ht:EvB prog w W k sc fn Γ t c) (hb:c=true→EvE prog w W φ k sc fn Γ b x) (he:c=false→EvE prog w W φ k sc fn Γ e x) :
    EvE prog w W φ k sc fn Γ (.IfExp t b e pos) x:=fun fr P s F hsc hφ st A Q E rm q =>
  wpAny_IfExp (ht fr P s F hsc st A _ E rm fun s₁ F₁ g₁=>by
    cases c with
    | true=>exact hb rfl fr P s₁ F₁ hsc hφ (st.step g₁) A Q E rm fun z s₃ F₃ g₃ hz=>q z s₃ F₃ (g₁.trans g₃) hz
    | false=>exact he rfl fr P s₁ F₁ hsc hφ (st.step g₁) A Q E rm fun z s₃ F₃ g₃ hz=>q z s₃ F₃ (g₁.trans g₃) hz)
theorem exe_ret {pos:Pos} {e:Expr} {x:V} {rest:List Stmt} (he:EvE prog w W φ k sc fn Γ e x):ExE prog w W φ k sc fn Γ (.Return (some e) pos :: rest) (.ret x) :=
  fun fr P s F hsc hφ st A Q E rm q=>wpAny_execs_cons (wpAny_Return_some (he fr P s F hsc hφ st A _ E rm fun v s₁ F₁ g₁ hv=>q _ s₁ F₁ ⟨v,rfl,hv,(st.step g₁).weaken fun y b h=>by cases h⟩ g₁.sub))
theorem exe_seq {st:Stmt} {rest:List Stmt} {o:Out} (h:Ex1 prog w W k sc fn Γ st (.next Γ')) (hr:ExE prog w W φ k sc fn Γ' rest o):ExE prog w W φ k sc fn Γ (st :: rest) o :=
  fun fr P s F hsc hφ x A Q E rm q=>wpAny_execs_cons (h fr P s F hsc x A _ E rm fun fl s' F' ho hF=>by
    obtain ⟨rfl,x'⟩:=ho
    exact hr fr P s' F' hsc hφ x' A Q E rm fun fl s'' F'' ho' hF'=>q fl s'' F'' ho' (hF.trans hF'))
theorem clOf_some {cells:List (Str × Addr)} {names:List (Str × NameKind)} {n:Str} (hn:(n,NameKind.free) ∈ names):∃ c,(clOf cells names).lookup n=some c:=by
  induction names with
  | nil=>cases hn
  | cons x r ih =>
    obtain ⟨m,k⟩:=x
    unfold clOf
    rw [List.lookup_append]
    rcases List.mem_cons.mp hn with h | h
    · cases h
      cases e:(clOf cells r).lookup n with
      | none=>exact ⟨(cells.lookup n).getD 0,by simp⟩
      | some c'=>exact ⟨c',rfl⟩
    · obtain ⟨c,hc⟩:=ih h
      exact ⟨c,by rw [hc]; rfl⟩
theorem exe_def {name qual:Str} {params:Arguments} {body:List Stmt} {scope:Scope} {pos:Pos} {rest:List Stmt} {o:Out} {c Pt:Addr} (hq:(c,Pt) ∈ W.tabs) (hnd:∀ q ∈ W.tabs,∀ q' ∈ W.tabs,q.2=q'.2→q=q')
    (hcode:∀ env,φ env→env.code=.ref c) (hqual:∀ env,φ env→env.scope=sc→qualnameIn env name name=W.qual Pt) (hqq:qual=W.qual Pt) (hd0:params.defaults=[]) (hk0:params.kw_defaults=[]) (ha:∀ env,annTrees params none env=[])
    (hfree:∀ x ∈ scope.names,x.2=.free→sc.names.lookup x.1=some .cell) (hk:sc.names.lookup name=some .cell) (hfn:fn=true)
    (hrest:∀ (f c':Addr) (clos:List (Str × Addr)) (doc pm ctv:Value) (oc:Obj) (us:Array Value) (t:Nat) (G:Fz),(f,fnMade name qual params body scope clos doc pm c' ctv) ∈ G.obs→(c',oc) ∈ G.obs→oc.data=.fields us→us[1]?=some (.str qual t)→(∀ n,(n,NameKind.free) ∈ scope.names→∃ c,clos.lookup n=some c) →
      ExE prog w W (fun env=>φ env∧clOf env.cells scope.names=clos) k sc fn ((name,.val (.fn f G)) :: Γ) rest o) :
    ExE prog w W φ k sc fn Γ (.FunctionDef name params body [] none [] scope none name pos :: rest) o:=fun fr P s F hsc hφ st A Q E rm q=>by
  refine wpAny_execs_cons (nestDef_K hd0 hk0 (ha _) ?_)
  have hclos:=closure_of (scope:=scope) (env:=fr.env) fun x hx hf=>st.cells x.1 (by have:=hfree x hx hf; rw [← hsc] at this; exact this)
  refine make_nest st.base hq hnd st.glob (hcode _ hφ) (hqual _ hφ hsc) hclos fun f c' doc pm ctv oc us t s₁ F₁ g₁ hf hoc hd hv=>?_
  rw [hqual _ hφ hsc,← hqq] at hf hv
  refine (st.step g₁).storeV (d:=.fn f F₁) ⟨rfl,.rfl⟩ (.inr ⟨by rw [← hsc] at hk; exact hk,hfn⟩) fun s₂ st₂=>?_
  exact hrest f c' _ doc pm ctv oc us t F₁ hf hoc hd hv (fun n hn=>clOf_some hn) fr P s₂ F₁ hsc ⟨hφ,rfl⟩ st₂ A Q E rm fun fl s' F' ho hF=>q fl s' F' ho (g₁.sub.trans hF)
end Mine
namespace Mine
variable {prog:Program} {w:World} {W:Wd} {k:Nat} {sc:Scope} {fn:Bool} {Γ Γ':Ctx'} {φ:Env→Prop}
def ClosIn (prog:Program) (w:World) (G:Fz) (clos:List (Str × Addr)) (capt:Ctx'):Prop :=
  (∀ n c,clos.lookup n=some c→∃ o v x,(c,o) ∈ G.obs∧o.data=.cell (some v)∧capt.lookup n=some (.val x)∧x.is prog w G v) ∧
  (∀ n n' c,clos.lookup n=some c→clos.lookup n'=some c→n=n')
def cellObs (h:Heap) (clos:List (Str × Addr)):Led:=clos.filterMap fun p=>(h.get? p.2).map fun o=>(p.2,o)
theorem nest_call {fr:Frm} {P:Led} {s:Shared} {F:Fz} {scope:Scope} {clos:List (Str × Addr)} {Γc:Ctx'} {f:Nat} {G:Fz} {xs:List V} {i:Int} {vs:List Value} {A:Around} {Q:Value→Shared→Prop} {E:Value→Shared→Prop}
    (st:St prog w W fr true Γ P s F) (hsc:fr.env.scope=sc) (hclos:clOf fr.env.cells scope.names=clos) (hG:G.le F) (hfree:∀ x ∈ scope.names,x.2=.free→sc.names.lookup x.1=some .cell)
    (hΓ:∀ x ∈ scope.names,x.2=.free→∃ y,Γ.lookup x.1=some (.val y)∧Γc.lookup x.1=some (.val y))
    (hcall:∀ G':Fz,G.le G'→ClosIn prog w G' clos Γc→CallsG prog w W k G' f xs (.dat (.int i))) (hv:VsIs prog w F vs xs) (rm:Room k A)
    (q:∀ v s' F',Grow W s s' F F'→Rep F' v (.int i)→Q v s'):wpAny (model prog w) A (call (.ref f) vs) Q E s:=by
  have hmem:∀ n c,(n,c) ∈ clos→(n,NameKind.free) ∈ scope.names∧fr.env.cells.lookup n=some c:=fun n c h=>by
    rw [← hclos] at h
    obtain ⟨h1,h2⟩:=clOf_mem h
    obtain ⟨c',hc'⟩:=st.cells n (by have:=hfree _ h1 rfl; rw [← hsc] at this; exact this)
    rw [hc'] at h2
    exact ⟨h1,hc'.trans (congrArg some h2)⟩
  have hobs:∀ p ∈ cellObs s.heap clos,s.heap.get? p.1=some p.2∧∃ n,fr.env.cells.lookup n=some p.1∧∃ v,p.2.data=.cell v:=fun p hp=>by
    obtain ⟨⟨n,c⟩,hn,e⟩:=List.mem_filterMap.mp hp
    cases ho:s.heap.get? c with
    | none=>rw [ho] at e; cases e
    | some o =>
      rw [ho] at e
      cases e
      have hc:=(hmem n c hn).2
      obtain ⟨⟨v,o',h1,h2⟩,_⟩:=st.cell n c hc
      rw [ho] at h1; cases h1
      exact ⟨ho,n,hc,v,h2⟩
  let Fp:Fz:=⟨cellObs s.heap clos ++ F.obs,F.tks⟩
  have le:F.le Fp:=⟨fun p hp=>List.mem_append_right _ hp,fun p hp=>hp⟩
  have bp:Base W s Fp:=by
    refine ⟨st.base.base,fun p hp=>?_,st.base.tok,st.base.tabs.mono le,fun p hp=>?_,st.base.size⟩
    · rcases List.mem_append.mp hp with h | h
      · exact (hobs p h).1
      · exact st.base.has p h
    · rcases List.mem_append.mp hp with h | h
      · obtain ⟨_,n,hc,_⟩:=hobs p h
        exact (st.cell n _ hc).2.2.2.2.1
      · exact st.base.off p h
  have hin:ClosIn prog w Fp clos Γc:=by
    constructor
    · intro n c hc
      obtain ⟨hf,hc'⟩:=hmem n c (mem_of_lookup hc)
      obtain ⟨y,hy,hyc⟩:=hΓ _ hf rfl
      obtain ⟨v,hva,hvx⟩:=st.vars n _ hy
      have hk:fr.env.kindOf n=some .cell:=by have:=hfree _ hf rfl; rw [← hsc] at this; exact this
      rcases hva with ⟨kk,_⟩ | ⟨_,c2,hc2,o,ho,hd⟩
      · rw [hk] at kk; cases kk
      · rw [hc'] at hc2; cases hc2
        refine ⟨o,v,y,List.mem_append_left _ (List.mem_filterMap.mpr ⟨(n,c),mem_of_lookup hc,by rw [ho]; rfl⟩),hd,hyc,V.is.mono le hvx⟩
    · intro n n' c h1 h2
      exact st.inj n n' c (hmem n c (mem_of_lookup h1)).2 (hmem n' c (mem_of_lookup h2)).2
  refine hcall Fp (hG.trans le) hin s Fp vs bp .rfl (hv.mono le) A Q E rm fun v s' F' g hr=>?_
  let bad:Nat→Bool:=fun a=>(cellObs s.heap clos).any fun p=>p.1 == a
  let F₂:Fz:=⟨F'.obs.filter fun p=>!bad p.1,F'.tks⟩
  have notbad:∀ p ∈ F.obs,bad p.1=false:=fun p hp=>by
    cases hb:bad p.1 with
    | false=>rfl
    | true =>
      obtain ⟨r,hr,e⟩:=List.any_eq_true.mp hb
      obtain ⟨_,n,hc,_⟩:=hobs r hr
      exact absurd (eq_of_beq e).symm ((st.cell n _ hc).2.2.1 rfl p hp)
  refine q v s' F₂ ⟨g.keep,fun p hp=>g.has p (List.mem_filter.mp hp).1,⟨fun p hp=>List.mem_filter.mpr ⟨g.sub.obs p (le.obs p hp),by rw [notbad p hp]; rfl⟩,fun p hp=>g.sub.tks p hp⟩,fun p hp=>?_,g.tok,g.toks,g.size,g.os,g.gens,fun q hq=>?_⟩ ?_
  · obtain ⟨h1,h2⟩:=List.mem_filter.mp hp
    rcases g.new p h1 with h | h
    · rcases List.mem_append.mp h with h | h
      · have:bad p.1=true:=List.any_eq_true.mpr ⟨p,h,beq_self_eq_true _⟩
        rw [this] at h2; cases h2
      · exact .inl h
    · exact .inr h
  · obtain ⟨ps,h1,h2,h3⟩:=g.tabs q hq
    refine ⟨ps,h1,h2,fun pos cv hcv=>?_⟩
    obtain ⟨c,o,us,t,e1,e2,e3,e4⟩:=h3 pos cv hcv
    refine ⟨c,o,us,t,e1,List.mem_filter.mpr ⟨e2,?_⟩,e3,e4⟩
    cases hb:bad c with
    | false=>rfl
    | true =>
      obtain ⟨r,hr,e⟩:=List.any_eq_true.mp hb
      obtain ⟨h5,n,hc,v,h6⟩:=hobs r hr
      have h7:=g.has r (g.sub.obs _ (List.mem_append_left _ hr))
      have h8:=g.has _ e2
      rw [show r.1=c from eq_of_beq e] at h7
      rw [h7] at h8
      cases h8
      rw [h6] at e3; cases e3
  · cases hr with
    | int ht=>exact .int ht
theorem eve_nest {y:Str} {es:List Expr} {p pos:Pos} {scope:Scope} {clos:List (Str × Addr)} {Γc:Ctx'} {f:Nat} {G:Fz} {o:Obj} {fd:FuncData} {xs:List V} {i:Int}
    (hφ:∀ env,φ env→clOf env.cells scope.names=clos) (hy:Γ.lookup y=some (.val (.fn f G))) (ho:(f,o) ∈ G.obs) (hd:o.data=.func fd) (hfree:∀ x ∈ scope.names,x.2=.free→sc.names.lookup x.1=some .cell)
    (hΓ:∀ x ∈ scope.names,x.2=.free→∃ y,Γ.lookup x.1=some (.val y)∧Γc.lookup x.1=some (.val y)) (ha:EvL prog w W k sc true Γ es xs)
    (hcall:∀ G':Fz,G.le G'→ClosIn prog w G' clos Γc→CallsG prog w W k G' f xs (.dat (.int i)))
    (hs:∀ env,(starEach es env).any (·.1)=false:=by intro _; rfl) (hdb:(y == ("__debug__":Str))=false:=by decide) (hn:(y == ("__classdict__":Str))=false:=by decide) :
    EvE prog w W φ k sc true Γ (.Call (.Name y p) es [] pos) (.dat (.int i)):=fun fr P s F hsc hφ' st A Q E rm q=>by
  have e:eval (.Call (.Name y p) es [] pos) fr.env=(do callWith pos (← eval (.Name y p) fr.env) [] (backTo pos (starEach es fr.env)) []):=rfl
  rw [e]
  obtain ⟨v,h1,h2⟩:=st.vars y _ hy
  obtain ⟨rfl,hG⟩:=h2
  refine wpAny_bind (st.load_any h1 ?_ hdb hn)
  refine callWith_function (o:=o) (fd:=fd) ?_
  refine evalArgs_of ha hsc st rm hs fun vs s₂ F₂ g₂ hv=>?_
  have st₂:=st.step g₂
  refine ⟨⟨st₂.base.has _ (g₂.sub.obs _ (hG.obs _ ho)),hd⟩,?_⟩
  exact nest_call st₂ hsc (hφ _ hφ') (hG.trans g₂.sub) hfree hΓ hcall hv rm fun v s₃ F₃ g₃ hr=>q v s₃ F₃ (g₂.trans g₃) hr
end Mine
namespace Mine
variable {prog:Program} {w:World} {W:Wd} {k:Nat} {sc:Scope} {fn:Bool} {Γ:Ctx'} {fr:Frm} {P:Led} {s:Shared} {F:Fz}
theorem make_lam {c Pt:Addr} {name qual:Str} {params:Arguments} {body:Expr} {scope:Scope} {clos:List (Str × Addr)} {pos:Pos} {fl:Nat} {A:Around} {Q:Value→Shared→Prop} {E:Value→Shared→Prop} {env:Env}
    (b:Base W s F) (hq:(c,Pt) ∈ W.tabs) (hnd:∀ q ∈ W.tabs,∀ q' ∈ W.tabs,q.2=q'.2→q=q') (hglob:env.globals=mainGlobals) (hcode:env.code=.ref c) (hqual:qual=W.qual Pt) (hcl:closureFor scope env=pure clos)
    (h:∀ (f c':Addr) (pm ctv:Value) (oc:Obj) (vs:Array Value) (t:Nat) (s':Shared) (F':Fz),Grow W s s' F F'→(f,kla_obj name qual params body scope clos pm c' ctv) ∈ F'.obs→(c',oc) ∈ F'.obs→oc.data=.fields vs→vs[1]?=some (.str qual t)→Q (.ref f) s') :
    wpAny (model prog w) A (makeFunction name qual params (.expr body) scope env [] [] [] pos fl) Q E s:=by
  obtain ⟨ps,hP,htr,hall⟩:=b.tabs _ hq
  have hgs:=W.g.keeps b.base
  obtain ⟨bm,ob,b1,b2,b3,b4,b5,b6⟩:=W.bmain
  have hhid:=W.hidden _ hq
  have hgP:mainGlobals≠Pt:=fun q=>by
    obtain ⟨o,es,ep,e,hd,_⟩:=hgs
    rw [q,hP] at e; cases e; cases hd
  have hbP:bm≠Pt:=fun q=>by rw [q,hhid] at b3; cases b3
  have hbG:bm≠mainGlobals:=fun q=>by
    obtain ⟨o,es,ep,e,hd,_⟩:=W.g
    rw [q,e] at b3; cases b3; rw [hd] at b6; cases b6
  have hB:s.heap.BuiltinsAt W.mg Pt:=⟨bm,ob,b1,b2,hbG,hbP,b.base _ _ b3,b4,b5,b6⟩
  have hC:CodeHd s.heap c Pt:=(W.heads _ hq).keeps b.base
  have tabT:W.tab Pt:=⟨_,hq,rfl⟩
  cases hc:codeAmong pos ps.toList with
  | none =>
    refine any_hz (kla_makeFunction (mg:=W.mg) hcl hglob hgs hcode hC hP htr hc hgP hB fun c' ctv h' tk hx hge hlt hrec htb hz1 ht1=>?_)
    obtain ⟨c₂,oc,vs,t,e2,hoc,hd,hv⟩:=hrec
    cases e2
    have keep:∀ a o,¬ W.tab a→s.heap.get? a=some o→(h'.push (kla_obj name qual params body scope clos ((W.mg "__name__").getD .none) c' ctv)).get? a=some o:=fun a o ht e =>
      Heap.get?_push_of_some _ (hx a o (fun q=>ht (q ▸ tabT)) e)
    have hfn:(h'.push (kla_obj name qual params body scope clos ((W.mg "__name__").getD .none) c' ctv)).get? h'.objs.size=some (kla_obj name qual params body scope clos ((W.mg "__name__").getD .none) c' ctv):=Heap.get?_push_size _ rfl
    have hoc':(h'.push (kla_obj name qual params body scope clos ((W.mg "__name__").getD .none) c' ctv)).get? c'=some oc:=Heap.get?_push_of_some _ hoc
    let F':Fz:=(F.ob c' oc).ob h'.objs.size (kla_obj name qual params body scope clos ((W.mg "__name__").getD .none) c' ctv)
    have le:F.le F':=(F.le_ob _ _).trans (Fz.le_ob _ _ _)
    have hlts:s.heap.objs.size≤h'.objs.size:=Nat.le_of_lt (Nat.lt_of_le_of_lt hge hlt)
    have g:Grow W s { s with heap:=h'.push (kla_obj name qual params body scope clos ((W.mg "__name__").getD .none) c' ctv),toks:=tk } F F':=by
      refine ⟨keep,fun p hp=>?_,le,fun p hp=>?_,b.tok.le ht1,ht1,hz1,rfl,.rfl,fun q' hq'=>?_⟩
      · rcases List.mem_cons.mp hp with rfl | hp
        · exact hfn
        · rcases List.mem_cons.mp hp with rfl | hp
          · exact hoc'
          · exact keep _ _ (b.off p hp) (b.has p hp)
      · rcases List.mem_cons.mp hp with rfl | hp
        · exact .inr hlts
        · rcases List.mem_cons.mp hp with rfl | hp
          · exact .inr hge
          · exact .inl hp
      · by_cases e:q'.2=Pt
        · refine ⟨ps ++ #[rawInt pos.line,rawInt pos.col,.ref c'],by rw [e]; exact Heap.get?_push_of_some _ htb,?_,fun pos' cv hcv=>?_⟩
          · have:=TriplesOk_snoc (pos.line:Int) (pos.col:Int) (.ref c') ps.toList htr
            simpa using this
          · have hcv':codeAmong pos' (ps.toList ++ [rawInt pos.line,rawInt pos.col,.ref c'])=some cv:=by simpa using hcv
            rcases among_snoc htr hcv' with h1 | rfl
            · obtain ⟨c3,o3,vs3,t3,e3,m3,r3⟩:=hall pos' cv h1
              exact ⟨c3,o3,vs3,t3,e3,le.obs _ m3,by rw [e]; exact r3⟩
            · exact ⟨c',oc,vs,t,rfl,.tail _ (.head _),hd,by rw [e,← hqual]; exact hv⟩
        · obtain ⟨ps',hP',htr',hall'⟩:=b.tabs q' hq'
          exact ⟨ps',Heap.get?_push_of_some _ (hx _ _ e hP'),htr',fun pos' cv hcv=>let ⟨c3,o3,vs3,t3,e3,m3,r3⟩:=hall' pos' cv hcv; ⟨c3,o3,vs3,t3,e3,le.obs _ m3,r3⟩⟩
    exact h h'.objs.size c' _ ctv oc vs t _ F' g (.head _) (.tail _ (.head _)) hd hv
  | some cv =>
    obtain ⟨c',oc,vs,t,rfl,m3,hd,hv⟩:=hall pos cv hc
    refine any_hz (kla_makeFunctionHit (mg:=W.mg) hcl hglob hgs hcode hC hP htr hc hB fun ctv h' tk hk hsz hz1 ht1=>?_)
    have hfn:(h'.push (kla_obj name qual params body scope clos ((W.mg "__name__").getD .none) c' ctv)).get? h'.objs.size=some (kla_obj name qual params body scope clos ((W.mg "__name__").getD .none) c' ctv):=Heap.get?_push_size _ rfl
    have g:=Grow.of_keeps (W:=W) [] b (s':={ s with heap:=h'.push (kla_obj name qual params body scope clos ((W.mg "__name__").getD .none) c' ctv),toks:=tk }) (fun a o e=>Heap.get?_push_of_some _ (hk a o e)) (fun _ h=>nomatch h) hz1 ht1 rfl .rfl
    refine h h'.objs.size c' _ ctv oc vs t _ _ (g.freeze hsz hfn) (.head _) (.tail _ m3) hd (by rw [hqual]; exact hv)
theorem calls_lam {G:Fz} {f:Nat} {name qual:Str} {params:Arguments} {body:Expr} {scope:Scope} {pm ctv:Value} {c':Addr} {oc:Obj} {us:Array Value} {tq:Nat} {xs:List V} {r:V} (names:List Str)
    (hf:(f,kla_obj name qual params body scope [] pm c' ctv) ∈ G.obs) (hoc:(c',oc) ∈ G.obs) (hocd:oc.data=.fields us) (hus:us[1]?=some (.str qual tq))
    (hb:∀ (vs:List Value),vs.length=xs.length→bindArgs (kla_fn name qual params body scope [] pm (.ref c') ctv) ⟨vs,[]⟩=pure (names.zip vs))
    (hp:nestOk scope names=true) (hn:names.Nodup) (hl:names.length=xs.length)
    (hex:Ev prog w W k scope false (names.zip (xs.map Bd.val)) body r):CallsG prog w W (k + 1) G f xs r:=by
  intro s F vs b hG hv A Q E rm q
  have ho:=b.has _ (hG.obs _ hf)
  have hco:=b.has _ (hG.obs _ hoc)
  unfold nestOk at hp
  simp only [Bool.and_eq_true,beq_iff_eq,Bool.not_eq_true',List.all_eq_true,bne_iff_ne] at hp
  obtain ⟨⟨⟨⟨hk,hcor⟩,hgen⟩,hcell⟩,hkinds⟩:=hp
  have vl:=hv.length
  refine wpAny_call ?_
  refine kla_callFunE (fd:=kla_fn name qual params body scope [] pm (.ref c') ctv) rm.depth ho rfl hcor hgen rfl ⟨c',oc,us,tq,rfl,hco,hocd,hus⟩ ?_
  rw [hb _ vl]
  have hbm:(names.zip vs).map (·.1)=names:=by
    rw [List.map_fst_zip]; omega
  refine wpAny_pure (any_hz (wpAny_newFunctionEnv hcell (fun x hx=>hkinds x.1 (List.of_mem_zip hx).1) (fun h' hns hsb hz1 ht1=>?_) hk))
  have keep:∀ a o,s.heap.get? a=some o→h'.get? a=some o:=fun a o e=>(hsb.2 a (Nat.ne_of_lt (Heap.lt_size e))).trans (Heap.get?_push_of_some _ e)
  have g:Grow W s { s with heap:=h',toks:=s.toks + (names.zip vs).length } F F:=Grow.of_keeps [] b keep (fun _ h=>nomatch h) hz1 ht1 rfl .rfl
  let env:Env:=newEnv scope s.heap.objs.size mainGlobals [] (qual ++ ".<locals>.") (some f) (.ref c') none builtinsNs
  have st:St prog w W ⟨s,F,env⟩ false (names.zip (xs.map Bd.val)) [] { s with heap:=h',toks:=s.toks + (names.zip vs).length } F:=by
    refine ⟨b.grow g,g,b.size,rfl,rfl,hk,⟨_,hns⟩,Nat.le_refl _,fun p hp=>Nat.ne_of_lt (Heap.lt_size (b.has p hp)),fun _ h=>(nomatch h),fun _ h=>(nomatch h),fun n c hc=>?_,fun n n' c h1 h2=>?_,fun x hx=>?_,fun y bd hy=>?_,?_⟩
    · have h':List.lookup n ([]:List (Str × Addr))=some c:=hc
      cases h'
    · have h':List.lookup n ([]:List (Str × Addr))=some c:=h1
      cases h'
    · exact absurd rfl (hcell _ (mem_of_lookup (show scope.names.lookup x=some .cell from hx)))
    · obtain ⟨h1,x,v,e1,e2,e3⟩:=zip_lookup hv hy
      subst e1
      exact ⟨v,.inl ⟨hkinds y h1,_,hns,zip_reverse_lookup (by rw [hbm]; exact hn) e2⟩,e3⟩
    · intro x y bx by' a hne h1 h2 o1 o2
      obtain ⟨_,z,v,e1,_⟩:=zip_lookup hv h1
      subst e1
      cases o1
  refine ⟨W.nolimit.keeps (fun a o e=>keep a o (b.base a o e)),kla_codeExpr ?_⟩
  exact hex ⟨s,F,env⟩ [] _ F rfl st _ _ _ (rm.deeper env) fun v s' F' g' hv'=>q v s' F' (g.trans g') hv'
end Mine
namespace Mine
def runB {α:Type} (lt:Nat→Nat→Bool) (n:Nat):KasT α→Option α
  | .ret a=>some a
  | .ask i j k=>if i < n∧j < n then runB lt n (k (lt i j)) else none
theorem runB_wp {α:Type} {lt:Nat→Nat→Bool} {n:Nat} {cmp:Nat→Nat→(Bool→Shared→Prop)→Shared→Prop} {Q:α→Shared→Prop} {s:Shared} (hc:∀ i j C,i < n→j < n→C (lt i j) s→cmp i j C s) :
    ∀ {t:KasT α} {a:α},runB lt n t=some a→Q a s→t.kasWp cmp Q s
  | .ret a,b,h,q=>by cases h; exact q
  | .ask i j k,b,h,q=>by
    unfold runB at h
    split at h
    · rename_i hij
      exact hc i j _ hij.1 hij.2 (runB_wp hc h q)
    · cases h
def allBut (h:Heap) (X:List Nat):Led:=(List.range h.objs.size).filterMap fun a=>if a ∈ X then none else (h.get? a).map fun o=>(a,o)
theorem mem_allBut {h:Heap} {X:List Nat} {p:Addr × Obj}:p ∈ allBut h X ↔ p.1 ∉ X∧h.get? p.1=some p.2:=by
  unfold allBut
  rw [List.mem_filterMap]
  constructor
  · rintro ⟨a,_,h1⟩
    split at h1
    · cases h1
    · rename_i hn
      cases ho:h.get? a with
      | none=>rw [ho] at h1; cases h1
      | some o=>rw [ho] at h1; cases h1; exact ⟨hn,ho⟩
  · rintro ⟨h1,h2⟩
    refine ⟨p.1,List.mem_range.mpr (Heap.lt_size h2),?_⟩
    rw [if_neg h1,h2]; rfl
abbrev h00:Heap:={ objs:=#[] }
theorem h00_none (a:Nat):h00.get? a=none:=get_new_none (Nat.zero_le _)
theorem fr00 {h:Heap} {L:Nat} {m:Str→Option Value} (hn:h.Ns L m):Fr h00 L h m:=⟨hn,fun b o e=>absurd (e.symm.trans (h00_none b)) (by simp),Nat.zero_le _⟩
section
variable {prog:Program} {w:World} {A:Around} {E:Value→Shared→Prop} {s:Shared}
theorem sorted_key {L l:Addr} {m:Str→Option Value} {vs:List Value} {f:Value} {kw:List (Str × Value)} {Q:Value→Shared→Prop} (hns:s.heap.Ns L m) (hl:s.heap.IsList l vs.toArray) (h2:2≤vs.length) (h64:vs.length < 64)
    (ha1:argsOk "sorted" ⟨[.ref l],kw⟩) (ha2:∀ x,argsOk "list.sort" ⟨[.ref x],kw⟩) (ht:∀ x,Builtin.«list.sort» ⟨[.ref x],kw⟩=ksk_tree x f false)
    (h:∀ kS e1 h',h'.Ns L m→News h00 L h' ((kS,seqObj "list" #[] 0) :: (s.heap.objs.size + 1,seqObj "list" #[] e1) :: allBut s.heap [L])→s.heap.objs.size + 1 < kS →
      KatKeys prog w A.in1.in1 h00 L m kS f (fun ks e s'=>ks.length=vs.length→wpAny (model prog w) A.in1.in1 (keyKind' (List.toArray ks)) (fun κ s''=>(kas_sort vs.length).kasWp (kas_ask prog w A.in1.in1 κ ks) (fun p s3=>KatFin h00 L m kS (s.heap.objs.size + 1) ks e e1 (p.toList.map fun i=>vs.getD i Value.none) (fun s4=>Q (.ref (s.heap.objs.size + 1)) s4) s3) s'') (fun _ _=>False) s') vs [] 0 { s with heap:=h' }) :
    wpAny (model prog w) A (call (.builtin "sorted") [.ref l] kw) Q E s:=by
  have F:=fr00 hns
  have N:News h00 L s.heap (allBut s.heap [L]):=fun p hp=>by
    obtain ⟨h1,h2⟩:=mem_allBut.mp hp
    exact ⟨h2,by simpa using h1,h00_none _⟩
  refine call_function_entry_kw kind_sorted plain_sorted entry_sorted ha1 ?_
  unfold Builtin.«sorted»
  refine wpAny_bind (m:=checkCount "sorted" 1 1 _) (wpAny_pure ?_)
  refine wpAny_bind (collect_list hl ?_ (by rw [sizeLine_eq]; omega))
  refine wpAny_bind (wpAny_newList ?_ (by rw [sizeLine_eq]; omega))
  have hsz:((s.heap.push (seqObj "list" #[] 0)).update s.heap.objs.size (Obj.mapSeq (· ++ vs.toArray))).objs.size=s.heap.objs.size + 1:=by
    rw [Heap.size_update,size_push']
  have hoL:(((s.heap.push (seqObj "list" #[] 0)).update s.heap.objs.size (Obj.mapSeq (· ++ vs.toArray))).push (seqObj "list" vs.toArray 0)).get? (s.heap.objs.size + 1)=some (seqObj "list" vs.toArray 0):=by
    rw [← hsz]; exact Heap.get?_push_size _ rfl
  have keep:∀ b o,s.heap.get? b=some o→(((s.heap.push (seqObj "list" #[] 0)).update s.heap.objs.size (Obj.mapSeq (· ++ vs.toArray))).push (seqObj "list" vs.toArray 0)).get? b=some o:=fun b o q=>by
    have hlt:b < s.heap.objs.size:=Heap.lt_size q
    refine Heap.get?_push_of_some _ ((Heap.get?_update_other _ _ (Nat.ne_of_gt hlt)).trans (Heap.get?_push_of_some _ q))
  have hL:L < s.heap.objs.size:=F.ns.lt
  show wpAny _ _ _ _ _ { s with heap:=((s.heap.push (seqObj "list" #[] 0)).update s.heap.objs.size (Obj.mapSeq (· ++ vs.toArray))).push (seqObj "list" vs.toArray 0) }
  rw [hsz]
  refine wpAny_bind (wpAny_holding (wpAny_call_entry_kw slot_list_sort ⟨_,hoL,rfl⟩ entry_list_sort ?body (ha2 _)))
  case body =>
    have ht':=ht (s.heap.objs.size + 1)
    show wpAny (model prog w) A.in1.in1 (Builtin.«list.sort» ⟨[.ref (s.heap.objs.size + 1)],kw⟩) _ _ _
    rw [ht']
    refine kat_keyed (b:=false) (s:={ s with heap:=((s.heap.push (seqObj "list" #[] 0)).update s.heap.objs.size (Obj.mapSeq (· ++ vs.toArray))).push (seqObj "list" vs.toArray 0) })
      (F.kept keep) (N.grown keep) hoL (Nat.ne_of_gt (Nat.lt_succ_of_lt hL)) (h00_none _) (fun p hp=>Nat.ne_of_lt (Nat.lt_succ_of_lt (Heap.lt_size (N p hp).1))) h2 h64 fun kS e1 h' F' N' l0 l1=>?_
    refine kat_keys_mono (h kS e1 h' F'.ns N' l0) fun ks e s' hl' hd=>?_
    have hl2:ks.length=vs.length:=by simpa using hl'
    refine wpAny_mono (hd hl2) (fun κ s'' hk=>?_) fun _ _ x=>x
    show (kas_sort vs.length).kasWp (kas_ask prog w A.in1.in1 κ ks) (fun p s3=>KatFin h00 L m kS (s.heap.objs.size + 1) ks e e1 (p.toList.map fun i=>vs.getD i Value.none) _ s3) s''
    rw [kat_ask_eq (vs:=vs) hl2] at hk ⊢
    exact kas_wp_mono hk fun p s3 hk'=>hk'.mono fun s4 hq=>⟨_,rfl,wpAny_pure ⟨_,rfl,hq⟩⟩
end
end Mine
namespace Mine
variable {prog:Program} {w:World} {W:Wd} {k:Nat} {A:Around}
structure KInv (W:Wd) (L D kS:Nat) (m:Str→Option Value) (s₀ s:Shared) (F₀ F:Fz):Prop where
  gx:GrowX W [L,D,kS] s₀ s F₀ F
  ns:s.heap.Ns L m
  offs:∀ p ∈ F.obs,p.1≠L∧p.1≠D∧p.1≠kS
structure KEnv (W:Wd) (L D kS:Nat) (s₀:Shared) (F₀:Fz):Prop where
  base:Base W s₀ F₀
  bL:W.base.get? L=none
  bD:W.base.get? D=none
  bk:W.base.get? kS=none
  tL:¬ W.tab L
  tD:¬ W.tab D
  tk:¬ W.tab kS
  Dnew:s₀.heap.objs.size≤D
  knew:s₀.heap.objs.size≤kS
  LD:L≠D
  Lk:L≠kS
  Dk:D≠kS
theorem KInv.base {L D kS:Nat} {m:Str→Option Value} {s₀ s:Shared} {F₀ F:Fz} (K:KEnv W L D kS s₀ F₀) (x:KInv W L D kS m s₀ s F₀ F):Base W s F :=
  K.base.growX x.gx fun a ha=>by
    simp only [List.mem_cons,List.not_mem_nil,or_false] at ha
    rcases ha with rfl | rfl | rfl
    · exact K.bL
    · exact K.bD
    · exact K.bk
theorem keys_run {L D kS:Nat} {m:Str→Option Value} {s₀:Shared} {F₀:Fz} {xs:List Str} {key:Str→Dat} {f:Value} {oD:Obj} {Fin:List Value→Nat→Shared→Prop} (K:KEnv W L D kS s₀ F₀) (rm:Room k A)
    (hcall:∀ x ∈ xs,∀ s F v,Base W s F→F₀.le F→Rep F v (.str x)→Gives prog w W k (call f [v]) s F (Is prog w (.dat (key x))))
    (hfin:∀ ks e s F,Reps F ks (xs.map key)→KInv W L D kS m s₀ s F₀ F→s.heap.get? kS=some (seqObj "list" (List.toArray ks) e)→s.heap.get? D=some oD→Fin ks e s) :
    ∀ (rx dx:List Str) (r ks:List Value) (e:Nat) (s:Shared) (F:Fz),dx ++ rx=xs→Reps F₀ r (rx.map Dat.str)→Reps F ks (dx.map key)→KInv W L D kS m s₀ s F₀ F→s.heap.get? kS=some (seqObj "list" (List.toArray ks) e)→s.heap.get? D=some oD →
      KatKeys prog w A h00 L m kS f Fin r ks e s:=by
  intro rx
  induction rx with
  | nil =>
    intro dx r ks e s F hxs hr hks ki hk hD
    cases hr
    rw [List.append_nil] at hxs
    subst hxs
    exact KatKeys.nil (hfin ks e s F hks ki hk hD)
  | cons x rx ih =>
    intro dx r ks e s F hxs hr hks ki hk hD
    cases hr with
    | cons hv hr =>
    rename_i v r
    have bs:=ki.base K
    refine KatKeys.cons (hcall x (by rw [← hxs]; simp) s F v bs ki.gx.sub (hv.mono ki.gx.sub) A _ _ rm fun v' s₁ F₁ g₁ hv'=>?_)
    have b₁:=bs.grow g₁
    have hk₁:s₁.heap.get? kS=_:=g₁.keep _ _ K.tk hk
    have hD₁:s₁.heap.get? D=_:=g₁.keep _ _ K.tD hD
    have ns₁:s₁.heap.Ns L m:=Ns.off (W:=W) ki.ns K.tL g₁.keep
    have offs₁:∀ p ∈ F₁.obs,p.1≠L∧p.1≠D∧p.1≠kS:=fun p hp=>by
      rcases g₁.new p hp with h | h
      · exact ki.offs p h
      · have lt:∀ {c:Nat} {o:Obj},s.heap.get? c=some o→p.1≠c:=fun e q=>absurd (Heap.lt_size e) (Nat.not_lt.mpr (q ▸ h))
        obtain ⟨oL,_,_,hoL,_⟩:=ki.ns
        exact ⟨lt hoL,lt hD,lt hk⟩
    refine ⟨(kS,seqObj "list" (List.toArray ks) e) :: allBut s₁.heap [L,kS],fun o'=>(kS,o') :: allBut s₁.heap [L,kS],fr00 ns₁,fun p hp=>?_,.head fun p hp=>?_,fun h' c F' N'=>?_⟩
    · rcases List.mem_cons.mp hp with rfl | hp
      · exact ⟨hk₁,Ne.symm K.Lk,h00_none _⟩
      · obtain ⟨h1,h2⟩:=mem_allBut.mp hp
        exact ⟨h2,fun q=>h1 (by rw [q]; exact .head _),h00_none _⟩
    · obtain ⟨h1,_⟩:=mem_allBut.mp hp
      exact fun q=>h1 (by rw [q]; exact .tail _ (.head _))
    · have hk':h'.get? kS=some (seqObj "list" (List.toArray (ks ++ [v'])) c):=(N' _ (.head _)).1
      have keep':∀ a o,a≠L→a≠kS→s₁.heap.get? a=some o→h'.get? a=some o:=fun a o h1 h2 ho=>(N' (a,o) (.tail _ (mem_allBut.mpr ⟨by simp [h1,h2],ho⟩))).1
      have ksz:=Heap.lt_size hk'
      have gx':GrowX W [L,D,kS] s₀ { s₁ with heap:=h' } F₀ F₁:=by
        have g01:GrowX W [L,D,kS] s₀ s₁ F₀ F₁:=ki.gx.trans g₁.x
        refine ⟨fun a o ht hn ho=>?_,fun p hp=>?_,g01.sub,g01.new,g01.tok,g01.toks,?_,g01.os,g01.gens,g01.tabs.keeps fun a o ha ho=>keep' a o (fun q=>K.tL (q ▸ ha)) (fun q=>K.tk (q ▸ ha)) ho⟩
        · have hn':=hn
          simp only [List.mem_cons,List.not_mem_nil,or_false,not_or] at hn'
          exact keep' a o hn'.1 hn'.2.2 (g01.keep a o ht hn ho)
        · obtain ⟨h1,h2,h3⟩:=offs₁ p hp
          exact keep' _ _ h1 h3 (b₁.has p hp)
        · exact Nat.le_trans K.knew (Nat.le_of_lt ksz)
      refine ih (dx ++ [x]) r (ks ++ [v']) c { s₁ with heap:=h' } F₁ (by rw [List.append_assoc]; exact hxs) hr ?_ ⟨gx',F'.ns,offs₁⟩ hk' (keep' _ _ (Ne.symm K.LD) K.Dk hD₁)
      rw [List.map_append]
      exact (hks.mono g₁.sub).append (.one hv')
end Mine
namespace Mine
variable {prog:Program} {w:World} {W:Wd} {k:Nat} {A:Around} {s:Shared} {F:Fz}
theorem reps_pick_at {F:Fz} {vs:List Value} {xs:List Str} (h:Reps F vs (xs.map Dat.str)):∀ (is:List Nat),(∀ i ∈ is,i < xs.length)→Reps F (is.map fun i=>vs.getD i Value.none) ((is.map fun i=>xs.getD i Str.empty).map Dat.str)
  | [],_=>.nil
  | i :: is,hb=>by
    have hi:=hb i (.head _)
    have hd:(xs.map Dat.str)[i]?=some (.str (xs.getD i Str.empty)):=by
      rw [List.getElem?_map,List.getElem?_eq_getElem hi,List.getD_eq_getElem?_getD,List.getElem?_eq_getElem hi]; rfl
    obtain ⟨v,h1,h2⟩:=h.get hd
    refine .cons ?_ (reps_pick_at h is fun j hj=>hb j (.tail _ hj))
    show Rep F (vs.getD i Value.none) _
    rw [List.getD_eq_getElem?_getD,h1]
    exact h2
theorem sorted_call {L l n:Nat} {m:Str→Option Value} {vs:List Value} {xs outs:List Str} {key:Str→Dat} {f:Value} {kw:List (Str × Value)} {κ:SortKind} {lt:Nat→Nat→Bool} {p:Array Nat} {Q:Value→Shared→Prop} {E:Value→Shared→Prop}
    (b:Base W s F) (hl:(l,listOf vs.toArray n) ∈ F.obs) (hr:Reps F vs (xs.map Dat.str)) (hns:s.heap.Ns L m) (bL:W.base.get? L=none) (tL:¬ W.tab L) (offL:∀ p ∈ F.obs,p.1≠L) (rm:Room (k + 2) A) (h2:2≤xs.length) (h64:xs.length < 64)
    (ha1:argsOk "sorted" ⟨[.ref l],kw⟩) (ha2:∀ x,argsOk "list.sort" ⟨[.ref x],kw⟩) (ht:∀ x,Builtin.«list.sort» ⟨[.ref x],kw⟩=ksk_tree x f false)
    (hcall:∀ x ∈ xs,∀ s F' v,Base W s F'→F.le F'→Rep F' v (.str x)→Gives prog w W k (call f [v]) s F' (Is prog w (.dat (key x))))
    (hk:∀ (A:Around) (ks:List Value) (s:Shared) (F:Fz) (Q:SortKind→Shared→Prop),Reps F ks (xs.map key)→(∀ p ∈ F.obs,s.heap.get? p.1=some p.2)→Q κ s→wpAny (model prog w) A (keyKind' (List.toArray ks)) Q (fun _ _=>False) s)
    (hlt:∀ (A:Around) (ks:List Value) (s:Shared) (F:Fz) (i j:Nat) (C:Bool→Shared→Prop),Reps F ks (xs.map key)→(∀ p ∈ F.obs,s.heap.get? p.1=some p.2)→i < xs.length→j < xs.length→C (lt i j) s→kas_ask prog w A κ ks i j C s)
    (hrun:runB lt xs.length (kas_sort xs.length)=some p) (hpb:∀ i ∈ p.toList,i < xs.length) (hout:(p.toList.map fun i=>xs.getD i Str.empty)=outs)
    (q:∀ v s' F',GrowX W [L] s s' F F'→s'.heap.Ns L m→(∀ p ∈ F'.obs,p.1≠L)→Rep F' v (.list (outs.map Dat.str))→Q v s'):wpAny (model prog w) A (call (.builtin "sorted") [.ref l] kw) Q E s:=by
  have hlen:vs.length=xs.length:=by simpa using hr.length
  have hLlt:=hns.lt
  refine sorted_key hns (isList_of b hl) (by omega) (by omega) ha1 ha2 ht fun kS e1 h' hn' N' hDk=>?_
  have hk':h'.get? kS=some (seqObj "list" #[] 0):=(N' _ (.head _)).1
  have hD':h'.get? (s.heap.objs.size + 1)=some (seqObj "list" #[] e1):=(N' _ (.tail _ (.head _))).1
  have keep':∀ a o,a≠L→s.heap.get? a=some o→h'.get? a=some o:=fun a o h1 ho=>(N' (a,o) (.tail _ (.tail _ (mem_allBut.mpr ⟨by simp [h1],ho⟩)))).1
  have ksz:@LT.lt Nat _ kS h'.objs.size:=Heap.lt_size hk'
  have hn:∀ {a b:Nat},a≠b→a≠b:=fun h=>h
  have hL2:@LT.lt Nat _ L s.heap.objs.size:=hLlt
  have hDk2:@LT.lt Nat _ (s.heap.objs.size + 1) kS:=hDk
  have K:KEnv W L (s.heap.objs.size + 1) kS s F:=⟨b,bL,get_new_none (Nat.le_trans b.size (Nat.le_succ _)),get_new_none (Nat.le_trans b.size (by omega)),tL,b.not_tab_of_size (Nat.le_succ _),b.not_tab_of_size (by omega),Nat.le_succ _,by omega,hn (by omega),hn (by omega),hn (by omega)⟩
  have gx:GrowX W [L,s.heap.objs.size + 1,kS] s { s with heap:=h' } F F:=by
    refine ⟨fun a o _ h1 ho=>keep' a o (fun e=>h1 (e ▸ .head _)) ho,fun p hp=>keep' _ _ (offL p hp) (b.has p hp),.rfl,fun _ h=>.inl h,b.tok,Nat.le_refl _,?_,rfl,.rfl,b.tabs.keeps fun a o ha ho=>keep' a o (fun e=>tL (e ▸ ha)) ho⟩
    show _≤h'.objs.size
    omega
  have old:∀ p ∈ F.obs,p.1≠L∧p.1≠s.heap.objs.size + 1∧p.1≠kS:=fun p hp=>by
    have h1:@LT.lt Nat _ p.1 s.heap.objs.size:=Heap.lt_size (b.has p hp)
    exact ⟨offL p hp,hn (by omega),hn (by omega)⟩
  refine keys_run (A:=A.in1.in1) (xs:=xs) (key:=key) (F₀:=F) (s₀:=s) (oD:=seqObj "list" #[] e1) (W:=W) K (rm.in1.in1) hcall (fun ks e s₂ F₂ hks ki hkS hD hl2=>?_) xs [] vs [] 0 { s with heap:=h' } F rfl hr .nil ⟨gx,hn',old⟩ hk' hD'
  have b₂:=ki.base K
  refine hk _ ks s₂ F₂ _ hks b₂.has ?_
  rw [hlen]
  refine runB_wp (lt:=lt) (n:=xs.length) (fun i j C hi hj hC=>hlt _ ks s₂ F₂ i j C hks b₂.has hi hj hC) hrun ?_
  refine ⟨(kS,seqObj "list" (List.toArray ks) e) :: allBut s₂.heap [L,kS],fun o'=>(kS,o') :: allBut s₂.heap [L,kS],fr00 ki.ns,fun p hp=>?_,.head fun p hp=>?_,fun h₃ c F₃ N₃=>?_⟩
  · rcases List.mem_cons.mp hp with rfl | hp
    · exact ⟨hkS,Ne.symm K.Lk,h00_none _⟩
    · obtain ⟨h1,h2⟩:=mem_allBut.mp hp
      exact ⟨h2,fun q=>h1 (by rw [q]; exact .head _),h00_none _⟩
  · obtain ⟨h1,_⟩:=mem_allBut.mp hp
    exact fun q=>h1 (by rw [q]; exact .tail _ (.head _))
  have keep₃:∀ a o,a≠L→a≠kS→s₂.heap.get? a=some o→h₃.get? a=some o:=fun a o h1 h2 ho=>(N₃ (a,o) (.tail _ (mem_allBut.mpr ⟨by simp [h1,h2],ho⟩))).1
  have hD₃:=keep₃ _ _ (Ne.symm K.LD) K.Dk hD
  have hkS₃:h₃.get? kS=_:=(N₃ _ (.head _)).1
  refine ⟨(s.heap.objs.size + 1,seqObj "list" #[] e1) :: allBut h₃ [L,s.heap.objs.size + 1],fun o'=>(s.heap.objs.size + 1,o') :: allBut h₃ [L,s.heap.objs.size + 1],fr00 F₃.ns,fun p hp=>?_,.head fun p hp=>?_,fun h₄ c₄ F₄ N₄=>?_⟩
  · rcases List.mem_cons.mp hp with rfl | hp
    · exact ⟨hD₃,Ne.symm K.LD,h00_none _⟩
    · obtain ⟨h1,h2⟩:=mem_allBut.mp hp
      exact ⟨h2,fun q=>h1 (by rw [q]; exact .head _),h00_none _⟩
  · obtain ⟨h1,_⟩:=mem_allBut.mp hp
    exact fun q=>h1 (by rw [q]; exact .tail _ (.head _))
  have keep₄:∀ a o,a≠L→a≠s.heap.objs.size + 1→h₃.get? a=some o→h₄.get? a=some o:=fun a o h1 h2 ho=>(N₄ (a,o) (.tail _ (mem_allBut.mpr ⟨by simp [h1,h2],ho⟩))).1
  have hD₄:h₄.get? (s.heap.objs.size + 1)=some (listOf (p.toList.map fun i=>vs.getD i Value.none).toArray c₄):=(N₄ _ (.head _)).1
  have hkS₄:=keep₄ _ _ (Ne.symm K.Lk) (Ne.symm K.Dk) hkS₃
  have ksz₄:@LT.lt Nat _ kS h₄.objs.size:=Heap.lt_size hkS₄
  let oF:Obj:=listOf (p.toList.map fun i=>vs.getD i Value.none).toArray c₄
  refine q _ _ (F₂.ob (s.heap.objs.size + 1) oF) ⟨fun a o hta hna ho=>?_,fun p hp=>?_,ki.gx.sub.trans (Fz.le_ob _ _ _),fun p hp=>?_,ki.gx.tok,ki.gx.toks,?_,ki.gx.os,ki.gx.gens,?_⟩ F₄.ns (fun p hp=>?_) (.list (.head _) ?_)
  · have h1:@LT.lt Nat _ a s.heap.objs.size:=Heap.lt_size ho
    have hna':a≠L:=by simpa using hna
    have n1:a≠s.heap.objs.size + 1:=hn (by omega)
    have n2:a≠kS:=hn (by omega)
    exact keep₄ _ _ hna' n1 (keep₃ _ _ hna' n2 (ki.gx.keep a o hta (by simp [hna',n1,n2]) ho))
  · rcases List.mem_cons.mp hp with rfl | hp
    · exact hD₄
    · obtain ⟨n1,n2,n3⟩:=ki.offs p hp
      exact keep₄ _ _ n1 n2 (keep₃ _ _ n1 n3 (b₂.has p hp))
  · rcases List.mem_cons.mp hp with rfl | hp
    · exact .inr (Nat.le_succ _)
    · exact ki.gx.new p hp
  · show _≤h₄.objs.size
    omega
  · refine (ki.gx.tabs.keeps fun a o ha ho=>keep₄ _ _ (fun e=>tL (e ▸ ha)) (fun e=>K.tD (e ▸ ha)) (keep₃ _ _ (fun e=>tL (e ▸ ha)) (fun e=>K.tk (e ▸ ha)) ho)).mono (Fz.le_ob _ _ _)
  · rcases List.mem_cons.mp hp with rfl | hp
    · exact Ne.symm K.LD
    · exact (ki.offs p hp).1
  · rw [← hout]
    exact (reps_pick_at hr p.toList hpb).mono (ki.gx.sub.trans (Fz.le_ob _ _ _))
end Mine
namespace Mine
section
variable {prog:Program} {w:World} {W:Wd} {fr:Frm} {fn:Bool} {Γ:Ctx'} {P:Led} {s s':Shared} {F F':Fz}
theorem St.slots (x:St prog w W fr fn Γ P s F) (g:GrowX W [fr.env.locals] s s' F F') (hn:∀ m,s.heap.Ns fr.env.locals m→s'.heap.Ns fr.env.locals m):St prog w W fr fn Γ P s' F':=by
  have kp:∀ a o,¬ W.tab a→a≠fr.env.locals→s.heap.get? a=some o→s'.heap.get? a=some o:=fun a o ht hne e=>g.keep a o ht (by simpa using hne) e
  have newF:∀ a,a < s.heap.objs.size→(∀ p ∈ F.obs,p.1≠a)→∀ p ∈ F'.obs,p.1≠a:=fun a ha h p hp e=>by
    rcases g.new p hp with q | q
    · exact h p q e
    · rw [e] at q; exact absurd ha (Nat.not_lt.mpr q)
  have hC:∀ n c v,fr.env.cells.lookup n=some c→s.heap.IsCell c v→s'.heap.IsCell c v:=fun n c v hc ⟨o,ho,r⟩=>⟨o,kp _ _ (x.cell _ _ hc).2.2.2.2.1 (x.cell _ _ hc).2.1 ho,r⟩
  have hv:∀ y v,VarAt s.heap fr.env y v→VarAt s'.heap fr.env y v:=fun y v h=>h.keeps hn fun c v hc hv=>hC _ c v hc hv
  have hb:∀ a ∈ [fr.env.locals],W.base.get? a=none:=fun a ha=>by
    cases List.mem_singleton.mp ha
    exact get_new_none (Nat.le_trans x.bsize x.nsNew)
  obtain ⟨mL,hmL⟩:=x.ns
  refine ⟨x.base.growX g hb,⟨fun a o ht e=>?_,g.has,x.grow.sub.trans g.sub,fun p hp=>?_,g.tok,Nat.le_trans x.grow.toks g.toks,Nat.le_trans x.grow.size g.size,g.os.trans x.grow.os,x.grow.gens.trans g.gens,g.tabs⟩,
    x.bsize,x.glob,x.blt,x.kind,⟨mL,hn mL hmL⟩,x.nsNew,newF _ hmL.lt x.nsF,x.nsP,?_,?_,x.inj,x.cells,?_,?_⟩
  · refine kp a o ht (fun q=>?_) (x.grow.keep a o ht e)
    rw [q] at e
    exact absurd (Heap.lt_size e) (Nat.not_lt.mpr x.nsNew)
  · rcases g.new p hp with h | h
    · exact x.grow.new p h
    · exact .inr (Nat.le_trans x.grow.size h)
  · intro p hp
    obtain ⟨h1,h2,h3⟩:=x.prv p hp
    exact ⟨kp _ _ h2 (x.nsP p hp) h1,h2,newF _ (Heap.lt_size h1) h3⟩
  · intro n c hc
    obtain ⟨⟨v,h1⟩,h2,h3,h4,h5,h6⟩:=x.cell n c hc
    exact ⟨⟨v,hC n c v hc h1⟩,h2,fun hf=>newF _ h1.lt (h3 hf),h4,h5,h6⟩
  · intro y b hy
    obtain ⟨v,h1,h2⟩:=x.vars y b hy
    refine ⟨v,hv _ _ h1,?_⟩
    cases b with
    | val x=>exact V.is.mono g.sub h2
    | lst ds =>
      obtain ⟨a,vs,n,e,h3,h4,h5⟩:=h2
      exact ⟨a,vs,n,e,kp _ _ (h5.tab x.bsize) h5.loc h3,h4.mono g.sub,h5.new,h5.loc,h5.cel,h5.prv,newF _ (Heap.lt_size h3) h5.frz⟩
    | byt bs =>
      obtain ⟨a,n,e,h3,h5⟩:=h2
      exact ⟨a,n,e,kp _ _ (h5.tab x.bsize) h5.loc h3,h5.new,h5.loc,h5.cel,h5.prv,newF _ (Heap.lt_size h3) h5.frz⟩
    | dic kvs =>
      obtain ⟨a,kvv,e,h3,h4,h5⟩:=h2
      exact ⟨a,kvv,e,(let ⟨o,es,ep,ho,r⟩:=h3; ⟨o,es,ep,kp _ _ (h5.tab x.bsize) h5.loc ho,r⟩),h4.mono g.sub,h5.new,h5.loc,h5.cel,h5.prv,newF _ (DictOf.lt h3) h5.frz⟩
  · intro y z by' bz a hne h1 h2 o1 o2 v1 v2
    obtain ⟨u1,w1,_⟩:=x.vars y by' h1
    obtain ⟨u2,w2,_⟩:=x.vars z bz h2
    cases (hv _ _ w1).unique v1
    cases (hv _ _ w2).unique v2
    exact x.apart y z by' bz a hne h1 h2 o1 o2 w1 w2
end
section
variable (w:World) (W:Wd) (φ:Env→Prop)
structure Alone (A:Around) (fr:Frm):Prop where
  frames:A.frames=some [fr.env]
  frame:fr.env.frame=some fr.env.locals
  ph:φ fr.env
def EvS (k:Nat) (sc:Scope) (fn:Bool) (Γ:Ctx') (e:Expr) (x:V):Prop :=
  ∀ fr P s F,fr.env.scope=sc→St pw w W fr fn Γ P s F→∀ (A:Around) (Q:Value→Shared→Prop) (E:Value→Shared→Prop),Room k A→Alone φ A fr →
    (∀ v s' F',St pw w W fr fn Γ P s' F'→F.le F'→x.is pw w F' v→Q v s')→wpAny (model pw w) A (eval e fr.env) Q E s
def EvLS (k:Nat) (sc:Scope) (fn:Bool) (Γ:Ctx') (es:List Expr) (xs:List V):Prop :=
  ∀ fr P s F,fr.env.scope=sc→St pw w W fr fn Γ P s F→∀ (pos:Pos) (A:Around) (Q:List Value→Shared→Prop) (E:Value→Shared→Prop),Room k A→Alone φ A fr →
    (∀ vs s' F',St pw w W fr fn Γ P s' F'→F.le F'→VsIs pw w F' vs xs→Q vs s')→wpAny (model pw w) A (spliced (backTo pos (starEach es fr.env))) Q E s
def EvBS (k:Nat) (sc:Scope) (fn:Bool) (Γ:Ctx') (e:Expr) (b:Bool):Prop :=
  ∀ fr P s F,fr.env.scope=sc→St pw w W fr fn Γ P s F→∀ (A:Around) (Q:Bool→Shared→Prop) (E:Value→Shared→Prop),Room k A→Alone φ A fr →
    (∀ s' F',St pw w W fr fn Γ P s' F'→F.le F'→Q b s')→wpAny (model pw w) A (isTrue e fr.env (eval e fr.env)) Q E s
def EvAS (k:Nat) (sc:Scope) (fn:Bool) (Γ:Ctx') (op:BoolOp) (es:List Expr) (b:Bool):Prop :=
  ∀ fr P s F,fr.env.scope=sc→St pw w W fr fn Γ P s F→∀ (A:Around) (Q:Bool→Shared→Prop) (E:Value→Shared→Prop),Room k A→Alone φ A fr →
    (∀ s' F',St pw w W fr fn Γ P s' F'→F.le F'→Q b s')→wpAny (model pw w) A (allTrue op es fr.env) Q E s
def ExS (k:Nat) (sc:Scope) (fn:Bool) (Γ:Ctx') (ss:List Stmt) (o:Out):Prop :=
  ∀ fr P s F,fr.env.scope=sc→St pw w W fr fn Γ P s F→∀ (A:Around) (Q:Flow→Shared→Prop) (E:Value→Shared→Prop),Room k A→Alone φ A fr →
    (∀ fl s' F',o.ok pw w W fr fn P fl s' F'→F.le F'→Q fl s')→wpAny (model pw w) A (execs ss fr.env) Q E s
def Ex1S (k:Nat) (sc:Scope) (fn:Bool) (Γ:Ctx') (st:Stmt) (o:Out):Prop :=
  ∀ fr P s F,fr.env.scope=sc→St pw w W fr fn Γ P s F→∀ (A:Around) (Q:Flow→Shared→Prop) (E:Value→Shared→Prop),Room k A→Alone φ A fr →
    (∀ fl s' F',o.ok pw w W fr fn P fl s' F'→F.le F'→Q fl s')→wpAny (model pw w) A (exec st fr.env) Q E s
end
section
variable {w:World} {W:Wd} {φ:Env→Prop} {k:Nat} {sc:Scope} {fn:Bool} {Γ Γ' Γ'':Ctx'}
theorem evs_of {e:Expr} {x:V} (h:Ev pw w W k sc fn Γ e x):EvS w W φ k sc fn Γ e x:=fun fr P s F hsc st A Q E rm al q =>
  h fr P s F hsc st A Q E rm fun v s' F' g hv=>q v s' F' (st.step g) g.sub hv
theorem evbs_of {e:Expr} {b:Bool} (h:EvB pw w W k sc fn Γ e b):EvBS w W φ k sc fn Γ e b:=fun fr P s F hsc st A Q E rm al q =>
  h fr P s F hsc st A Q E rm fun s' F' g=>q s' F' (st.step g) g.sub
theorem exs_of {ss:List Stmt} {o:Out} (h:Ex pw w W k sc fn Γ ss o):ExS w W φ k sc fn Γ ss o:=fun fr P s F hsc st A Q E rm al q=>h fr P s F hsc st A Q E rm q
theorem ex1s_of {st:Stmt} {o:Out} (h:Ex1 pw w W k sc fn Γ st o):Ex1S w W φ k sc fn Γ st o:=fun fr P s F hsc st A Q E rm al q=>h fr P s F hsc st A Q E rm q
theorem evls_nil:EvLS w W φ k sc fn Γ [] []:=fun fr P s F hsc st pos A Q E rm al q=>spliced_nil (q _ _ _ st .rfl .nil)
theorem evls_cons {e:Expr} {es:List Expr} {x:V} {xs:List V} (he:EvS w W φ k sc fn Γ e x) (hr:EvLS w W φ k sc fn Γ es xs)
    (hs:∀ env,starEach (e :: es) env=(false,eval e env) :: starEach es env:=by intro _; rfl):EvLS w W φ k sc fn Γ (e :: es) (x :: xs):=fun fr P s F hsc st pos A Q E rm al q=>by
  rw [hs]
  exact spliced_cons (he fr P s F hsc st A _ E rm al fun u s₁ F₁ st₁ h₁ hu=>hr fr P s₁ F₁ hsc st₁ pos A _ E rm al fun vs s₂ F₂ st₂ h₂ hv=>q _ s₂ F₂ st₂ (h₁.trans h₂) (.cons (V.is.mono h₂ hu) hv))
theorem evs_list {es:List Expr} {pos:Pos} {ds:List Dat} (h:EvLS w W φ k sc fn Γ es (ds.map V.dat)) (hz:ds.length≤sizeLine:=by first | decide | simp [sizeLine]):EvS w W φ k sc fn Γ (.List es pos) (.dat (.list ds)):=fun fr P s F hsc st A Q E rm al q =>
  List_ (h fr P s F hsc st pos A _ E rm al fun vs s₁ F₁ st₁ h₁ hv =>
    wpAny_newObj_type (q _ _ _ (st₁.step (Grow.push st₁.base _ (Nat.le_refl _) rfl)) (h₁.trans (Fz.le_ob _ _ _)) (.list (.head _) ((VsIs.reps hv).mono (Fz.le_ob _ _ _))))
      (by show vs.toArray.size≤sizeLine; rw [List.size_toArray,(VsIs.reps hv).length]; exact hz))
theorem evbs_cmp {l r:Expr} {op:CmpOp} {pos:Pos} {x y z:V} {b:Bool} (hl:EvS w W φ k sc fn Γ l x) (hr:EvS w W φ k sc fn Γ r y) (ho:CmpG pw w W k op x y z) (ht:TrG pw w W k z b)
    (hm:behindInMarks op r=false:=by with_unfolding_all rfl):EvBS w W φ k sc fn Γ (.Compare l [op] [r] pos) b:=fun fr P s F hsc st A Q E rm al q =>
  wpAny_isTrue_Compare1 (hl fr P s F hsc st A _ E rm al fun u s₁ F₁ st₁ h₁ hu =>
    hr fr P s₁ F₁ hsc st₁ A _ E rm al fun v s₂ F₂ st₂ h₂ hv =>
      ho s₂ F₂ u v st₂.base (V.is.mono h₂ hu) hv A _ E rm fun z s₃ F₃ g₃ hz =>
        ht s₃ F₃ z (st₂.step g₃).base hz A Q E rm fun s₄ F₄ g₄=>q s₄ F₄ ((st₂.step g₃).step g₄) (((h₁.trans h₂).trans g₃.sub).trans g₄.sub)) hm
theorem evbs_val {e:Expr} {x:V} {b:Bool} (he:EvS w W φ k sc fn Γ e x) (ht:TrG pw w W k x b)
    (hs:∀ env,isTrue e env (eval e env)=(do let v ← eval e env; standAt e.pos; holding [v] (truthy v)):=by intro _; rfl):EvBS w W φ k sc fn Γ e b:=fun fr P s F hsc st A Q E rm al q =>
  wpAny_isTrue_value (he fr P s F hsc st A _ E rm al fun u s₁ F₁ st₁ h₁ hu=>ht s₁ F₁ u st₁.base hu A Q E rm fun s₂ F₂ g₂=>q s₂ F₂ (st₁.step g₂) (h₁.trans g₂.sub)) (hs _)
theorem evbs_not {e:Expr} {pos:Pos} {b:Bool} (he:EvBS w W φ k sc fn Γ e b):EvBS w W φ k sc fn Γ (.UnaryOp .Not e pos) (!b):=fun fr P s F hsc st A Q E rm al q =>
  wpAny_isTrue_Not (he fr P s F hsc st A _ E rm al fun s₁ F₁ st₁ h₁=>q s₁ F₁ st₁ h₁)
theorem evbs_boolop {op:BoolOp} {es:List Expr} {pos:Pos} {b:Bool} (h:EvAS w W φ k sc fn Γ op es b):EvBS w W φ k sc fn Γ (.BoolOp op es pos) b:=fun fr P s F hsc st A Q E rm al q =>
  wpAny_isTrue_BoolOp (h fr P s F hsc st A Q E rm al q)
theorem evas_or_nil:EvAS w W φ k sc fn Γ .Or [] false:=fun fr P s F hsc st A Q E rm al q=>wpAny_allTrue_Or_nil (q _ _ st .rfl)
theorem evas_or_cons {e:Expr} {es:List Expr} {a b:Bool} (he:EvBS w W φ k sc fn Γ e a) (hr:a=false→EvAS w W φ k sc fn Γ .Or es b):EvAS w W φ k sc fn Γ .Or (e :: es) (a || b):=fun fr P s F hsc st A Q E rm al q =>
  wpAny_allTrue_Or_cons (he fr P s F hsc st A _ E rm al fun s₁ F₁ st₁ h₁=>by
    cases a with
    | false=>exact hr rfl fr P s₁ F₁ hsc st₁ A Q E rm al fun s₂ F₂ st₂ h₂=>q s₂ F₂ st₂ (h₁.trans h₂)
    | true=>exact q s₁ F₁ st₁ h₁)
theorem evs_fn (ok:Wok W) {i:Nat} {y:Str} {es:List Expr} {xs:List V} {p pos:Pos} {r:V} (hc:Spec w W k i xs r) (ha:EvLS w W φ k sc fn Γ es xs)
    (hk:sc.names.lookup y=some .globalImplicit:=by rfl) (hm:i ∈ fnIdx:=by decide) (hn:(dRec i).name=y:=by rfl)
    (hs:∀ env,(starEach es env).any (·.1)=false:=by intro _; rfl) (hd:(y == ("__debug__":Str))=false:=by decide):EvS w W φ k sc fn Γ (.Call (.Name y p) es [] pos) r:=fun fr P s F hsc st A Q E rm al q=>by
  obtain ⟨a,f⟩:=ok.fns i hm
  obtain ⟨o,pm,code,doc,h1,h2,_⟩:=id f.obj
  have e:eval (.Call (.Name y p) es [] pos) fr.env=(do callWith pos (← eval (.Name y p) fr.env) [] (backTo pos (starEach es fr.env)) []):=rfl
  rw [e]
  refine wpAny_bind ((ev_glob (prog:=pw) (w:=w) (k:=k) (fn:=fn) (Γ:=Γ) hk (by rw [← hn]; exact f.glob) hd) fr P s F hsc st A _ E rm fun v s₁ F₁ g₁ hv=>?_)
  cases hv
  have h':=ha fr P s₁ F₁ hsc (st.step g₁) pos A (fun vs s'=>(s'.heap.get? a=some o∧o.data=.func (docDef (dRec i).name (dRec i).params (dRec i).body (dRec i).scope pm code doc))∧wpAny (model pw w) A (call (.ref a) ([] ++ vs) []) Q E s') E rm al fun vs s₂ F₂ st₂ h₂ hv=>⟨⟨st₂.base.base _ _ h1,h2⟩,hc a f s₂ F₂ vs st₂.base hv A Q E rm fun z s₃ F₃ g₃ hz=>q z s₃ F₃ (st₂.step g₃) ((g₁.sub.trans h₂).trans g₃.sub) hz⟩
  refine callWith_function (o:=o) (fd:=docDef (dRec i).name (dRec i).params (dRec i).body (dRec i).scope pm code doc) ?_
  have hs':=hs fr.env
  cases hE:starEach es fr.env with
  | nil =>
    rw [hE] at h'
    unfold evalArgs
    show wpAny _ _ (spliced [] >>= _) _ E _
    refine wpAny_bind (wpAny_mono h' (fun vs s' h'=>?_) fun _ _ x=>x)
    refine wpAny_holding ?_
    exact wpAny_bind (wpAny_pure (wpAny_bind (wpAny_pure (wpAny_pure h'))))
  | cons p r =>
    obtain ⟨b,t⟩:=p
    rw [hE] at h' hs'
    simp only [List.any_cons,Bool.or_eq_false_iff] at hs'
    obtain ⟨rfl,_⟩:=hs'
    exact evalArgs_plain h'
theorem exs_seq {st:Stmt} {rest:List Stmt} {o:Out} (h:Ex1S w W φ k sc fn Γ st (.next Γ')) (hr:ExS w W φ k sc fn Γ' rest o):ExS w W φ k sc fn Γ (st :: rest) o :=
  fun fr P s F hsc x A Q E rm al q=>wpAny_execs_cons (h fr P s F hsc x A _ E rm al fun fl s' F' ho hF=>by
    obtain ⟨rfl,x'⟩:=ho
    exact hr fr P s' F' hsc x' A Q E rm al fun fl s'' F'' ho' hF'=>q fl s'' F'' ho' (hF.trans hF'))
theorem exs_out {ss:List Stmt} (h:ExS w W φ k sc fn Γ ss (.next Γ')) (hw:∀ y b,Γ''.lookup y=some b→Γ'.lookup y=some b):ExS w W φ k sc fn Γ ss (.next Γ'') :=
  fun fr P s F hsc st A Q E rm al q=>h fr P s F hsc st A Q E rm al fun fl s' F' ho hF=>q fl s' F' ⟨ho.1,ho.2.weaken hw⟩ hF
theorem ex1s_assign {y:Str} {pos pos':Pos} {e:Expr} {x:V} (he:EvS w W φ k sc fn Γ e x) (hk:sc.names.lookup y=some .local ∨ (sc.names.lookup y=some .cell∧fn=true))
    (hs:∀ env,env.scope=sc→swapsWith e (some (.Name y pos')) pos.line env=pure false:=by intro _ _; rfl):Ex1S w W φ k sc fn Γ (.Assign [.Name y pos'] e pos) (.next ((y,.val x) :: Γ)) :=
  fun fr P s F hsc st A Q E rm al q=>wpAny_Assign_Name (he fr P s F hsc st A _ E rm al fun v s₁ F₁ st₁ h₁ hv =>
    st₁.storeV hv (by rw [← hsc] at hk; exact hk) fun s' st'=>q _ s' F₁ ⟨rfl,st'⟩ h₁) (hs _ hsc)
theorem ex1s_if {t:Expr} {body orelse:List Stmt} {pos:Pos} {b:Bool} {o:Out} (ht:EvBS w W φ k sc fn Γ t b) (h1:b=true→ExS w W φ k sc fn Γ body o) (h2:b=false→ExS w W φ k sc fn Γ orelse o) :
    Ex1S w W φ k sc fn Γ (.If t body orelse pos) o :=
  fun fr P s F hsc st A Q E rm al q=>wpAny_If (ht fr P s F hsc st A _ E rm al fun s₁ F₁ st₁ hF₁=>by
    cases b with
    | true=>exact h1 rfl fr P s₁ F₁ hsc st₁ A Q E rm al fun fl s' F' ho hF=>q fl s' F' ho (hF₁.trans hF)
    | false=>exact h2 rfl fr P s₁ F₁ hsc st₁ A Q E rm al fun fl s' F' ho hF=>q fl s' F' ho (hF₁.trans hF))
end
end Mine
namespace Mine
variable {w:World} {W:Wd} {φ:Env→Prop} {k:Nat} {sc:Scope} {fn:Bool} {Γ Γ' Γ'':Ctx'}
theorem evs_callX {y:Str} {es:List Expr} {xs:List V} {p pos:Pos} {a:Nat} {o:Obj} {fd:FuncData} {msg:Str} (hf:Ev pw w W k sc fn Γ (.Name y p) (.ref a))
    (ho:W.base.get? a=some o) (hd:o.data=.func fd) (ha:EvLS w W φ k sc fn Γ es xs) (hc:CallsX w W k (.ref a) xs msg)
    (hs:∀ env,(starEach es env).any (·.1)=false:=by intro _; rfl):EvS w W φ k sc fn Γ (.Call (.Name y p) es [] pos) (.dat (.str msg)):=fun fr P s F hsc st A Q E rm al q=>by
  have e:eval (.Call (.Name y p) es [] pos) fr.env=(do callWith pos (← eval (.Name y p) fr.env) [] (backTo pos (starEach es fr.env)) []):=rfl
  rw [e]
  refine wpAny_bind (hf fr P s F hsc st A _ E rm fun v s₁ F₁ g₁ hv=>?_)
  cases hv
  have h':=ha fr P s₁ F₁ hsc (st.step g₁) pos A (fun vs s'=>(s'.heap.get? a=some o∧o.data=.func fd)∧wpAny (model pw w) A (call (.ref a) ([] ++ vs) []) Q E s') E rm al fun vs s₂ F₂ st₂ h₂ hv=>by
    refine ⟨⟨st₂.base.base _ _ ho,hd⟩,?_⟩
    have hfr:frs [fr.env]=[fr.env.locals]:=by unfold frs; simp [al.frame]
    refine hc s₂ F₂ vs st₂.base hv A [fr.env] Q E rm al.frames ?_ ?_ ?_ fun v s₃ F₃ gx hsl hv₃=>?_
    · intro env he
      rw [List.mem_singleton.mp he]
      obtain ⟨m,o',es',ep,ho',hd',_⟩:=st₂.ns
      exact ⟨by rw [st₂.kind]; decide,_,o',al.frame,ho',fun vs q=>by rw [hd'] at q; cases q⟩
    · intro p hp
      rw [hfr]
      exact fun hm=>st₂.nsF p hp (List.mem_singleton.mp hm)
    · intro a' ha'
      rw [hfr] at ha'
      rw [List.mem_singleton.mp ha']
      exact get_new_none (Nat.le_trans st₂.bsize st₂.nsNew)
    · rw [hfr] at gx hsl
      refine q v s₃ F₃ (st₂.slots gx fun m ⟨o',es',ep,ho',hd',r⟩=>?_) ((g₁.sub.trans h₂).trans gx.sub) hv₃
      obtain ⟨sl,h3⟩:=hsl _ (.head _) o' ho'
      exact ⟨_,es',ep,h3,hd',r⟩
  refine callWith_function (o:=o) (fd:=fd) ?_
  have hs':=hs fr.env
  cases hE:starEach es fr.env with
  | nil =>
    rw [hE] at h'
    unfold evalArgs
    show wpAny _ _ (spliced [] >>= _) _ E _
    refine wpAny_bind (wpAny_mono h' (fun vs s' h'=>?_) fun _ _ x=>x)
    refine wpAny_holding ?_
    exact wpAny_bind (wpAny_pure (wpAny_bind (wpAny_pure (wpAny_pure h'))))
  | cons p r =>
    obtain ⟨b,t⟩:=p
    rw [hE] at h' hs'
    simp only [List.any_cons,Bool.or_eq_false_iff] at hs'
    obtain ⟨rfl,_⟩:=hs'
    exact evalArgs_plain h'
theorem evs_asked (ok:Wok W) {i:Nat} {y d:Str} {e₁ e₂:Expr} {x₁ x₂ r:V} {p p₁ pos:Pos} (hc:Spec w W k i [x₁,x₂] r) (h1:EvS w W φ (k + 1) sc fn Γ e₁ x₁) (h2:EvS w W φ (k + 1) sc fn Γ e₂ x₂)
    (hk:sc.names.lookup ("_law_asked":Str)=some .globalImplicit:=by rfl) (hkd:sc.names.lookup d=some .globalImplicit:=by rfl) (hm:i ∈ fnIdx:=by decide) (hn:(dRec i).name=d:=by rfl)
    (hd:(d == ("__debug__":Str))=false:=by decide) (hs:∀ env,starEach [.Name d p₁,e₁,e₂] env=(false,eval (.Name d p₁) env) :: starEach [e₁,e₂] env:=by intro _; rfl) (hs1:∀ env,starEach [e₁,e₂] env=(false,eval e₁ env) :: starEach [e₂] env:=by intro _; rfl) (hs2:∀ env,starEach [e₂] env=[(false,eval e₂ env)]:=by intro _; rfl) :
    EvS w W φ (k + 1) sc fn Γ (.Call (.Name ("_law_asked":Str) p) [.Name d p₁,e₁,e₂] [] pos) r:=by
  obtain ⟨b,f⟩:=ok.fns i hm
  obtain ⟨o,pm,code,doc,h3,h4,_⟩:=id f.obj
  refine evs_fn ok (i:=31) (sp_asked h3 h4 (hc b f)) (evls_cons (evs_of (ev_glob hkd (by rw [← hn]; exact f.glob) hd)) (evls_cons h1 (evls_cons h2 evls_nil ?_) ?_) ?_) hk (by decide) rfl (fun env=>?_)
  · exact hs2
  · exact hs1
  · exact hs
  · rw [hs,hs1,hs2]; rfl
theorem evs_askedX (ok:Wok W) {i:Nat} {d msg:Str} {e₁ e₂:Expr} {x₁ x₂:V} {p p₁ pos:Pos} (hr:∀ a,FnOk W (dRec i) a→Raises w W k (.ref a) [x₁,x₂] msg) (h1:EvS w W φ (k + 1) sc fn Γ e₁ x₁) (h2:EvS w W φ (k + 1) sc fn Γ e₂ x₂)
    (hk:sc.names.lookup ("_law_asked":Str)=some .globalImplicit:=by rfl) (hkd:sc.names.lookup d=some .globalImplicit:=by rfl) (hm:i ∈ fnIdx:=by decide) (hn:(dRec i).name=d:=by rfl)
    (hd:(d == ("__debug__":Str))=false:=by decide) (hs:∀ env,starEach [.Name d p₁,e₁,e₂] env=(false,eval (.Name d p₁) env) :: starEach [e₁,e₂] env:=by intro _; rfl) (hs1:∀ env,starEach [e₁,e₂] env=(false,eval e₁ env) :: starEach [e₂] env:=by intro _; rfl) (hs2:∀ env,starEach [e₂] env=[(false,eval e₂ env)]:=by intro _; rfl) :
    EvS w W φ (k + 1) sc fn Γ (.Call (.Name ("_law_asked":Str) p) [.Name d p₁,e₁,e₂] [] pos) (.dat (.str msg)):=by
  obtain ⟨b,f⟩:=ok.fns i hm
  obtain ⟨o,pm,code,doc,h3,h4,_⟩:=id f.obj
  obtain ⟨a,g⟩:=ok.fns 31 (by decide)
  obtain ⟨o',pm',code',doc',h5,h6,_⟩:=id g.obj
  refine evs_callX (ev_glob hk g.glob (by decide)) h5 h6 (evls_cons (evs_of (ev_glob hkd (by rw [← hn]; exact f.glob) hd)) (evls_cons h1 (evls_cons h2 evls_nil ?_) ?_) ?_) (cx_asked ok h3 h4 (hr b f) g) (fun env=>?_)
  · exact hs2
  · exact hs1
  · exact hs
  · rw [hs,hs1,hs2]; rfl
theorem ex1s_for {tgt iter:Expr} {body:List Stmt} {pos:Pos} {xs:List V} {Γ₁:V→Ctx'} (hit:EvIter pw w W k sc fn Γ tgt iter xs)
    (turn:∀ x,x ∈ xs→Asg pw w W k sc fn Γ tgt x (Γ₁ x)∧ExS w W φ k sc fn (Γ₁ x) body (.next Γ))
    (hs:∀ env x,foldedSetIterable iter env x=pure x:=by intro _ _; rfl):Ex1S w W φ k sc fn Γ (.For tgt iter body [] pos) (.next Γ):=by
  intro fr P s F hsc st A Q E rm al q
  refine wpAny_For ?_ (hs _)
  refine hit fr P s F hsc st A _ E rm ?_
  intro it s₂ F₂ N g hN hI _
  refine codeAny_forLoop_any (fun m s'=>∃ i N' F',m=xs.length + 1 - i∧i≤xs.length∧F.le F'∧St pw w W fr fn Γ (N' ++ P) s' F'∧(∀ p ∈ N',fr.sb.heap.objs.size≤p.1)∧(∀ p ∈ P,∀ q ∈ N',q.1≠p.1)∧Iter pw w W k tgt it (xs.drop i) F' N')
    ?_ (xs.length + 1) ⟨0,N,F₂,rfl,Nat.zero_le _,g.sub,st.frame g hN,fun p hp=>Nat.le_trans st.grow.size (hN p hp).2.1,
      fun p hp r hr e=>absurd (Heap.lt_size (st.prv p hp).1) (Nat.not_lt.mpr (e ▸ (hN r hr).2.1)),by simpa using hI⟩
  rintro m s' ⟨i,N',F',rfl,hil,hF,st',hnew,hPN,hI'⟩
  have held:=Held.of_st st' hnew
  by_cases hi:i < xs.length
  · rw [List.drop_eq_getElem_cons hi] at hI'
    refine wpAny_mono (hI' s' F' A (fun v s₂=>wpAny (model pw w) A (assign tgt fr.env v) (fun _ s₂=>wpAny (model pw w) A (execs body fr.env) (fun f s₃=>match f with
            | .next | .cont=>∃ m,m < xs.length + 1 - i∧(∃ i N' F',m=xs.length + 1 - i∧i≤xs.length∧F.le F'∧St pw w W fr fn Γ (N' ++ P) s₃ F'∧(∀ p ∈ N',fr.sb.heap.objs.size≤p.1)∧(∀ p ∈ P,∀ q ∈ N',q.1≠p.1)∧Iter pw w W k tgt it (xs.drop i) F' N')
            | .brk=>Q .next s₃
            | .ret v=>Q (.ret v) s₃) (notedBy (model pw w) A fr.env fun e s'=>cameBackBy (model pw w) A fr.env E e s') s₂) (notedBy (model pw w) A fr.env fun e s'=>cameBackBy (model pw w) A fr.env E e s') s₂) (notedBy (model pw w) A fr.env fun e s'=>cameBackBy (model pw w) A fr.env E e s') st'.base .rfl held rm ?_) (fun r s₁ h=>?_) fun _ _ h=>h
    · intro v s₃ F₃ N₃ g₃ hN₃ hin₃ hv hI₃
      have st₃:=st'.stepX g₃ (fun p hp=>hN₃ ▸ List.mem_map_of_mem hp) hin₃ hPN hnew
      have mem:∀ p ∈ N₃,∃ q ∈ N',q.1=p.1:=fun p hp=>let ⟨q,hq,e⟩:=List.mem_map.mp (hN₃ ▸ List.mem_map_of_mem hp:p.1 ∈ N'.map (·.1)); ⟨q,hq,e⟩
      have hnew₃:∀ p ∈ N₃,fr.sb.heap.objs.size≤p.1:=fun p hp=>let ⟨q,hq,e⟩:=mem p hp; e ▸ hnew q hq
      have hPN₃:∀ p ∈ P,∀ q ∈ N₃,q.1≠p.1:=fun p hp r hr=>let ⟨q,hq,e⟩:=mem r hr; e ▸ hPN p hp q hq
      obtain ⟨ha,hb⟩:=turn _ (List.getElem_mem hi)
      refine ha fr (N₃ ++ P) s₃ F₃ v hsc st₃ hv A _ _ rm fun s₄ F₄ st₄ hF₄=>?_
      refine hb fr (N₃ ++ P) s₄ F₄ hsc st₄ A _ _ rm al fun fl s₅ F₅ ho hF₅=>?_
      obtain ⟨rfl,st₅⟩:=ho
      refine ⟨xs.length + 1 - (i + 1),by omega,i + 1,N₃,F₅,rfl,hi,((hF.trans g₃.sub).trans hF₄).trans hF₅,st₅,hnew₃,hPN₃,?_⟩
      cases hd:xs.drop (i + 1) with
      | nil =>
        rw [hd] at hI₃
        intro s F₁ A Q E b hle hh r q
        exact hI₃ s F₁ A Q E b ((hF₄.trans hF₅).trans hle) hh r q
      | cons x r =>
        rw [hd] at hI₃
        intro s F₁ A Q E b hle hh r q
        exact hI₃ s F₁ A Q E b ((hF₄.trans hF₅).trans hle) hh r q
    · cases r with
      | none=>exact h.elim
      | some v=>exact h
  · have hie:i=xs.length:=by omega
    have hd:xs.drop i=[]:=List.drop_eq_nil_of_le (by omega)
    rw [hd] at hI'
    refine hI' s' F' A _ _ st'.base .rfl held rm fun s₃ F₃ g₃=>?_
    have st₃:St pw w W fr fn Γ P s₃ F₃:=st'.stepX (N':=[]) g₃ (fun _ h=>nomatch h) (fun _ h=>nomatch h) hPN hnew
    exact wpAny_execs_nil (q _ s₃ F₃ ⟨rfl,st₃⟩ (hF.trans g₃.sub))
end Mine
namespace Mine
variable {prog:Program} {w:World} {W:Wd} {k:Nat} {sc:Scope} {fn:Bool} {Γ:Ctx'}
theorem setItem_plain {A:Around} {E:Value→Shared→Prop} {s:Shared} {l:Addr} {items:Array Value} {n:Nat} {k:Int} {t:Tok} {v:Value} {Q:Unit→Shared→Prop} (ho:s.heap.get? l=some (listOf items n))
    (h0:0≤k) (hfit:k < 2 ^ 63) (hn:k < items.size)
    (hQ:∀ h',h'.get? l=some (listOf (items.setIfInBounds k.toNat v) n)→Heap.SameBut l s.heap h'→Q () { s with heap:=h' }) :
    wpAny (model prog w) A (setItem (.ref l) (.int k t) v) Q E s:=by
  have hl:s.heap.IsList l items:=⟨_,ho,rfl,_,rfl⟩
  have hd:(listOf items n).data=.seq items n:=rfl
  unfold setItem
  try with_reducible refine wpAny_holding ?_
  first | refine wpAny_bind (wpAny_pure ?_) | skip
  refine wpAny_bind (wpAny_sequenceKey hl.typeIs (by decide) ?_)
  refine wpAny_bind (wpAny_callSpecial?_slot (name:=Str.ofString "__setitem__") hl.typeIs slot_list_setitem
    (wpAny_call_entry slot_list_setitem hl.typeIs entry_list_setitem ?_ (args_list_setitem _ _ _)))
  show wpAny _ _ (Builtin.List.listSubscript? (.int k t) >>= _) _ _ s
  refine wpAny_bind (wpAny_listSubscript_int (fitsIndex_of h0 hfit) ?_)
  clear hfit
  obtain ⟨j,rfl⟩:=Int.eq_ofNat_of_zero_le h0
  have hj:j < items.size:=by omega
  have hx':items[j]?=some items[j]:=Array.getElem?_eq_getElem hj
  show wpAny _ _ ((seqItemAt l j >>= fun r=>pure (r.map (j,·))) >>= _) _ _ s
  refine wpAny_bind (wpAny_bind (wpAny_seqItemAt ho hd (wpAny_pure ?_)))
  rw [hx']
  show wpAny _ _ (setSeqItemAt l j v >>= _) _ _ s
  have hmap:Obj.mapSeq (·.setIfInBounds j v) (listOf items n)=listOf (items.setIfInBounds j v) n:=by simp [Obj.mapSeq]
  have hfin:(s.heap.update l (Obj.mapSeq (·.setIfInBounds j v))).get? l=some (listOf (items.setIfInBounds j v) n):=by
    rw [Heap.get?_update_self _ ho (by rw [hmap]; rfl),hmap]
  refine wpAny_bind (wpAny_setSeqItemAt ho hd ?_)
  first
    | exact wpAny_bind (wpAny_pure (wpAny_pure ⟨.none,rfl,wpAny_pure (hQ _ hfin (Heap.SameBut.update ..))⟩))
    | exact wpAny_pure ⟨.none,rfl,wpAny_pure (hQ _ hfin (Heap.SameBut.update ..))⟩
theorem Reps.set {F:Fz} {v:Value} {d:Dat} (hv:Rep F v d):∀ {vs:List Value} {ds:List Dat},Reps F vs ds→∀ j,Reps F (vs.set j v) (ds.set j d)
  | _,_,.nil,_=>.nil
  | _,_,.cons h1 h2,0=>.cons hv h2
  | _,_,.cons h1 h2,j + 1=>.cons h1 (Reps.set hv h2 j)
theorem ex1_augitem {y:Str} {p spos pos:Pos} {i e:Expr} {ds:List Dat} {j:Nat} {a b:Int} (hy:Γ.lookup y=some (.lst ds)) (hi:Ev prog w W k sc fn Γ i (.dat (.int (j:Int)))) (he:Ev prog w W k sc fn Γ e (.dat (.int b)))
    (hj:ds[j]?=some (.int a)) (hz:ds.length≤sizeLine)
    (ha:∀ ov iv new,augStore i ov iv new=(do holding [new,ov,iv] (setItem ov iv new); release [new,ov,iv] []; pure .next):=by intro _ _ _; rfl)
    (hd:(y == ("__debug__":Str))=false:=by decide) (hn:(y == ("__classdict__":Str))=false:=by decide) :
    Ex1 prog w W k sc fn Γ (.AugAssign (.Subscript (.Name y p) i spos) .Add e pos) (.next ((y,.lst (ds.set j (.int (a + b)))) :: Γ)):=fun fr P s F hsc st A Q E rm q=>by
  have hlt:j < ds.length:=(List.getElem?_eq_some_iff.mp hj).1
  have hz':ds.length≤16777216:=hz
  refine wpAny_AugAssign_Subscript_any ?_ ha
  refine load_own st hy (fun v hv hb=>?_) hd hn
  obtain ⟨l,vs,n,rfl,ho,hr,hp⟩:=hb
  refine hi fr P s F hsc st A _ E rm fun iv s₁ F₁ g₁ hiv=>?_
  have st₁:=st.step g₁
  have hv₁:=hv.step st g₁
  obtain ⟨v',hv',l',vs',n',e',ho₁,hr₁,hp₁⟩:=st₁.vars y _ hy
  cases hv'.unique hv₁
  cases e'
  cases hiv with
  | int hit =>
    obtain ⟨u,hu,hur⟩:=hr₁.get hj
    refine wpAny_getItem_list (x:=u) ⟨_,ho₁,rfl,_,rfl⟩ (by omega) (by omega) (by simpa using hu) ?_
    refine he fr P s₁ F₁ hsc st₁ A _ E rm fun v s₂ F₂ g₂ hv₂=>?_
    have st₂:=st₁.step g₂
    cases hv₂ with
    | int hvt =>
      cases (Rep.mono g₂.sub hur) with
      | int hut =>
        refine PySem.P.iadd_int ?_
        have g₃:=Grow.tk st₂.base (.int (a + b))
        have st₃:=st₂.step g₃
        have hv₃:=(hv₁.step st₁ g₂).step st₂ g₃
        obtain ⟨v',hv',l',vs₃,n₃,e',ho₃,hr₃,hp₃⟩:=st₃.vars y _ hy
        cases hv'.unique hv₃
        cases e'
        have hl3:=hr₃.length
        refine setItem_plain ho₃ (by omega) (by omega) (by simp; omega) fun h' ho' hs'=>?_
        rw [Int.toNat_natCast] at ho'
        have e2:vs₃.toArray.setIfInBounds j (.int (a + b) s₂.toks)=(vs₃.set j (.int (a + b) s₂.toks)).toArray:=by simp
        rw [e2] at ho'
        exact q _ _ _ ⟨rfl,st₃.turn (t:=s₂.toks + 1) hy rfl hv₃ hp₃ hs' (Nat.le_refl _) ⟨l,_,_,rfl,ho',Reps.set Rep.tk_int hr₃ j,hp₃⟩⟩ ((g₁.sub.trans g₂.sub).trans g₃.sub)
theorem enumD_map {α:Type} {h:α→Dat}:∀ (l:List α) (i:Nat),enumD i (l.map h)=(l.zipIdx i).map fun p=>Dat.tuple [.int (p.2:Int),h p.1]
  | [],i=>rfl
  | a :: l,i=>by rw [List.map_cons,enumD,List.zipIdx_cons,List.map_cons,enumD_map l (i + 1)]
theorem eit_enumm {α:Type} {e:Expr} {elts:List Expr} {x1:Nat} {tp:Pos} {y:Str} {p pos:Pos} {l:List α} {h:α→Dat} (hB:BName W sc y (.type "enumerate"))
    (he:Ev prog w W k sc fn Γ e (.dat (.list (l.map h)))) (hs:∀ env,starEach [e] env=[(false,eval e env)]:=by intro _; rfl) :
    EvIter prog w W k sc fn Γ (.Tuple elts x1 tp) (.Call (.Name y p) [e] [] pos) (l.zipIdx.map fun q=>V.dat (.tuple [.int (q.2:Int),h q.1])):=by
  have:=eit_enum (elts:=elts) (x1:=x1) (tp:=tp) (p:=p) (pos:=pos) hB he hs
  rw [enumD_map,List.map_map] at this
  exact this
def cellStep (cells:List Int) (q:Int × Nat):List Int:=cells.set (q.2 % 7) (cells.getD (q.2 % 7) 0 + q.1.fmod 1000003)
def cellsOf (ns:List Int):List Int:=(ns.take 60).zipIdx.foldl cellStep [5,8,10,7,6,14,4]
theorem cells_len (l:List (Int × Nat)):∀ a:List Int,(l.foldl cellStep a).length=a.length:=by
  induction l with
  | nil=>intro a; rfl
  | cons q l ih=>intro a; rw [List.foldl_cons,ih]; simp [cellStep]
theorem zipIdx_take_foldl {l:List Int} {i:Nat} (hi:i < l.zipIdx.length) (a:List Int):((l.zipIdx.take (i + 1)).foldl cellStep a)=cellStep ((l.zipIdx.take i).foldl cellStep a) l.zipIdx[i]:=by
  rw [take_snoc hi,List.foldl_append]; rfl
theorem sp_cells (ok:Wok W) {ns:List Int} (hn:ns.length≤1000):Spec w W (k + 1) 25 [.dat (.list (ns.map Dat.int))] (.dat (.list ((cellsOf ns).map Dat.int))):=by
  refine sp_of ["script"] (fun pm code doc vs h=>by match vs,h with | [u],_=>rfl) (by decide) (by decide) rfl ?_
  have hz2:sizeLine=16777216:=rfl
  refine ex_seq (ex1_newlist (ds:=[.int 5,.int 8,.int 10,.int 7,.int 6,.int 14,.int 4]) (evl_cons ev_int (evl_cons ev_int (evl_cons ev_int (evl_cons ev_int (evl_cons ev_int (evl_cons ev_int (evl_cons ev_int evl_nil))))))) (.inl rfl)) ?_
  let cs:Nat→List Int:=fun i=>((ns.take 60).zipIdx.take i).foldl cellStep [5,8,10,7,6,14,4]
  have cl:∀ i,(cs i).length=7:=fun i=>cells_len _ _
  let Γs:Nat→Ctx':=fun i=>[("cells",.lst ((cs i).map Dat.int)),("script",.val (.dat (.list (ns.map Dat.int))))]
  refine ex_seq (for_loop (Γs:=Γs) (n:=(ns.take 60).zipIdx.length) (eit_enumm (l:=ns.take 60) (h:=Dat.int) (bname ok (by decide) rfl (by decide +kernel)) (ev_upto (n:=60) (ev_name rfl) (evp_some ev_int) (by omega))) (Sub.cons rfl (.cons rfl .nil)).go ?_ (.inl ⟨by simp,rfl⟩)) ?_
  · intro i x hi hx
    obtain ⟨_,rfl⟩:=nth_map hx
    refine ⟨_,asg_tuple2 (.inl rfl) (.inl rfl),?_⟩
    generalize hq:(ns.take 60).zipIdx[i]=q
    have hmod:((q.2:Int).fmod 7)=((q.2 % 7:Nat):Int):=by
      rw [Int.fmod_eq_emod_of_nonneg _ (by decide)]; omega
    have hlt:q.2 % 7 < (cs i).length:=by rw [cl]; omega
    refine ex_to (ex_seq (ex1_augitem (ds:=(cs i).map Dat.int) (j:=q.2 % 7) (a:=(cs i).getD (q.2 % 7) 0) (b:=q.1.fmod 1000003) rfl ?_ (ev_bin (ev_name rfl) ev_int (bin_mod (by decide))) ?_ (by rw [List.length_map,cl]; decide)) ex_nil) (.cons ?_ (.cons rfl .nil))
    · rw [← hmod]
      exact ev_bin (ev_name rfl) ev_int (bin_mod (by decide))
    · rw [List.getElem?_map,List.getElem?_eq_getElem hlt,List.getD_eq_getElem?_getD,List.getElem?_eq_getElem hlt]
      rfl
    · show some _=some _
      have:cs (i + 1)=cellStep (cs i) q:=by rw [← hq]; exact zipIdx_take_foldl hi _
      rw [this,cellStep,List.map_set]
  · refine ex_freeze (y:="cells") (ds:=(cellsOf ns).map Dat.int) ?_ (ex_stop (ex1_return (ev_name rfl)))
    show some _=some _
    rw [show cs (ns.take 60).zipIdx.length=cellsOf ns by show List.foldl _ _ _=_; rw [List.take_length]; rfl]
end Mine
namespace Mine
variable {w:World} {W:Wd} {k:Nat}
structure TabFn (W:Wd) (i:Nat) (q:Str) (c Pt:Addr):Prop where
  tab:(c,Pt) ∈ W.tabs
  qual:W.qual Pt=q
  code:∀ a o pm code doc,W.mg (dRec i).name=some (.ref a)→W.base.get? a=some o→o.data=.func (docDef (dRec i).name (dRec i).params (dRec i).body (dRec i).scope pm code doc)→code=.ref c
structure WokT (W:Wd):Prop where
  ok:Wok W
  nd:∀ q ∈ W.tabs,∀ q' ∈ W.tabs,q.2=q'.2→q=q'
  t6:∃ c Pt,TabFn W 6 ("_int2digits.<locals>.inner":Str) c Pt
  t7:∃ c Pt,TabFn W 7 ("_digits2int.<locals>.inner":Str) c Pt
  t36:∃ c Pt,TabFn W 36 ("law.<locals>.<lambda>":Str) c Pt
theorem sp_ofE {i:Nat} {q:Str} {c Pt:Addr} {xs:List V} {r:V} (names:List Str) (T:TabFn W i q c Pt)
    (hb:∀ pm code doc (vs:List Value),vs.length=xs.length→bindArgs (docDef (dRec i).name (dRec i).params (dRec i).body (dRec i).scope pm code doc) ⟨vs,[]⟩=pure (names.zip vs))
    (hp:parOk (dRec i).scope names=true) (hn:names.Nodup) (hl:names.length=xs.length)
    (hex:ExE pw w W (fun env=>env.code=.ref c∧env.qual=(dRec i).name ++ (".<locals>.":Str)) k (dRec i).scope true (names.zip (xs.map Bd.val)) (dRec i).body (.ret r)):Spec w W (k + 1) i xs r:=by
  intro a fn s F vs b hv A Q E rm q
  obtain ⟨o,pm,code,doc,ho,hd,hc⟩:=fn.obj
  have hcode:=T.code a o pm code doc fn.glob ho hd
  subst hcode
  unfold parOk at hp
  simp only [Bool.and_eq_true,beq_iff_eq,Bool.not_eq_true',List.all_eq_true,Bool.or_eq_true] at hp
  obtain ⟨⟨⟨hk,hco⟩,hgen⟩,hkinds⟩:=hp
  have vl:=hv.length
  refine wpAny_call ?_
  refine codeAny_call_function (fd:=docDef (dRec i).name (dRec i).params (dRec i).body (dRec i).scope pm (.ref c) doc) rm.depth (b.base _ _ ho) hd hco hgen rfl (hc.keeps b.base) ?_
  rw [hb _ _ _ _ vl]
  have hbm:(names.zip vs).map (·.1)=names:=by
    rw [List.map_fst_zip]; omega
  have key:∀ x ∈ names.zip vs,(dRec i).scope.names.lookup x.1=some .local ∨ (dRec i).scope.names.lookup x.1=some .cell:=fun x hx=>hkinds x.1 (List.of_mem_zip hx).1
  refine wpAny_pure (any_hz (wpAny_newFunctionEnv_cells hk (fun x hx=>?_) fun env he s₁ X hz1 ht1=>?_))
  · rcases key x hx with h | h
    · exact .inl h
    · obtain ⟨c,hc⟩:=cellsFrom_some (n:=s.heap.objs.size + 1) (acc:=[]) (.inl (mem_of_lookup h))
      exact .inr ⟨h,by show ((cellsFrom (s.heap.objs.size + 1) (dRec i).scope.names []).lookup x.1).isSome=true; rw [hc]; rfl⟩
  · have es:env.scope=(dRec i).scope:=by rw [he]; rfl
    have st:St pw w W ⟨s,F,env⟩ true (names.zip (xs.map Bd.val)) [] s₁ F:=call_frame (sc:=(dRec i).scope) (binds:=names.zip vs) b hz1 ht1 (by rw [he]; rfl) (by rw [he]; rfl) es hk ⟨s.heap.objs.size + 1,by rw [he]; rfl⟩ X (by rw [hbm]; exact hn) fun y bd hy=>by
      obtain ⟨h1,x,v,e1,e2,e3⟩:=zip_lookup hv hy
      exact ⟨hkinds y h1,x,v,e1,e2,e3⟩
    refine ⟨W.nolimit.keeps (fun a o e=>X.toInCall.keep a o (b.base a o e)),codeAny_func ?_⟩
    refine hex ⟨s,F,env⟩ [] s₁ F es ⟨by rw [he]; rfl,by rw [he]; rfl⟩ st _ _ _ (rm.deeper env) fun fl s' F' ho' hF'=>?_
    obtain ⟨v,rfl,hv',st'⟩:=ho'
    exact q v s' F' st'.grow hv'
def dv (n:Nat):List Int→Int
  | []=>0
  | d :: r=>d + 2 ^ n * dv n r
theorem dv_app (n:Nat):∀ (a b:List Int),dv n (a ++ b)=dv n a + 2 ^ (n * a.length) * dv n b
  | [],b=>by simp [dv]
  | d :: r,b=>by
    rw [List.cons_append,dv,dv,dv_app n r b,List.length_cons,Nat.mul_succ,Int.pow_add,Int.mul_add,← Int.add_assoc,← Int.mul_assoc,Int.mul_comm (2 ^ (n * r.length)) (2 ^ n)]
theorem natAbs_lt {M n:Nat}:∀ (l:List Int),(∀ d ∈ l,d.natAbs < 2 ^ M)→(dv n l).natAbs < 2 ^ (M + (n + 1) * l.length)
  | [],_=>by simp only [dv]; exact Nat.two_pow_pos _
  | d :: r,h=>by
    have h1:=h d (.head _)
    have h2:=natAbs_lt (n:=n) r fun x hx=>h x (.tail _ hx)
    have h3:(d + 2 ^ n * dv n r).natAbs≤d.natAbs + 2 ^ n * (dv n r).natAbs:=by
      refine Nat.le_trans (Int.natAbs_add_le _ _) ?_
      rw [Int.natAbs_mul,Int.natAbs_pow]; exact Nat.le_refl _
    have h4:2 ^ n * (dv n r).natAbs < 2 ^ n * 2 ^ (M + (n + 1) * r.length):=Nat.mul_lt_mul_of_pos_left h2 (Nat.two_pow_pos n)
    rw [← Nat.pow_add] at h4
    have h5:2 ^ M≤2 ^ (n + (M + (n + 1) * r.length)):=Nat.pow_le_pow_right (by decide) (by omega)
    have h6:M + (n + 1) * (r.length + 1)=n + (M + (n + 1) * r.length) + 1:=by rw [Nat.mul_succ]; omega
    rw [dv,List.length_cons,h6,Nat.pow_succ]
    omega
theorem intBits_le {a:Int} {m:Nat} (h:a.natAbs < 2 ^ m):Builtin.Int.intBits a≤m:=by
  unfold Builtin.Int.intBits
  split
  · omega
  · rename_i h0
    have:a.natAbs≠0:=by
      intro e
      rw [Int.natAbs_eq_zero] at e
      rw [e] at h0; exact h0 rfl
    have:=(Nat.log2_lt this).mpr h
    omega
def nRec7:DefRec:=recOf ((dRec 7).body[0]?.getD (.Pass ⟨0,0,0,0⟩))
abbrev fn7 (clos:List (Str × Addr)) (doc pm:Value) (c':Addr) (ctv:Value):Obj:=fnMade nRec7.name ("_digits2int.<locals>.inner":Str) nRec7.params nRec7.body nRec7.scope clos doc pm c' ctv
abbrev capt7 (ds:List Int) (n:Nat) (f:Nat) (G:Fz):Ctx':=[("digits",.val (.dat (.list (ds.map Dat.int)))),("n",.val (.dat (.int (n:Int)))),("inner",.val (.fn f G))]
theorem inner7 {ds:List Int} {n M:Nat} {f c':Addr} {clos:List (Str × Addr)} {doc pm ctv:Value} {oc:Obj} {us:Array Value} {t:Nat} {G:Fz}
    (hf:(f,fn7 clos doc pm c' ctv) ∈ G.obs) (hoc:(c',oc) ∈ G.obs) (hocd:oc.data=.fields us) (hus:us[1]?=some (.str ("_digits2int.<locals>.inner":Str) t))
    (hn:n≤64) (hM:M≤1000) (hl:ds.length≤1000) (hd:∀ d ∈ ds,d.natAbs < 2 ^ M) (hfree:∀ y,(y=("digits":Str) ∨ y=("n":Str) ∨ y=("inner":Str))→∃ c,clos.lookup y=some c) (hC:ClosIn pw w G clos (capt7 ds n f G)) :
    ∀ (m:Nat) (L:Nat),0 < m→L + m≤ds.length→CallsG pw w W (k + m) G f [.dat (.int (L:Int)),.dat (.int ((L + m:Nat):Int))] (.dat (.int (dv n ((ds.drop L).take m)))):=by
  intro m
  induction m using Nat.strongRecOn with
  | ind m ih =>
    intro L hm hLm
    obtain ⟨m',rfl⟩:∃ m',m=m' + 1:=⟨m - 1,by omega⟩
    refine calls_nest (scope:=nRec7.scope) (capt:=capt7 ds n f G) ["L","R"] hf hoc hocd hus (fun vs h=>by match vs,h with | [u,v],_=>rfl) (by decide) (by decide) rfl hC.1 ?_ hC.2 ?_
    · intro y b hy
      have key:y=("digits":Str) ∨ y=("n":Str) ∨ y=("inner":Str):=by
        by_cases h1:y=("digits":Str)
        · exact .inl h1
        · by_cases h2:y=("n":Str)
          · exact .inr (.inl h2)
          · by_cases h3:y=("inner":Str)
            · exact .inr (.inr h3)
            · rw [lookup_cons_ne h1,lookup_cons_ne h2,lookup_cons_ne h3] at hy
              cases hy
      refine ⟨?_,hfree y key⟩
      rcases key with rfl | rfl | rfl <;> decide
    · show Ex pw w W (k + m') nRec7.scope false [("L",.val (.dat (.int (L:Int)))),("R",.val (.dat (.int ((L + (m' + 1):Nat):Int)))),("digits",.val (.dat (.list (ds.map Dat.int)))),("n",.val (.dat (.int (n:Int)))),("inner",.val (.fn f G))] nRec7.body _
      by_cases hm1:m'=0
      · subst hm1
        have hlt:L < ds.length:=by omega
        have ht:(((L:Int) + 1) == ((L + (0 + 1):Nat):Int))=true:=by simp
        have he:dv n ((ds.drop L).take (0 + 1))=ds[L]:=by
          rw [List.drop_eq_getElem_cons hlt,List.take_succ_cons]
          simp [dv]
        rw [he]
        refine ex_stop (ex1_if (b:=true) (evb_cmp (ev_bin (ev_name rfl) ev_int bin_add) (ev_name rfl) cmp_eq (by rw [ht]; exact tr_bool)) (fun _=>ex_stop (ex1_return (ev_sub (ev_name rfl) (ev_name rfl) (get_list (by omega) (by omega) ?_)))) (fun h=>nomatch h))
        rw [Int.toNat_natCast,List.getElem?_map,List.getElem?_eq_getElem hlt]; rfl
      · have ht:(((L:Int) + 1) == ((L + (m' + 1):Nat):Int))=false:=by simp; omega
        let h:=(2 * L + m' + 1) / 2 - L
        have hh:h=(m' + 1) / 2:=by show (2 * L + m' + 1) / 2 - L=_; omega
        have hmid:((L:Int) + ((L + (m' + 1):Nat):Int)).fdiv (2 ^ (1:Int).toNat)=((L + h:Nat):Int):=by
          rw [show (2 ^ (1:Int).toNat:Int)=2 by rfl,Int.fdiv_eq_ediv_of_nonneg _ (by decide)]
          omega
        have hh0:0 < h:=by omega
        have hh1:h < m' + 1:=by omega
        refine ex_seq (ex1_if (b:=false) (o:=.next _) (evb_cmp (ev_bin (ev_name rfl) ev_int bin_add) (ev_name rfl) cmp_eq (by rw [ht]; exact tr_bool)) (fun h=>nomatch h) (fun _=>ex_nil)) ?_
        refine ex_seq (ex1_assign (x:=.dat (.int ((L + h:Nat):Int))) (by rw [← hmid]; exact ev_bin (ev_bin (ev_name rfl) (ev_name rfl) bin_add) ev_int (bin_rshift (by decide))) (.inl rfl)) ?_
        have hsh:(((L + h:Nat):Int) - (L:Int)) * (n:Int)=((h * n:Nat):Int):=by
          rw [Int.natCast_mul]
          congr 1
          omega
        refine ex_seq (ex1_assign (x:=.dat (.int ((h * n:Nat):Int))) (by rw [← hsh]; exact ev_bin (ev_bin (ev_name rfl) (ev_name rfl) bin_sub) (ev_name rfl) (bin_mul (IntMulOk.of_left (intBits_le_64 (by omega) (by omega))))) (.inl rfl)) ?_
        have i1:=ih (m' + 1 - h) (by omega) (L + h) (by omega) (by omega)
        have i2:=ih h hh1 L hh0 (by omega)
        rw [show L + h + (m' + 1 - h)=L + (m' + 1) by omega] at i1
        have hb1:∀ d ∈ ((ds.drop (L + h)).take (m' + 1 - h)),d.natAbs < 2 ^ M:=fun d hd'=>hd d (List.mem_of_mem_drop (List.mem_of_mem_take hd'))
        have hval:dv n ((ds.drop L).take (m' + 1))=dv n ((ds.drop (L + h)).take (m' + 1 - h)) * 2 ^ ((h * n:Nat):Int).toNat + dv n ((ds.drop L).take h):=by
          have e:(ds.drop L).take (m' + 1)=(ds.drop L).take h ++ (ds.drop (L + h)).take (m' + 1 - h):=by
            rw [← List.drop_drop]
            conv=>lhs; rw [show m' + 1=h + (m' + 1 - h) by omega,List.take_add]
          have hlen:((ds.drop L).take h).length=h:=by rw [List.length_take,List.length_drop]; omega
          rw [e,dv_app,hlen,Int.toNat_natCast,Int.add_comm,Int.mul_comm,Nat.mul_comm n h]
        rw [hval]
        have hnab:=natAbs_lt (n:=n) _ hb1
        have hib:=intBits_le hnab
        have hlen1:((ds.drop (L + h)).take (m' + 1 - h)).length≤1000:=by rw [List.length_take]; omega
        have hb2:(n + 1) * ((ds.drop (L + h)).take (m' + 1 - h)).length≤65 * 1000:=Nat.mul_le_mul (by omega) hlen1
        have hb3:h * n≤1000 * 64:=Nat.mul_le_mul (by omega) hn
        refine ex_stop (ex1_return (ev_bin (ev_bin (ev_callG rfl hf rfl (evl_cons (ev_name rfl) (evl_cons (ev_name rfl) evl_nil)) (i1.mono (by omega))) (ev_name rfl) (bin_lshift (by omega) (by omega))) (ev_callG rfl hf rfl (evl_cons (ev_name rfl) (evl_cons (ev_name rfl) evl_nil)) (i2.mono (by omega))) bin_add))
theorem tr_list {prog:Program} {ds:List Dat} (hz:ds.length≤sizeLine):TrG prog w W k (.dat (.list ds)) (!ds.isEmpty):=fun s F u b hu A Q E rm q=>by
  cases hu with
  | list hm hr =>
    have e:=hr.length
    have hz':ds.length≤16777216:=hz
    refine wpAny_truthy_list (isList_of b hm) (by simp; omega) ?_
    rename_i a vs n
    have:(vs.toArray).isEmpty=ds.isEmpty:=by
      cases vs <;> cases ds <;> simp at e <;> rfl
    rw [this]
    exact q _ _ ((Grow.more b (Nat.le_succ _)).trans (Grow.more (b.grow (Grow.more b (Nat.le_succ _))) (Nat.le_succ _)))
theorem clos_in7 {ds:List Int} {n:Nat} {f:Nat} {G G':Fz} {clos:List (Str × Addr)} (h:ClosIn pw w G' clos (capt7 ds n f G)):ClosIn pw w G' clos (capt7 ds n f G'):=by
  refine ⟨fun y c hc=>?_,h.2⟩
  obtain ⟨o,v,x,h1,h2,h3,h4⟩:=h.1 y c hc
  by_cases e:y=("inner":Str)
  · subst e
    have h3':some (Bd.val (.fn f G))=some (.val x):=h3
    cases h3'
    exact ⟨o,v,.fn f G',h1,h2,rfl,h4.1,.rfl⟩
  · refine ⟨o,v,x,h1,h2,?_,h4⟩
    rw [← h3]
    by_cases e1:y=("digits":Str)
    · subst e1; rfl
    · by_cases e2:y=("n":Str)
      · subst e2; rfl
      · rw [lookup_cons_ne e1,lookup_cons_ne e2,lookup_cons_ne e,lookup_cons_ne e1,lookup_cons_ne e2,lookup_cons_ne e]
theorem sp_digits2int (T:WokT W) {ds:List Int} {n M:Nat} (hn:n≤64) (hM:M≤1000) (hl:ds.length≤14) (hd:∀ d ∈ ds,d.natAbs < 2 ^ M) :
    Spec w W (k + 16) 7 [.dat (.list (ds.map Dat.int)),.dat (.int (n:Int))] (.dat (.int (dv n ds))):=by
  obtain ⟨c,Pt,t7⟩:=T.t7
  have hz2:sizeLine=16777216:=rfl
  refine sp_ofE ["digits","n"] t7 (fun pm code doc vs h=>by match vs,h with | [u,v],_=>rfl) (by decide) (by decide) rfl ?_
  refine exe_def (name:=nRec7.name) (params:=nRec7.params) (body:=nRec7.body) (scope:=nRec7.scope) (qual:=("_digits2int.<locals>.inner":Str)) t7.tab T.nd (fun env h=>h.1) (fun env h he=>?_) t7.qual.symm rfl rfl (fun _=>rfl) (by decide) (by decide) rfl (fun f c' clos doc pm ctv oc us t G hf hoc hocd hus hsome=>?_)
  · rw [t7.qual]
    unfold qualnameIn
    rw [show (env.kindOf nRec7.name == some .globalExplicit)=false by show (env.scope.names.lookup nRec7.name == some .globalExplicit)=false; rw [he]; decide,h.2]
    rfl
  · have hf7:(f,fn7 clos doc pm c' ctv) ∈ G.obs:=hf
    refine exe_ret (eve_ite (c:=!ds.isEmpty) ?_ (fun hne=>?_) (fun he=>?_))
    · exact evb_val (ev_name rfl) (by have:=tr_list (prog:=pw) (w:=w) (W:=W) (k:=k + 15) (ds:=ds.map Dat.int) (by simp; omega); rw [List.isEmpty_map] at this; exact this)
    · have hpos:0 < ds.length:=by
        cases ds with
        | nil=>cases hne
        | cons a r=>simp
      refine eve_nest (i:=dv n ds) (Γc:=capt7 ds n f G) (fun env h=>h.2) rfl hf rfl (by decide) ?_ (evl_cons ev_int (evl_cons (ev_b (bname T.ok (by decide) rfl (by decide +kernel)) (evl_cons (ev_name rfl) evl_nil) (c_len_list (by simp; omega))) evl_nil)) (fun G' hG' hin=>?_)
      · intro x hx hfr
        have key:x.1=("digits":Str) ∨ x.1=("n":Str) ∨ x.1=("inner":Str):=by
          have:∀ x ∈ nRec7.scope.names,x.2=.free→x.1=("digits":Str) ∨ x.1=("n":Str) ∨ x.1=("inner":Str):=by decide
          exact this x hx hfr
        rcases key with e | e | e <;> rw [e]
        · exact ⟨_,rfl,rfl⟩
        · exact ⟨_,rfl,rfl⟩
        · exact ⟨_,rfl,rfl⟩
      · have:=inner7 (w:=w) (W:=W) (k:=k) (G:=G') (hG'.obs _ hf7) (hG'.obs _ hoc) hocd hus hn hM (by omega) hd (fun y hy=>?_) (clos_in7 hin) ds.length 0 hpos (by omega)
        · rw [List.drop_zero,List.take_length,Nat.zero_add] at this
          have h2:=this.mono (k:=k + 15) (by omega)
          rw [List.length_map]
          exact h2
        · rcases hy with rfl | rfl | rfl <;> exact hsome _ (by decide)
    · have:ds=[]:=by
        cases ds with
        | nil=>rfl
        | cons a r=>simp at he
      subst this
      exact eve_of ev_int
end Mine
namespace Mine
variable {w:World} {W:Wd} {φ:Env→Prop} {k:Nat} {sc:Scope} {fn:Bool} {Γ Γ' Γ'':Ctx'}
def keyT (x:Str):Dat:=.tuple [.int (x.length:Int),.str x]
def ltT (a b:Str):Bool:=if a.length=b.length then (if a=b then false else decide (a.cps.toList < b.cps.toList)) else decide ((a.length:Int) < (b.length:Int))
def ltS (a b:Str):Bool:=decide (a.cps.toList < b.cps.toList)
section
variable {prog:Program} {A:Around} {s:Shared} {F:Fz}
theorem reps_keyT:∀ {ks:List Value} (xs:List Str),Reps F ks (xs.map keyT)→(∀ p ∈ F.obs,s.heap.get? p.1=some p.2)→∃ fs,KatTups s.heap ks fs∧fs.length=xs.length∧∀ v ∈ fs,∃ i t,v=Value.int i t
  | _,[],.nil,_=>⟨[],.nil,rfl,fun _ h=>nomatch h⟩
  | _,x :: xs,.cons h hr,hF=>by
    obtain ⟨fs,h1,h2,h3⟩:=reps_keyT xs hr hF
    cases h with
    | tuple ho hv =>
      cases hv with
      | cons h4 h5 =>
        cases h4 with
        | int ht =>
          exact ⟨_ :: fs,.cons (hF _ ho) rfl rfl (show ((Value.int _ _ :: _:List Value).toArray)[0]?=some (Value.int _ _) by rw [List.getElem?_toArray]; rfl) h1,by simp [h2],fun v hv=>by
            rcases List.mem_cons.mp hv with rfl | hv
            · exact ⟨_,_,rfl⟩
            · exact h3 v hv⟩
theorem kindT {ks:List Value} {xs:List Str} {Q:SortKind→Shared→Prop} (h:Reps F ks (xs.map keyT)) (hF:∀ p ∈ F.obs,s.heap.get? p.1=some p.2) (h0:0 < xs.length) (q:Q (tuples' true) s) :
    wpAny (model prog w) A (keyKind' (List.toArray ks)) Q (fun _ _=>False) s:=by
  obtain ⟨fs,h1,h2,h3⟩:=reps_keyT (s:=s) xs h hF
  exact kat_kind (T:=.type "int") h1 (by omega) (fun v hv=>by obtain ⟨i,t,rfl⟩:=h3 v hv; exact Looks.of_pure rfl) rfl q
theorem reps_keyT_get {ks:List Value} {xs:List Str} (h:Reps F ks (xs.map keyT)) (hF:∀ p ∈ F.obs,s.heap.get? p.1=some p.2) {i:Nat} (hi:i < xs.length) :
    ∃ a n t u,ks.getD i Value.none=.ref a∧s.heap.get? a=some ({ cls:=.type "tuple",data:=.seq #[.int ((xs.getD i Str.empty).length:Int) t,.str (xs.getD i Str.empty) u] n }:Obj):=by
  have hd:(xs.map keyT)[i]?=some (keyT (xs.getD i Str.empty)):=by
    rw [List.getElem?_map,List.getElem?_eq_getElem hi,List.getD_eq_getElem?_getD,List.getElem?_eq_getElem hi]; rfl
  obtain ⟨v,h1,h2⟩:=h.get hd
  rw [List.getD_eq_getElem?_getD,h1]
  unfold keyT at h2
  cases h2 with
  | tuple ho hv =>
    cases hv with
    | cons h4 h5 =>
      cases h5 with
      | cons h6 h7 =>
        cases h4; cases h6; cases h7
        exact ⟨_,_,_,_,rfl,hF _ ho⟩
theorem askT {ks:List Value} {xs:List Str} {i j:Nat} {C:Bool→Shared→Prop} (h:Reps F ks (xs.map keyT)) (hF:∀ p ∈ F.obs,s.heap.get? p.1=some p.2) (hi:i < xs.length) (hj:j < xs.length)
    (q:C (ltT (xs.getD i Str.empty) (xs.getD j Str.empty)) s):kas_ask prog w A (tuples' true) ks i j C s:=by
  obtain ⟨a,n,t,u,e1,h1⟩:=reps_keyT_get h hF hi
  obtain ⟨a',n',t',u',e2,h2⟩:=reps_keyT_get h hF hj
  unfold kas_ask
  rw [e1,e2]
  refine kat_lt h1 rfl h2 rfl (kat_cons (wpAny_eqBool_int ?_))
  unfold ltT at q
  by_cases hl:(xs.getD i Str.empty).length=(xs.getD j Str.empty).length
  · rw [if_pos hl] at q
    rw [show (((xs.getD i Str.empty).length:Int) == ((xs.getD j Str.empty).length:Int))=true from beq_iff_eq.mpr (by exact_mod_cast hl)]
    refine kat_yes (kat_cons (wpAny_eqBool_str ?_))
    by_cases he:xs.getD i Str.empty=xs.getD j Str.empty
    · rw [if_pos he] at q
      rw [decide_eq_true he]
      exact kat_yes (kat_nil q)
    · rw [if_neg he] at q
      rw [decide_eq_false he]
      exact kat_no (kat_one _ _ (P.lt_str q))
  · rw [if_neg hl] at q
    rw [show (((xs.getD i Str.empty).length:Int) == ((xs.getD j Str.empty).length:Int))=false from beq_eq_false_iff_ne.mpr fun e=>hl (by exact_mod_cast e)]
    exact kat_no (oneLt_int q)
theorem reps_str_get {ks:List Value} {xs:List Str} (h:Reps F ks (xs.map Dat.str)) {i:Nat} (hi:i < xs.length):∃ u,ks.getD i Value.none=.str (xs.getD i Str.empty) u:=by
  have hd:(xs.map Dat.str)[i]?=some (.str (xs.getD i Str.empty)):=by
    rw [List.getElem?_map,List.getElem?_eq_getElem hi,List.getD_eq_getElem?_getD,List.getElem?_eq_getElem hi]; rfl
  obtain ⟨v,h1,h2⟩:=h.get hd
  rw [List.getD_eq_getElem?_getD,h1]
  cases h2
  exact ⟨_,rfl⟩
theorem reps_strs':∀ {ks:List Value} (xs:List Str),Reps F ks (xs.map Dat.str)→∀ v ∈ ks,∃ a u,v=Value.str a u
  | _,[],.nil,_,h=>nomatch h
  | _,x :: xs,.cons h hr,v,hv=>by
    rcases List.mem_cons.mp hv with rfl | hv
    · cases h; exact ⟨_,_,rfl⟩
    · exact reps_strs' xs hr v hv
theorem kindS {ks:List Value} {xs:List Str} {Q:SortKind→Shared→Prop} (h:Reps F ks (xs.map Dat.str)) (h2:2≤xs.length) (q:Q oneType' s) :
    wpAny (model prog w) A (keyKind' (List.toArray ks)) Q (fun _ _=>False) s :=
  kas_kind (T:=.type "str") (by have:=h.length; simp at this; omega) (fun v hv=>by obtain ⟨a,u,rfl⟩:=reps_strs' xs h v hv; exact Looks.of_pure rfl) rfl rfl q
theorem askS {ks:List Value} {xs:List Str} {i j:Nat} {C:Bool→Shared→Prop} (h:Reps F ks (xs.map Dat.str)) (hi:i < xs.length) (hj:j < xs.length)
    (q:C (ltS (xs.getD i Str.empty) (xs.getD j Str.empty)) s):kas_ask prog w A oneType' ks i j C s:=by
  obtain ⟨u,e1⟩:=reps_str_get h hi
  obtain ⟨u',e2⟩:=reps_str_get h hj
  unfold kas_ask
  rw [e1,e2]
  exact kas_lt_str q
end
theorem evs_sortedG {e fe:Expr} {p pos kp:Pos} {xs outs:List Str} {key:Str→Dat} {κ:SortKind} {lt:Str→Str→Bool} {pm:Array Nat} (hB:BName W sc ("sorted":Str) (.builtin "sorted"))
    (he:Ev pw w W (k + 2) sc fn Γ e (.dat (.list (xs.map Dat.str))))
    (hfe:∀ fr P s F,fr.env.scope=sc→φ fr.env→St pw w W fr fn Γ P s F→∀ (A:Around) (Q:Value→Shared→Prop) (E:Value→Shared→Prop),Room (k + 2) A →
      (∀ a s' F',Grow W s s' F F'→(∀ x ∈ xs,CallsG pw w W k F' a [.dat (.str x)] (.dat (key x)))→Q (.ref a) s')→wpAny (model pw w) A (eval fe fr.env) Q E s)
    (h2:2≤xs.length) (h64:xs.length < 64)
    (hk:∀ (A:Around) (ks:List Value) (s:Shared) (F:Fz) (Q:SortKind→Shared→Prop),Reps F ks (xs.map key)→(∀ p ∈ F.obs,s.heap.get? p.1=some p.2)→Q κ s→wpAny (model pw w) A (keyKind' (List.toArray ks)) Q (fun _ _=>False) s)
    (hlt:∀ (A:Around) (ks:List Value) (s:Shared) (F:Fz) (i j:Nat) (C:Bool→Shared→Prop),Reps F ks (xs.map key)→(∀ p ∈ F.obs,s.heap.get? p.1=some p.2)→i < xs.length→j < xs.length→C (lt (xs.getD i Str.empty) (xs.getD j Str.empty)) s→kas_ask pw w A κ ks i j C s)
    (hrun:runB (fun i j=>lt (xs.getD i Str.empty) (xs.getD j Str.empty)) xs.length (kas_sort xs.length)=some pm) (hpb:∀ i ∈ pm.toList,i < xs.length) (hout:(pm.toList.map fun i=>xs.getD i Str.empty)=outs)
    (hs:∀ env,starEach [e] env=[(false,eval e env)]:=by intro _; rfl) :
    EvS w W φ (k + 2) sc fn Γ (.Call (.Name ("sorted":Str) p) [e] [⟨some ("key":Str),fe,kp⟩] pos) (.dat (.list (outs.map Dat.str))):=fun fr P s F hsc st A Q E rm al q=>by
  have e1:eval (.Call (.Name ("sorted":Str) p) [e] [⟨some ("key":Str),fe,kp⟩] pos) fr.env=(do callWith pos (← eval (.Name ("sorted":Str) p) fr.env) [] (backTo pos (starEach [e] fr.env)) (backToKw pos (keywordEach [⟨some ("key":Str),fe,kp⟩] fr.env))):=rfl
  rw [e1]
  refine wpAny_bind (name_builtin st (hsc ▸ hB.kind) hB.glob hB.boot hB.nn ?_ hB.nd)
  refine callWith_kw ?_ (by rw [hs]; rfl) (by rw [hs]; rfl)
  rw [hs]
  refine spliced_cons (he fr P s F hsc st A _ E rm fun v s₁ F₁ g₁ hv=>spliced_nil ?_)
  have st₁:=st.step g₁
  refine kws_cons (hfe fr P s₁ F₁ hsc al.ph st₁ A _ E rm fun a s₂ F₂ g₂ hcl=>kws_nil ?_)
  have st₂:=st₁.step g₂
  have hv₂:Rep F₂ v (.list (xs.map Dat.str)):=Rep.mono g₂.sub hv
  cases hv₂ with
  | list ho hr =>
    obtain ⟨m,hns⟩:=st₂.ns
    refine sorted_call (k:=k) (kw:=[(Str.ofString "key",.ref a)]) (f:=.ref a) (xs:=xs) (key:=key) (κ:=κ) (p:=pm) st₂.base ho hr hns (get_new_none (Nat.le_trans st₂.bsize st₂.nsNew)) st₂.tabL st₂.nsF rm h2 h64 (ksk_s1 _ _) (fun x=>ksk_l1 _ _) (fun x=>ksk_t1 _ _)
      (fun x hx s F' v b hle hv=>hcl x hx s F' [v] b hle (.cons hv .nil)) hk hlt hrun hpb hout fun v' s₃ F₃ gx hn₃ _ hv₃=>?_
    refine q v' s₃ F₃ (st₂.slots gx fun m' h'=>?_) ((g₁.sub.trans g₂.sub).trans gx.sub) hv₃
    rw [← ns_unique hns h']; exact hn₃
theorem evs_sortedS (ok:Wok W) {e:Expr} {p pos kp p₁:Pos} {xs outs:List Str} {pm:Array Nat} (hB:BName W sc ("sorted":Str) (.builtin "sorted"))
    (he:Ev pw w W (k + 3) sc fn Γ e (.dat (.list (xs.map Dat.str)))) (hkx:sc.names.lookup ("_strxfrm":Str)=some .globalImplicit) (h2:2≤xs.length) (h64:xs.length < 64)
    (hrun:runB (fun i j=>ltS (xs.getD i Str.empty) (xs.getD j Str.empty)) xs.length (kas_sort xs.length)=some pm) (hpb:∀ i ∈ pm.toList,i < xs.length) (hout:(pm.toList.map fun i=>xs.getD i Str.empty)=outs)
    (hs:∀ env,starEach [e] env=[(false,eval e env)]:=by intro _; rfl) :
    EvS w W φ (k + 3) sc fn Γ (.Call (.Name ("sorted":Str) p) [e] [⟨some ("key":Str),.Name ("_strxfrm":Str) p₁,kp⟩] pos) (.dat (.list (outs.map Dat.str))):=by
  obtain ⟨b,f⟩:=ok.fns 12 (by decide)
  refine evs_sortedG (k:=k + 1) (key:=Dat.str) (κ:=oneType') (lt:=ltS) hB he (fun fr P s F hsc hph st A Q E rm q=>?_) h2 h64 (fun A ks s F Q hr hF q=>kindS hr h2 q) (fun A ks s F i j C hr hF hi hj q=>askS hr hi hj q) hrun hpb hout hs
  refine (ev_glob hkx f.glob (by decide)) fr P s F hsc st A _ E rm fun v s' F' g hv=>?_
  cases hv
  exact q b s' F' g fun x hx s F vs b' _ hvs=>(sp_strxfrm (k:=k) b f) s F vs b' hvs
theorem evs_sortedT (T:WokT W) {c Pt:Addr} (t36:TabFn W 36 ("law.<locals>.<lambda>":Str) c Pt) {e body:Expr} {params:Arguments} {scope:Scope} {p pos kp p₁:Pos}  {xs outs:List Str} {pm:Array Nat} (hB:BName W sc ("sorted":Str) (.builtin "sorted"))
    (hφ:∀ env,φ env→env.code=.ref c∧env.qual=("law.<locals>.":Str)∧env.globals=mainGlobals)
    (he:Ev pw w W (k + 3) sc fn Γ e (.dat (.list (xs.map Dat.str)))) (h2:2≤xs.length) (h64:xs.length < 64)
    (hcl:∀ env,closureFor scope env=pure [])
    (hdef:∀ env,defaultsOf params env=([],[]))
    (hb:∀ pm ctv c' (vs:List Value),vs.length=1→bindArgs (kla_fn ("<lambda>":Str) ("law.<locals>.<lambda>":Str) params body scope [] pm (.ref c') ctv) ⟨vs,[]⟩=pure ((["name"]:List Str).zip vs))
    (hp:nestOk scope ["name"]=true)
    (hex:∀ x ∈ xs,Ev pw w W k scope false [("name",.val (.dat (.str x)))] body (.dat (keyT x)))
    (hrun:runB (fun i j=>ltT (xs.getD i Str.empty) (xs.getD j Str.empty)) xs.length (kas_sort xs.length)=some pm) (hpb:∀ i ∈ pm.toList,i < xs.length) (hout:(pm.toList.map fun i=>xs.getD i Str.empty)=outs)
    (hs:∀ env,starEach [e] env=[(false,eval e env)]:=by intro _; rfl) :
    EvS w W φ (k + 3) sc fn Γ (.Call (.Name ("sorted":Str) p) [e] [⟨some ("key":Str),.Lambda params body scope p₁,kp⟩] pos) (.dat (.list (outs.map Dat.str))):=by
  refine evs_sortedG (k:=k + 1) (key:=keyT) (κ:=tuples' true) (lt:=ltT) hB he (fun fr P s F hsc hph st A Q E rm q=>?_) h2 h64 (fun A ks s F Q hr hF q=>kindT hr hF (by omega) q) (fun A ks s F i j C hr hF hi hj q=>askT hr hF hi hj q) hrun hpb hout hs
  obtain ⟨hc,hq,hg⟩:=hφ _ hph
  refine kla_eval (hdef _) ?_
  refine make_lam (qual:=fr.env.qual ++ ("<lambda>":Str)) (clos:=[]) (c:=c) (Pt:=Pt) st.base t36.tab T.nd hg hc (by rw [hq,t36.qual]; decide) (hcl _) fun f c' pm ctv oc us t s' F' g hf hoc hod hus=>q f s' F' g fun x hx=>?_
  rw [hq] at hf hus
  exact calls_lam ["name"] hf hoc hod hus (fun vs h=>hb _ _ _ _ h) hp (by decide) rfl (hex x hx)
end Mine
namespace Mine
theorem xor_low (x s:Nat):x ^^^ (x / 2 ^ s * 2 ^ s)=x % 2 ^ s:=by
  apply Nat.eq_of_testBit_eq
  intro i
  rw [← Nat.shiftRight_eq_div_pow,← Nat.shiftLeft_eq,Nat.testBit_xor,Nat.testBit_shiftLeft,Nat.testBit_shiftRight,Nat.testBit_mod_two_pow]
  by_cases h:i < s
  · have:¬ i ≥ s:=by omega
    simp [h,this]
  · have h':i ≥ s:=by omega
    have e:s + (i - s)=i:=by omega
    simp [h,h',e]
def dg (n:Nat):Nat→Nat→List Nat
  | 0,_=>[]
  | 1,x=>[x]
  | m + 2,x=>x % 2 ^ n :: dg n (m + 1) (x / 2 ^ n)
theorem dg_len (n:Nat):∀ m x,(dg n m x).length=m
  | 0,_=>rfl
  | 1,_=>rfl
  | m + 2,x=>by rw [dg,List.length_cons,dg_len n (m + 1)]
theorem dg_split (n:Nat):∀ (h m x:Nat),0 < h→0 < m→dg n (h + m) x=dg n h (x % 2 ^ (n * h)) ++ dg n m (x / 2 ^ (n * h))
  | 0,m,x,hh,_=>absurd hh (Nat.lt_irrefl _)
  | 1,m,x,_,hm=>by
    obtain ⟨m',rfl⟩:∃ m',m=m' + 1:=⟨m - 1,by omega⟩
    rw [show 1 + (m' + 1)=m' + 2 by omega,dg,Nat.mul_one,dg]
    rfl
  | h + 2,m,x,_,hm=>by
    have ih:=dg_split n (h + 1) m (x / 2 ^ n) (by omega) hm
    rw [show h + 2 + m=(h + m) + 2 by omega,dg,show h + m + 1=h + 1 + m by omega,ih,dg]
    have e1:x % 2 ^ (n * (h + 2)) % 2 ^ n=x % 2 ^ n:=Nat.mod_mod_of_dvd _ (Nat.pow_dvd_pow 2 (Nat.le_mul_of_pos_right n (by omega)))
    have e2:x % 2 ^ (n * (h + 2)) / 2 ^ n=x / 2 ^ n % 2 ^ (n * (h + 1)):=by
      rw [show n * (h + 2)=n + n * (h + 1) by rw [Nat.mul_add,Nat.mul_add]; omega,Nat.pow_add,Nat.mod_mul_right_div_self]
    have e3:x / 2 ^ n / 2 ^ (n * (h + 1))=x / 2 ^ (n * (h + 2)):=by
      rw [Nat.div_div_eq_div_mul,← Nat.pow_add,show n + n * (h + 1)=n * (h + 2) by rw [Nat.mul_add,Nat.mul_add]; omega]
    rw [e1,e2,e3]
    rfl
def over (ds:List Dat) (L:Nat) (r:List Dat):List Dat:=ds.take L ++ r ++ ds.drop (L + r.length)
theorem over_one (ds:List Dat) (L:Nat) (d:Dat) (h:L < ds.length):over ds L [d]=ds.set L d:=by
  unfold over
  rw [List.set_eq_take_append_cons_drop,if_pos h]
  simp
theorem over_len (ds:List Dat) (L:Nat) (r:List Dat) (h:L + r.length≤ds.length):(over ds L r).length=ds.length:=by
  unfold over
  simp; omega
theorem over_over (ds:List Dat) (L:Nat) (r r':List Dat) (h:L + r.length + r'.length≤ds.length):over (over ds L r) (L + r.length) r'=over ds L (r ++ r'):=by
  unfold over
  have h1:(List.take L ds).length=L:=by rw [List.length_take]; omega
  have h2:(List.take L ds ++ r).length=L + r.length:=by rw [List.length_append,h1]
  rw [List.take_append_of_le_length (by rw [h2]; exact Nat.le_refl _),List.take_of_length_le (by rw [h2]; exact Nat.le_refl _)]
  have h3:List.drop (L + r.length + r'.length) (List.take L ds ++ r ++ List.drop (L + r.length) ds)=List.drop (L + (r ++ r').length) ds:=by
    rw [List.drop_append,h2]
    rw [List.drop_of_length_le (by rw [h2]; omega),List.nil_append,List.drop_drop]
    congr 1
    rw [List.length_append]; omega
  rw [h3]
  simp
variable {prog:Program} {w:World} {W:Wd} {k:Nat}
section
theorem enter_nest {s:Shared} {F G:Fz} {f:Nat} {name qual:Str} {params:Arguments} {body:List Stmt} {scope:Scope} {clos:List (Str × Addr)} {doc pm ctv:Value} {c':Addr} {oc:Obj} {us:Array Value} {tq:Nat} {xs:List V} {capt:Ctx'} {P:Led} {vs:List Value} {hid:List Nat}
    {A:Around} {Q:Value→Shared→Prop} {E:Value→Shared→Prop} (names:List Str)
    (hf:(f,fnMade name qual params body scope clos doc pm c' ctv) ∈ G.obs) (hoc:(c',oc) ∈ G.obs) (hocd:oc.data=.fields us) (hus:us[1]?=some (.str qual tq))
    (hb:∀ (vs:List Value),vs.length=xs.length→bindArgs (fnX name qual params body scope clos .none .none doc pm none (.ref c') ctv) ⟨vs,[]⟩=pure (names.zip vs))
    (hp:nestOk scope names=true) (hn:names.Nodup) (hl:names.length=xs.length)
    (hclos:∀ n c,clos.lookup n=some c→∃ o v x,(c,o) ∈ G.obs∧o.data=.cell (some v)∧capt.lookup n=some (.val x)∧x.is prog w G v)
    (hcapt:∀ y b,capt.lookup y=some b→scope.names.lookup y=some .free∧∃ c,clos.lookup y=some c)
    (hinj:∀ n n' c,clos.lookup n=some c→clos.lookup n'=some c→n=n')
    (b:Base W s F) (hG:G.le F) (hv:VsIs prog w F vs xs) (rm:Room (k + 1) A)
    (hP:∀ p ∈ P,s.heap.get? p.1=some p.2∧¬ W.tab p.1∧(∀ q ∈ F.obs,q.1≠p.1)∧∀ v,p.2.data≠.cell v)
    (hex:∀ (env:Env) (s₁:Shared) (A':Around) (E':Value→Shared→Prop),env.scope=scope→St prog w W ⟨{ s with heap:=hideAll s.heap hid },F,env⟩ false (names.zip (xs.map Bd.val) ++ capt) P s₁ F→Grow W s s₁ F F→Room k A' →
      wpAny (model prog w) A' (execs body env) (fun fl s'=>Q (match fl with | .ret v=>v | _=>.none) s') E' s₁):wpAny (model prog w) A (call (.ref f) vs) Q E s:=by
  have ho:=b.has _ (hG.obs _ hf)
  have hco:=b.has _ (hG.obs _ hoc)
  unfold nestOk at hp
  simp only [Bool.and_eq_true,beq_iff_eq,Bool.not_eq_true',List.all_eq_true,bne_iff_ne] at hp
  obtain ⟨⟨⟨⟨hk,hcor⟩,hgen⟩,hcell⟩,hkinds⟩:=hp
  have vl:=hv.length
  refine wpAny_call ?_
  refine codeAny_call_function (fd:=fnX name qual params body scope clos .none .none doc pm none (.ref c') ctv) rm.depth ho rfl hcor hgen rfl ⟨c',oc,us,tq,rfl,hco,hocd,hus⟩ ?_
  rw [hb _ vl]
  have hbm:(names.zip vs).map (·.1)=names:=by
    rw [List.map_fst_zip]; omega
  refine wpAny_pure (any_hz (wpAny_newFunctionEnv hcell (fun x hx=>hkinds x.1 (List.of_mem_zip hx).1) (fun h' hns hsb hz1 ht1=>?_) hk))
  have keep:∀ a o,s.heap.get? a=some o→h'.get? a=some o:=fun a o e=>(hsb.2 a (Nat.ne_of_lt (Heap.lt_size e))).trans (Heap.get?_push_of_some _ e)
  have g:Grow W s { s with heap:=h',toks:=s.toks + (names.zip vs).length } F F:=Grow.of_keeps [] b keep (fun _ h=>nomatch h) hz1 ht1 rfl .rfl
  let env:Env:=newEnv scope s.heap.objs.size mainGlobals clos (qual ++ ".<locals>.") (some f) (.ref c') none builtinsNs
  have hcl:∀ n c,clos.lookup n=some c→∃ o v x,h'.get? c=some o∧o.data=.cell (some v)∧capt.lookup n=some (.val x)∧x.is prog w F v∧s.heap.get? c=some o∧(c,o) ∈ F.obs:=fun n c hc=>by
    obtain ⟨o,v,x,h1,h2,h3,h4⟩:=hclos n c hc
    exact ⟨o,v,x,keep _ _ (b.has _ (hG.obs _ h1)),h2,h3,V.is.mono hG h4,b.has _ (hG.obs _ h1),hG.obs _ h1⟩
  have hsz:(hideAll s.heap hid).objs.size=s.heap.objs.size:=hideAll_size _ _
  have gh:Grow W { s with heap:=hideAll s.heap hid } { s with heap:=h',toks:=s.toks + (names.zip vs).length } F F :=
    ⟨fun a o ht e=>g.keep a o ht (of_hideAll _ e),g.has,g.sub,fun p hp=>.inl hp,g.tok,g.toks,by rw [hsz]; exact g.size,rfl,.rfl,g.tabs⟩
  have st:St prog w W ⟨{ s with heap:=hideAll s.heap hid },F,env⟩ false (names.zip (xs.map Bd.val) ++ capt) P { s with heap:=h',toks:=s.toks + (names.zip vs).length } F:=by
    refine ⟨b.grow g,gh,by rw [hsz]; exact b.size,rfl,rfl,hk,⟨_,hns⟩,by rw [hsz]; exact Nat.le_refl _,fun p hp=>Nat.ne_of_lt (Heap.lt_size (b.has p hp)),fun p hp=>Nat.ne_of_lt (Heap.lt_size (hP p hp).1),fun p hp=>⟨keep _ _ (hP p hp).1,(hP p hp).2.1,(hP p hp).2.2.1⟩,fun n c hc=>?_,fun n n' c h1 h2=>hinj n n' c h1 h2,fun x hx=>?_,fun y bd hy=>?_,?_⟩
    · obtain ⟨o,v,x,h1,h2,h3,h4,h5,h6⟩:=hcl n c hc
      refine ⟨⟨some v,o,h1,h2⟩,Nat.ne_of_lt (Heap.lt_size h5),(fun h=>by cases h),fun p hp e=>?_,b.off _ h6,fun h=>by cases h⟩
      have:=(hP p hp).1
      rw [e,h5] at this
      cases this
      exact (hP p hp).2.2.2 _ h2
    · exact absurd rfl (hcell _ (mem_of_lookup (show scope.names.lookup x=some .cell from hx)))
    · rw [List.lookup_append] at hy
      cases hz:(names.zip (xs.map Bd.val)).lookup y with
      | some bd' =>
        rw [hz] at hy
        cases hy
        obtain ⟨h1,x,v,e1,e2,e3⟩:=zip_lookup hv hz
        subst e1
        refine ⟨v,.inl ⟨hkinds y h1,_,hns,?_⟩,e3⟩
        exact zip_reverse_lookup (by rw [hbm]; exact hn) e2
      | none =>
        rw [hz] at hy
        have hy':capt.lookup y=some bd:=by simpa using hy
        obtain ⟨h1,c,hc⟩:=hcapt y bd hy'
        obtain ⟨o,v,x,h2,h3,h4,h5,_⟩:=hcl y c hc
        rw [hy'] at h4
        cases h4
        exact ⟨v,.inr ⟨.inr h1,c,hc,o,h2,h3⟩,h5⟩
    · intro x y bx by' a hne h1 h2 o1 o2
      rw [List.lookup_append] at h1
      cases hz:(names.zip (xs.map Bd.val)).lookup x with
      | some bd' =>
        rw [hz] at h1
        cases h1
        obtain ⟨_,x',v,e1,_⟩:=zip_lookup hv hz
        subst e1; cases o1
      | none =>
        rw [hz] at h1
        have hy':capt.lookup x=some bx:=by simpa using h1
        obtain ⟨_,c,hc⟩:=hcapt x bx hy'
        obtain ⟨o,v,x',h2,h3,h4,h5,_⟩:=hcl x c hc
        rw [hy'] at h4
        cases h4; cases o1
  refine ⟨W.nolimit.keeps (fun a o e=>keep a o (b.base a o e)),codeAny_func ?_⟩
  exact hex env _ _ _ rfl st g (rm.deeper env)
end
def nRec6:DefRec:=recOf ((dRec 6).body[1]?.getD (.Pass ⟨0,0,0,0⟩))
abbrev fn6 (clos:List (Str × Addr)) (doc pm:Value) (c':Addr) (ctv:Value):Obj:=fnMade nRec6.name ("_int2digits.<locals>.inner":Str) nRec6.params nRec6.body nRec6.scope clos doc pm c' ctv
abbrev capt6 (al:Nat) (n:Nat) (f:Nat):Ctx':=[("a_digits",.val (.con (.ref al))),("n",.val (.dat (.int (n:Int)))),("inner",.val (.con (.ref f)))]
end Mine
namespace Mine
variable {w:World} {W:Wd} {k:Nat}
def CallsM (w:World) (W:Wd) (k:Nat) (G:Fz) (f al:Nat) (xs:List V) (upd:List Dat→List Dat) (len:Nat):Prop :=
  ∀ s F us vs c ds,Base W s F→G.le F→s.heap.get? al=some (listOf (List.toArray vs) c)→Reps F vs ds→ds.length=len→(∀ q ∈ F.obs,q.1≠al)→¬ W.tab al→W.base.get? al=none→VsIs pw w F us xs →
    ∀ (A:Around) (Q:Value→Shared→Prop) (E:Value→Shared→Prop),Room k A →
      (∀ s' F' vs' c',GrowX W [al] s s' F F'→s'.heap.get? al=some (listOf (List.toArray vs') c')→Reps F' vs' (upd ds)→Q .none s')→wpAny (model pw w) A (call (.ref f) us) Q E s
theorem CallsM.mono {j:Nat} {G:Fz} {f al:Nat} {xs:List V} {upd:List Dat→List Dat} {len:Nat} (h:CallsM w W j G f al xs upd len) (hj:j≤k):CallsM w W k G f al xs upd len :=
  fun s F us vs c ds b g1 g2 g3 g4 g5 g6 g7 g8 A Q E r q=>h s F us vs c ds b g1 g2 g3 g4 g5 g6 g7 g8 A Q E (r.mono hj) q
theorem ex1_go {sc:Scope} {fn:Bool} {Γ Γ':Ctx'} {fr:Frm} {P:Led} {s:Shared} {F:Fz} {st:Stmt} {rest:List Stmt} {A:Around} {Q:Flow→Shared→Prop} {E:Value→Shared→Prop} (h:Ex1 pw w W k sc fn Γ st (.next Γ')) (hsc:fr.env.scope=sc) (x:St pw w W fr fn Γ P s F) (rm:Room k A)
    (cont:∀ s' F',St pw w W fr fn Γ' P s' F'→F.le F'→wpAny (model pw w) A (execs rest fr.env) Q E s'):wpAny (model pw w) A (execs (st :: rest) fr.env) Q E s :=
  wpAny_execs_cons (h fr P s F hsc x A _ E rm fun fl s' F' ho hF=>by
    obtain ⟨rfl,x'⟩:=ho
    exact cont s' F' x' hF)
theorem stmt_inner {sc:Scope} {fn:Bool} {Γ:Ctx'} {fr:Frm} {s:Shared} {F G:Fz} {y:Str} {es:List Expr} {p pos spos:Pos} {f al len c:Nat} {o:Obj} {fd:FuncData} {xs:List V} {upd:List Dat→List Dat} {vs:List Value} {ds:List Dat}
    {A:Around} {Q:Flow→Shared→Prop} {E:Value→Shared→Prop} (hsc:fr.env.scope=sc) (st:St pw w W fr fn Γ [(al,listOf vs.toArray c)] s F) (rm:Room k A)
    (hy:Γ.lookup y=some (.val (.con (.ref f)))) (hG:G.le F) (ho:(f,o) ∈ G.obs) (hd:o.data=.func fd) (ha:EvL pw w W k sc fn Γ es xs) (hr:Reps F vs ds) (hl:ds.length=len) (hnone:fr.sb.heap.get? al=none∧W.base.get? al=none)
    (hc:CallsM w W k G f al xs upd len)
    (q:∀ s' F' vs' c',St pw w W fr fn Γ [(al,listOf vs'.toArray c')] s' F'→F.le F'→Reps F' vs' (upd ds)→Q .next s')
    (hs:∀ env,(starEach es env).any (·.1)=false:=by intro _; rfl) (hi:∀ env,env.scope.kind=.function→interactive env=false:=by intro _ h; unfold interactive; rw [h]; rfl)
    (hsw:∀ env,swapsWith (.Call (.Name y p) es [] pos) none spos.line env=pure false:=by intro _; rfl)
    (hdb:(y == ("__debug__":Str))=false:=by decide) (hn:(y == ("__classdict__":Str))=false:=by decide) :
    wpAny (model pw w) A (exec (.Expr (.Call (.Name y p) es [] pos) spos) fr.env) Q E s:=by
  refine wpAny_Expr ?_ (hi _ st.kind) (hsw _)
  have e:eval (.Call (.Name y p) es [] pos) fr.env=(do callWith pos (← eval (.Name y p) fr.env) [] (backTo pos (starEach es fr.env)) []):=rfl
  rw [e]
  obtain ⟨v,h1,h2⟩:=st.vars y _ hy
  have h2':v=.ref f:=h2
  subst h2'
  refine wpAny_bind (st.load_any h1 ?_ hdb hn)
  refine callWith_function (o:=o) (fd:=fd) ?_
  refine evalArgs_of ha hsc st rm hs fun us s₂ F₂ g₂ hv=>?_
  have st₂:=st.step g₂
  refine ⟨⟨st₂.base.has _ (g₂.sub.obs _ (hG.obs _ ho)),hd⟩,?_⟩
  obtain ⟨p1,p2,p3⟩:=st₂.prv _ (.head _)
  refine hc s₂ F₂ us vs c ds st₂.base (hG.trans g₂.sub) p1 (hr.mono g₂.sub) hl p3 p2 hnone.2 hv A _ _ rm fun s₃ F₃ vs₃ c₃ g₃ h3 hr₃=>?_
  have st₃:=St.stepH (N:=[(al,listOf vs.toArray c)]) (N':=[(al,listOf vs₃.toArray c₃)]) (P:=[]) st₂ g₃ (fun p hp=>by cases List.mem_singleton.mp hp; exact .head _) (fun p hp=>by cases List.mem_singleton.mp hp; exact h3) (fun _ h=>nomatch h)
    (fun p hp=>by cases List.mem_singleton.mp hp; exact hnone)
  exact q s₃ F₃ vs₃ c₃ st₃ (g₂.sub.trans g₃.sub) hr₃
theorem evb_use {sc:Scope} {fn:Bool} {Γ:Ctx'} {fr:Frm} {P:Led} {s:Shared} {F:Fz} {e:Expr} {b:Bool} {A:Around} {Q:Bool→Shared→Prop} {E:Value→Shared→Prop} (h:EvB pw w W k sc fn Γ e b) (hsc:fr.env.scope=sc) (st:St pw w W fr fn Γ P s F) (rm:Room k A)
    (q:∀ s' F',Grow W s s' F F'→Q b s'):wpAny (model pw w) A (isTrue e fr.env (eval e fr.env)) Q E s:=h fr P s F hsc st A Q E rm q
theorem ev_use {sc:Scope} {fn:Bool} {Γ:Ctx'} {fr:Frm} {P:Led} {s:Shared} {F:Fz} {e:Expr} {x:V} {A:Around} {Q:Value→Shared→Prop} {E:Value→Shared→Prop} (h:Ev pw w W k sc fn Γ e x) (hsc:fr.env.scope=sc) (st:St pw w W fr fn Γ P s F) (rm:Room k A)
    (q:∀ v s' F',Grow W s s' F F'→x.is pw w F' v→Q v s'):wpAny (model pw w) A (eval e fr.env) Q E s:=h fr P s F hsc st A Q E rm q
abbrev dgI (n m x:Nat):List Dat:=(dg n m x).map fun d:Nat=>Dat.int (d:Int)
set_option maxHeartbeats 2000000 in
theorem inner6 {n M:Nat} (hM:M≤10000) {f al c' len:Nat} {clos:List (Str × Addr)} {doc pm ctv:Value} {oc:Obj} {us:Array Value} {t:Nat} {G:Fz}
    (hf:(f,fn6 clos doc pm c' ctv) ∈ G.obs) (hoc:(c',oc) ∈ G.obs) (hocd:oc.data=.fields us) (hus:us[1]?=some (.str ("_int2digits.<locals>.inner":Str) t))
    (hn:n≤64) (hlen:len≤1000) (hfree:∀ y,(y=("a_digits":Str) ∨ y=("n":Str) ∨ y=("inner":Str))→∃ c,clos.lookup y=some c) (hC:ClosIn pw w G clos (capt6 al n f)) :
    ∀ (m:Nat) (L x:Nat),0 < m→L + m≤len→x < 2 ^ M →
      CallsM w W (k + m) G f al [.dat (.int (x:Int)),.dat (.int (L:Int)),.dat (.int ((L + m:Nat):Int))] (fun ds=>over ds L (dgI n m x)) len:=by
  intro m
  induction m using Nat.strongRecOn with
  | ind m ih =>
    intro L x hm hLm hx s F vs₀ vs c ds b hG hget hr hl hF htab hbase hv A Q E rm q
    obtain ⟨m',rfl⟩:∃ m',m=m' + 1:=⟨m - 1,by omega⟩
    refine enter_nest (k:=k + m') (hid:=[al]) (P:=[(al,listOf vs.toArray c)]) (scope:=nRec6.scope) (capt:=capt6 al n f) ["x","L","R"] hf hoc hocd hus (fun vs h=>by match vs,h with | [u,v,z],_=>rfl) (by decide) (by decide) rfl hC.1 ?_ hC.2 b hG hv rm ?_ ?_
    · intro y b hy
      have key:y=("a_digits":Str) ∨ y=("n":Str) ∨ y=("inner":Str):=by
        by_cases h1:y=("a_digits":Str)
        · exact .inl h1
        · by_cases h2:y=("n":Str)
          · exact .inr (.inl h2)
          · by_cases h3:y=("inner":Str)
            · exact .inr (.inr h3)
            · rw [lookup_cons_ne h1,lookup_cons_ne h2,lookup_cons_ne h3] at hy
              cases hy
      refine ⟨?_,hfree y key⟩
      rcases key with rfl | rfl | rfl <;> decide
    · intro p hp
      cases List.mem_singleton.mp hp
      exact ⟨hget,htab,hF,fun v e=>by cases e⟩
    · intro env s₁ A' E' hsc st g₁ rm'
      have hz63:(1000:Int) < 2 ^ 63:=by decide
      have hnone:({ s with heap:=hideAll s.heap [al] }:Shared).heap.get? al=none∧W.base.get? al=none:=⟨hideAll_none _ (.head _),hbase⟩
      have fin:∀ (Γ':Ctx') (s':Shared) (F':Fz) (vs':List Value) (c':Nat),St pw w W ⟨{ s with heap:=hideAll s.heap [al] },F,env⟩ false Γ' [(al,listOf vs'.toArray c')] s' F'→Reps F' vs' (over ds L (dgI n (m' + 1) x))→Q .none s':=fun Γ' s' F' vs' c' st' hr'=>by
        have g:=st'.grow
        refine q s' F' vs' c' ⟨fun a o ht hna e=>g.keep a o ht (hideAll_get _ e hna),g.has,g.sub,fun p hp=>?_,g.tok,g.toks,?_,g.os,g.gens,g.tabs⟩ (st'.prv _ (.head _)).1 hr'
        · rcases g.new p hp with h | h
          · exact .inl h
          · rw [show ({ s with heap:=hideAll s.heap [al] }:Shared).heap.objs.size=s.heap.objs.size from hideAll_size _ _] at h
            exact .inr h
        · have:=g.size
          rw [show ({ s with heap:=hideAll s.heap [al] }:Shared).heap.objs.size=s.heap.objs.size from hideAll_size _ _] at this
          exact this
      by_cases hm1:m'=0
      · subst hm1
        have ht:(((L:Int) + 1) == ((L + (0 + 1):Nat):Int))=true:=by simp
        refine wpAny_execs_cons (wpAny_If (evb_use (b:=true) (evb_cmp (ev_bin (ev_name rfl) ev_int bin_add) (ev_name rfl) cmp_eq (by rw [ht]; exact tr_bool)) hsc st rm' fun s₂ F₂ g₂=>?_))
        rw [if_pos rfl]
        have st₂:=st.step g₂
        refine wpAny_execs_cons (wpAny_Assign_Subscript (ev_use (ev_name rfl) hsc st₂ rm' fun u s₃ F₃ g₃ hu=>?_) (by rfl))
        have st₃:=st₂.step g₃
        obtain ⟨va,hva,hva'⟩:=st₃.vars ("a_digits":Str) _ rfl
        have hva2:va=.ref al:=hva'
        subst hva2
        refine ev_load st₃ hva ?_ (by decide) (by decide)
        refine ev_use (ev_name rfl) hsc st₃ rm' fun iv s₄ F₄ g₄ hiv=>?_
        have st₄:=st₃.step g₄
        obtain ⟨p1,p2,p3⟩:=st₄.prv _ (.head _)
        cases hiv with
        | int hit =>
          have hr₄:Reps F₄ vs ds:=((hr.mono g₂.sub).mono g₃.sub).mono g₄.sub
          have hvl:=hr₄.length
          refine setItem_plain p1 (by omega) (by omega) (by simp; omega) fun h' ho' hs'=>?_
          rw [Int.toNat_natCast] at ho'
          have e2:vs.toArray.setIfInBounds L u=(vs.set L u).toArray:=by simp
          rw [e2] at ho'
          have st₅:=St.stepH (N:=[(al,listOf vs.toArray c)]) (N':=[(al,listOf (vs.set L u).toArray c)]) (P:=[]) st₄ (s':={ s₄ with heap:=h',toks:=s₄.toks }) (GrowX.same st₄.base hs' p3 p2 (Nat.le_refl _)) (fun p hp=>by cases List.mem_singleton.mp hp; exact .head _) (fun p hp=>by cases List.mem_singleton.mp hp; exact ho') (fun _ h=>nomatch h)
            (fun p hp=>by cases List.mem_singleton.mp hp; exact hnone)
          refine wpAny_execs_cons (wpAny_Return_none (fin _ _ F₄ (vs.set L u) c st₅ ?_))
          rw [show dgI n (0 + 1) x=[Dat.int (x:Int)] from rfl,over_one _ _ _ (by omega)]
          exact Reps.set (V.is.mono (prog:=pw) (w:=w) (x:=.dat (.int (x:Int))) g₄.sub hu) hr₄ L
      · have ht:(((L:Int) + 1) == ((L + (m' + 1):Nat):Int))=false:=by simp; omega
        obtain ⟨h,hdef⟩:∃ h,h=(m' + 1) / 2:=⟨_,rfl⟩
        have hmid:((L:Int) + ((L + (m' + 1):Nat):Int)).fdiv (2 ^ (1:Int).toNat)=((L + h:Nat):Int):=by
          rw [show (2 ^ (1:Int).toNat:Int)=2 by rfl,Int.fdiv_eq_ediv_of_nonneg _ (by decide)]
          omega
        have hh0:0 < h:=by omega
        have hh1:h < m' + 1:=by omega
        have hsh:(((L + h:Nat):Int) - (L:Int)) * (n:Int)=((n * h:Nat):Int):=by
          rw [show ((L + h:Nat):Int) - (L:Int)=(h:Int) by omega,Int.natCast_mul,Int.mul_comm]
        have hup:(x:Int).fdiv (2 ^ ((n * h:Nat):Int).toNat)=((x / 2 ^ (n * h):Nat):Int):=by
          rw [Int.toNat_natCast,Int.fdiv_eq_ediv_of_nonneg _ (by exact Int.le_of_lt (Int.pow_pos (by decide)))]
          rw [Int.natCast_ediv,Int.natCast_pow]; rfl
        have hlow:Builtin.bitXor (x:Int) (((x / 2 ^ (n * h):Nat):Int) * 2 ^ ((n * h:Nat):Int).toNat)=((x % 2 ^ (n * h):Nat):Int):=by
          have e:(((x / 2 ^ (n * h):Nat):Int) * 2 ^ ((n * h:Nat):Int).toNat)=((x / 2 ^ (n * h) * 2 ^ (n * h):Nat):Int):=by
            rw [Int.toNat_natCast,Int.natCast_mul,Int.natCast_pow]; rfl
          rw [e,bitXor_nat,xor_low]
        have hnh:n * h≤64 * 1000:=Nat.mul_le_mul hn (by omega)
        have hdiv:x / 2 ^ (n * h)≤x:=Nat.div_le_self _ _
        have hmod:x % 2 ^ (n * h)≤x:=Nat.mod_le _ _
        have hbits:Builtin.Int.intBits ((x / 2 ^ (n * h):Nat):Int)≤M:=intBits_le (by rw [Int.natAbs_natCast]; exact Nat.lt_of_le_of_lt hdiv hx)
        refine ex1_go (k:=k + m') (ex1_if (b:=false) (o:=.next _) (evb_cmp (ev_bin (ev_name rfl) ev_int bin_add) (ev_name rfl) cmp_eq (by rw [ht]; exact tr_bool)) (fun h=>nomatch h) (fun _=>ex_nil)) hsc st rm' fun s₂ F₂ st₂ hF₂=>?_
        refine ex1_go (k:=k + m') (ex1_assign (x:=.dat (.int ((L + h:Nat):Int))) (by rw [← hmid]; exact ev_bin (ev_bin (ev_name rfl) (ev_name rfl) bin_add) ev_int (bin_rshift (by decide))) (.inl rfl)) hsc st₂ rm' fun s₃ F₃ st₃ hF₃=>?_
        refine ex1_go (k:=k + m') (ex1_assign (x:=.dat (.int ((n * h:Nat):Int))) (by rw [← hsh]; exact ev_bin (ev_bin (ev_name rfl) (ev_name rfl) bin_sub) (ev_name rfl) (bin_mul (IntMulOk.of_left (intBits_le_64 (by omega) (by omega))))) (.inl rfl)) hsc st₃ rm' fun s₄ F₄ st₄ hF₄=>?_
        refine ex1_go (k:=k + m') (ex1_assign (x:=.dat (.int ((x / 2 ^ (n * h):Nat):Int))) (by rw [← hup]; exact ev_bin (ev_name rfl) (ev_name rfl) (bin_rshift (by omega))) (.inl rfl)) hsc st₄ rm' fun s₅ F₅ st₅ hF₅=>?_
        refine ex1_go (k:=k + m') (ex1_assign (x:=.dat (.int ((x % 2 ^ (n * h):Nat):Int))) (by rw [← hlow]; exact ev_bin (ev_name rfl) (ev_bin (ev_name rfl) (ev_name rfl) (bin_lshift (by omega) (by omega))) bin_xor) (.inl rfl)) hsc st₅ rm' fun s₆ F₆ st₆ hF₆=>?_
        have le₆:F.le F₆:=(((hF₂.trans hF₃).trans hF₄).trans hF₅).trans hF₆
        have i1:=ih h hh1 L (x % 2 ^ (n * h)) hh0 (by omega) (Nat.lt_of_le_of_lt hmod hx)
        have i2:=ih (m' + 1 - h) (by omega) (L + h) (x / 2 ^ (n * h)) (by omega) (by omega) (Nat.lt_of_le_of_lt hdiv hx)
        rw [show L + h + (m' + 1 - h)=L + (m' + 1) by omega] at i2
        refine wpAny_execs_cons (stmt_inner (G:=G) hsc st₆ rm' rfl (hG.trans le₆) hf rfl (evl_cons (ev_name rfl) (evl_cons (ev_name rfl) (evl_cons (ev_name rfl) evl_nil))) (hr.mono le₆) hl hnone (i1.mono (by omega)) fun s₇ F₇ vs₇ c₇ st₇ hF₇ hr₇=>?_)
        have hl₇:(over ds L (dgI n h (x % 2 ^ (n * h)))).length=len:=by rw [over_len _ _ _ (by rw [List.length_map,dg_len]; omega)]; exact hl
        refine wpAny_execs_cons (stmt_inner (G:=G) hsc st₇ rm' rfl ((hG.trans le₆).trans hF₇) hf rfl (evl_cons (ev_name rfl) (evl_cons (ev_name rfl) (evl_cons (ev_name rfl) evl_nil))) hr₇ hl₇ hnone (i2.mono (by omega)) fun s₈ F₈ vs₈ c₈ st₈ hF₈ hr₈=>?_)
        refine wpAny_execs_nil (fin _ s₈ F₈ vs₈ c₈ st₈ ?_)
        have e:over (over ds L (dgI n h (x % 2 ^ (n * h)))) (L + h) (dgI n (m' + 1 - h) (x / 2 ^ (n * h)))=over ds L (dgI n (m' + 1) x):=by
          have hlen:(dgI n h (x % 2 ^ (n * h))).length=h:=by rw [List.length_map,dg_len]
          have hlen2:(dgI n (m' + 1 - h) (x / 2 ^ (n * h))).length=m' + 1 - h:=by rw [List.length_map,dg_len]
          have:=over_over ds L (dgI n h (x % 2 ^ (n * h))) (dgI n (m' + 1 - h) (x / 2 ^ (n * h))) (by rw [hlen,hlen2]; omega)
          rw [hlen] at this
          rw [this,← List.map_append]
          congr 2
          have hs:=dg_split n h (m' + 1 - h) x hh0 (by omega)
          rw [show h + (m' + 1 - h)=m' + 1 by omega] at hs
          exact hs.symm
        rw [← e]
        exact hr₈
end Mine
namespace Mine
section
variable {prog:Program} {w:World} {W:Wd} {fr:Frm} {fn:Bool} {Γ Γ':Ctx'} {P:Led} {s s':Shared} {F F':Fz} {k:Nat} {sc:Scope}
theorem St.park (x:St prog w W fr fn Γ P s F) {y:Str} {a:Nat} {b₀:Bd} {o:Obj} (hy:Γ.lookup y=some b₀) (hown:b₀.own=true) (hv:VarAt s.heap fr.env y (.ref a)) (hp:Priv fr P F a) (ho:s.heap.get? a=some o)
    (hΓ:∀ z b,Γ'.lookup z=some b→z≠y∧Γ.lookup z=some b):St prog w W fr fn Γ' ((a,o) :: P) s F:=by
  refine ⟨x.base,x.grow,x.bsize,x.glob,x.blt,x.kind,x.ns,x.nsNew,x.nsF,fun p hq=>?_,fun p hq=>?_,fun n c hc=>?_,x.inj,x.cells,fun z b hz=>?_,fun y z by' bz c hne h1 h2=>x.apart y z by' bz c hne (hΓ y _ h1).2 (hΓ z _ h2).2⟩
  · rcases List.mem_cons.mp hq with rfl | hq
    · exact hp.loc
    · exact x.nsP p hq
  · rcases List.mem_cons.mp hq with rfl | hq
    · exact ⟨ho,hp.tab x.bsize,hp.frz⟩
    · exact x.prv p hq
  · obtain ⟨h1,h2,h3,h4,h5,h6⟩:=x.cell n c hc
    refine ⟨h1,h2,h3,fun p hq=>?_,h5,h6⟩
    rcases List.mem_cons.mp hq with rfl | hq
    · exact Ne.symm (hp.cel n c hc)
    · exact h4 p hq
  · obtain ⟨hne,hz'⟩:=hΓ z b hz
    obtain ⟨v,h1,h2⟩:=x.vars z b hz'
    refine ⟨v,h1,?_⟩
    have pr:∀ c,v=.ref c→b.own=true→Priv fr P F c→Priv fr ((a,o) :: P) F c:=fun c hc ho' q=>⟨q.new,q.loc,q.cel,fun p hq=>by
      rcases List.mem_cons.mp hq with rfl | hq
      · intro e
        subst hc
        have e':a=c:=e
        subst e'
        exact x.apart z y b b₀ _ hne hz' hy ho' hown h1 hv
      · exact q.prv p hq,q.frz⟩
    cases b with
    | val x=>exact h2
    | lst ds=>obtain ⟨c,us,n,e,h3,h4,h5⟩:=h2; exact ⟨c,us,n,e,h3,h4,pr c e rfl h5⟩
    | byt bs=>obtain ⟨c,n,e,h3,h5⟩:=h2; exact ⟨c,n,e,h3,pr c e rfl h5⟩
    | dic kvs=>obtain ⟨c,kvv,e,h3,h4,h5⟩:=h2; exact ⟨c,kvv,e,h3,h4,pr c e rfl h5⟩
theorem St.unpark {y:Str} {a:Nat} {o:Obj} {b':Bd} (x:St prog w W fr fn Γ' ((a,o) :: P) s F) (hnew:fr.sb.heap.objs.size≤a) (hPa:∀ p ∈ P,p.1≠a) (hv:VarAt s.heap fr.env y (.ref a)) (hb:Priv fr P F a→b'.ok prog w fr P F s.heap (.ref a)) :
    St prog w W fr fn ((y,b') :: Γ') P s F:=by
  have hp:Priv fr P F a:=by
    refine ⟨hnew,x.nsP _ (.head _),fun n c hc=>?_,hPa,(x.prv _ (.head _)).2.2⟩
    exact Ne.symm ((x.cell n c hc).2.2.2.1 _ (.head _))
  have y0:=x.perm (P':=P) fun p hq=>.tail _ hq
  refine ⟨y0.base,y0.grow,y0.bsize,y0.glob,y0.blt,y0.kind,y0.ns,y0.nsNew,y0.nsF,y0.nsP,y0.prv,y0.cell,y0.inj,y0.cells,fun z b hz=>?_,fun z z' bz bz' c hne h1 h2 o1 o2 v1 v2=>?_⟩
  · by_cases e:z=y
    · subst e; rw [lookup_cons_self] at hz; cases hz
      exact ⟨_,hv,hb hp⟩
    · rw [lookup_cons_ne e] at hz
      exact y0.vars z b hz
  · have off:∀ z bz,Γ'.lookup z=some bz→bz.own=true→VarAt s.heap fr.env z (.ref c)→c≠a:=fun z bz hz ho hv' e=>by
      subst e
      obtain ⟨u,w1,w2⟩:=x.vars z bz hz
      cases w1.unique hv'
      cases bz with
      | val x=>cases ho
      | lst ds=>obtain ⟨c,us,n,e,h3,h4,h5⟩:=w2; cases e; exact h5.prv _ (.head _) rfl
      | byt bs=>obtain ⟨c,n,e,h3,h5⟩:=w2; cases e; exact h5.prv _ (.head _) rfl
      | dic kvs=>obtain ⟨c,kvv,e,h3,h4,h5⟩:=w2; cases e; exact h5.prv _ (.head _) rfl
    by_cases e:z=y
    · have e':z'≠y:=fun q=>hne (e.trans q.symm)
      rw [lookup_cons_ne e'] at h2
      rw [e] at v1
      cases hv.unique v1
      exact off z' bz' h2 o2 v2 rfl
    · rw [lookup_cons_ne e] at h1
      by_cases e':z'=y
      · rw [e'] at v2
        cases hv.unique v2
        exact off z bz h1 o1 v1 rfl
      · rw [lookup_cons_ne e'] at h2
        exact y0.apart z z' bz bz' c hne h1 h2 o1 o2 v1 v2
theorem ex1_newmul {y:Str} {l r:Expr} {pos pos' bpos:Pos} {ds:List Dat} {c:Int} (hl:Ev prog w W k sc fn Γ l (.dat (.list ds))) (hr:Ev prog w W k sc fn Γ r (.dat (.int c))) (hk:sc.names.lookup y=some .local ∨ (sc.names.lookup y=some .cell∧fn=true))
    (hz:ds.length * c.toNat≤2 ^ 24) (hn0:-(2 ^ 62)≤c) (hn:c < 2 ^ 62) (hs:∀ env,swapsWith (.BinOp l .Mult r bpos) (some (.Name y pos')) pos.line env=pure false:=by intro _; rfl) :
    Ex1 prog w W k sc fn Γ (.Assign [.Name y pos'] (.BinOp l .Mult r bpos) pos) (.next ((y,.lst (List.replicate c.toNat ds).flatten) :: Γ)):=fun fr P s F hsc st A Q E rm q =>
  wpAny_Assign_Name (wpAny_BinOp (hl fr P s F hsc st A _ E rm fun u s₁ F₁ g₁ hu=>hr fr P s₁ F₁ hsc (st.step g₁) A _ E rm fun v s₂ F₂ g₂ hv=>by
    have st₂:=(st.step g₁).step g₂
    cases (V.is.mono g₂.sub hu) with
    | list hm hr =>
      cases hv with
      | int ht =>
        rename_i a vs n t
        have ho:=st₂.base.has _ hm
        have hsz:vs.toArray.size * c.toNat≤2 ^ 24:=by rw [List.size_toArray,hr.length]; exact hz
        have e:List.foldl (fun x1 x2=>x1 ++ x2) #[] (List.replicate (if vs.toArray.isEmpty=true then 0 else c.toNat) vs.toArray)=((List.replicate c.toNat vs).flatten).toArray:=by
          rw [foldl_app]
          cases vs with
          | nil=>simp
          | cons a r=>simp
        refine wpAny_binaryOp_repeat_ref (T:="list") (U:="int") (by decide) ⟨_,ho,rfl⟩ (fun s'=>typeIs_int s' c t) noFill_list_mul PySem.F.fills_int_mul PySem.F.slot_int_rmul repeat_list PySem.F.slot_int_index.lookup
          (call_meets PySem.F.slot_int_rmul (typeIs_int _ c t) PySem.F.entry_int_rmul (PySem.F.args_int_rmul_2 _ _) (int___rmul___int_list c t a vs.toArray n)
            ⟨ho,rfl,⟨_,ho,rfl⟩,call_meets PySem.F.slot_list_mul ⟨_,ho,rfl⟩ PySem.F.entry_list_mul (PySem.F.args_list_mul_2 _ _)
              (AutoListH.list___mul___list_int_3 a vs.toArray n c t (by simp [Builtin.List.listFitsIndex]; omega) (by omega) (by simp [Builtin.List.listTooLong,sizeLine]; omega))
              ⟨ho,?_⟩⟩)
        rw [e]
        exact st₂.store_new (o:={ cls:=.type "list",data:=.seq ((List.replicate c.toNat vs).flatten).toArray }) (b:=.lst (List.replicate c.toNat ds).flatten) ⟨_,_,_,rfl,Heap.get?_push_size _ rfl,reps_replicate hr _,st₂.new⟩ (by rw [← hsc] at hk; exact hk) fun s' st'=>q _ s' F₂ ⟨rfl,st'⟩ (g₁.sub.trans g₂.sub))) (hs _)
theorem ev_len_lst {y f:Str} {p p' pos:Pos} {ds:List Dat} (hB:BName W sc f (.builtin "len")) (hy:Γ.lookup y=some (.lst ds)) (hz:ds.length≤sizeLine)
    (hs:∀ env,starEach [.Name y p] env=[(false,eval (.Name y p) env)]:=by intro _; rfl) (hd:(y == ("__debug__":Str))=false:=by decide) (hn:(y == ("__classdict__":Str))=false:=by decide) :
    Ev prog w W k sc fn Γ (.Call (.Name f p') [.Name y p] [] pos) (.dat (.int (ds.length:Int))):=fun fr P s F hsc st A Q E rm q=>by
  have e:eval (.Call (.Name f p') [.Name y p] [] pos) fr.env=(do callWith pos (← eval (.Name f p') fr.env) [] (backTo pos (starEach [.Name y p] fr.env)) []):=rfl
  rw [e]
  refine wpAny_bind (name_builtin st (hsc ▸ hB.kind) hB.glob hB.boot hB.nn ?_ hB.nd)
  obtain ⟨v,hv,a,vs,n,rfl,ho,hr,hp⟩:=st.vars y _ hy
  refine callWith_builtin (by rw [hs]; rfl) ?_
  rw [hs]
  refine evalArgs_plain (spliced_cons (ev_load st hv (spliced_nil ?_) hd hn))
  have hz':ds.length≤16777216:=hz
  have hl:=hr.length
  refine Calls.call_len_list ⟨_,ho,rfl,_,rfl⟩ (by simp; omega) ?_
  rw [List.size_toArray,hl]
  exact q _ _ _ ((Grow.more st.base (Nat.le_succ _)).trans (Grow.tk (st.base.grow (Grow.more st.base (Nat.le_succ _))) _)) Rep.tk_int
end
end Mine
namespace Mine
variable {w:World} {W:Wd} {k:Nat}
theorem reps_intsN {F F':Fz} (h:∀ p ∈ F.tks,p ∈ F'.tks):∀ {vs:List Value} {l:List Nat},Reps F vs (l.map fun d:Nat=>Dat.int (d:Int))→Reps F' vs (l.map fun d:Nat=>Dat.int (d:Int))
  | _,[],hr=>by cases hr; exact .nil
  | _,a :: l,hr=>by
    cases hr with
    | cons h1 h2 =>
      cases h1 with
      | int ht=>exact .cons (.int (h _ ht)) (reps_intsN h h2)
theorem call6 {n M m x:Nat} {f c':Addr} {clos:List (Str × Addr)} {doc pm ctv:Value} {oc:Obj} {us:Array Value} {t:Nat} {G:Fz} {fr:Frm} {P:Led} {s:Shared} {F:Fz} {ds:List Dat} {vs₀:List Value} {Γ:Ctx'}
    {A:Around} {Q:Value→Shared→Prop} {E:Value→Shared→Prop}
    (hM:M≤10000) (hf:(f,fn6 clos doc pm c' ctv) ∈ G.obs) (hoc:(c',oc) ∈ G.obs) (hocd:oc.data=.fields us) (hus:us[1]?=some (.str ("_int2digits.<locals>.inner":Str) t))
    (hn:n≤64) (hsome:∀ y,(y,NameKind.free) ∈ nRec6.scope.names→∃ c,clos.lookup y=some c) (hsc:fr.env.scope=(dRec 6).scope) (hclos:clOf fr.env.cells nRec6.scope.names=clos)
    (st:St pw w W fr true Γ P s F) (hG:G.le F) (g1:Γ.lookup ("inner":Str)=some (.val (.fn f G))) (g2:Γ.lookup ("a_digits":Str)=some (.lst ds)) (g3:Γ.lookup ("n":Str)=some (.val (.dat (.int (n:Int))))) (g4:Γ.lookup ("a":Str)=some (.val (.dat (.int (x:Int)))))
    (hl:ds.length=m) (hm:0 < m) (hm2:m≤1000) (hx:x < 2 ^ M) (hv:VsIs pw w F vs₀ [.dat (.int (x:Int)),.dat (.int 0),.dat (.int (m:Int))]) (rm:Room (k + m) A)
    (q:∀ s' F',F.le F'→St pw w W fr true [("a_digits",.lst (dgI n m x)),("a",.val (.dat (.int (x:Int))))] P s' F'→Q .none s'):wpAny (model pw w) A (call (.ref f) vs₀) Q E s:=by
  have hfree:∀ x ∈ nRec6.scope.names,x.2=.free→(dRec 6).scope.names.lookup x.1=some .cell:=by decide
  have hkeys:∀ x ∈ nRec6.scope.names,x.2=.free→x.1=("a_digits":Str) ∨ x.1=("n":Str) ∨ x.1=("inner":Str):=by decide
  have hmem:∀ n c,(n,c) ∈ clos→(n,NameKind.free) ∈ nRec6.scope.names∧fr.env.cells.lookup n=some c:=fun n c h=>by
    rw [← hclos] at h
    obtain ⟨h1,h2⟩:=clOf_mem h
    obtain ⟨c',hc'⟩:=st.cells n (by have:=hfree _ h1 rfl; rw [← hsc] at this; exact this)
    rw [hc'] at h2
    exact ⟨h1,hc'.trans (congrArg some h2)⟩
  have hobs:∀ p ∈ cellObs s.heap clos,s.heap.get? p.1=some p.2∧∃ n,fr.env.cells.lookup n=some p.1∧∃ v,p.2.data=.cell v:=fun p hp=>by
    obtain ⟨⟨n,c⟩,hn,e⟩:=List.mem_filterMap.mp hp
    cases ho:s.heap.get? c with
    | none=>rw [ho] at e; cases e
    | some o =>
      rw [ho] at e
      cases e
      have hc:=(hmem n c hn).2
      obtain ⟨⟨v,o',h1,h2⟩,_⟩:=st.cell n c hc
      rw [ho] at h1; cases h1
      exact ⟨ho,n,hc,v,h2⟩
  let Fp:Fz:=⟨cellObs s.heap clos ++ F.obs,F.tks⟩
  have le:F.le Fp:=⟨fun p hp=>List.mem_append_right _ hp,fun p hp=>hp⟩
  have bp:Base W s Fp:=by
    refine ⟨st.base.base,fun p hp=>?_,st.base.tok,st.base.tabs.mono le,fun p hp=>?_,st.base.size⟩
    · rcases List.mem_append.mp hp with h | h
      · exact (hobs p h).1
      · exact st.base.has p h
    · rcases List.mem_append.mp hp with h | h
      · obtain ⟨_,n,hc,_⟩:=hobs p h
        exact (st.cell n _ hc).2.2.2.2.1
      · exact st.base.off p h
  obtain ⟨va,hva,al,vs,c,e,hal,hr,hp⟩:=st.vars _ _ g2
  subst e
  have hin:ClosIn pw w Fp clos (capt6 al n f):=by
    constructor
    · intro y c hc
      obtain ⟨hf,hc'⟩:=hmem y c (mem_of_lookup hc)
      have hk:fr.env.kindOf y=some .cell:=by have:=hfree _ hf rfl; rw [← hsc] at this; exact this
      have cellOf:∀ v,VarAt s.heap fr.env y v→∃ o,(c,o) ∈ Fp.obs∧o.data=.cell (some v):=fun v hva=>by
        rcases hva with ⟨kk,_⟩ | ⟨_,c2,hc2,o,ho,hd⟩
        · rw [hk] at kk; cases kk
        · rw [hc'] at hc2; cases hc2
          exact ⟨o,List.mem_append_left _ (List.mem_filterMap.mpr ⟨(y,c),mem_of_lookup hc,by rw [ho]; rfl⟩),hd⟩
      rcases hkeys _ hf rfl with rfl | rfl | rfl
      · obtain ⟨o,h1,h2⟩:=cellOf _ hva
        exact ⟨o,_,_,h1,h2,rfl,rfl⟩
      · obtain ⟨v,hv1,hv2⟩:=st.vars _ _ g3
        obtain ⟨o,h1,h2⟩:=cellOf _ hv1
        exact ⟨o,_,_,h1,h2,rfl,V.is.mono le hv2⟩
      · obtain ⟨v,hv1,hv2⟩:=st.vars _ _ g1
        obtain ⟨o,h1,h2⟩:=cellOf _ hv1
        exact ⟨o,_,_,h1,h2,rfl,hv2.1⟩
    · intro n n' c h1 h2
      exact st.inj n n' c (hmem n c (mem_of_lookup h1)).2 (hmem n' c (mem_of_lookup h2)).2
  have hnone:fr.sb.heap.get? al=none∧W.base.get? al=none:=⟨get_new_none hp.new,get_new_none (Nat.le_trans st.bsize hp.new)⟩
  have st0:St pw w W fr true [("a",.val (.dat (.int (x:Int))))] ((al,listOf vs.toArray c) :: P) s F:=st.park g2 rfl hva hp hal fun z b hz=>by
    by_cases e:z=("a":Str)
    · subst e
      rw [lookup_cons_self] at hz; cases hz
      exact ⟨by decide,g4⟩
    · rw [lookup_cons_ne e] at hz; cases hz
  have hcall:=inner6 (w:=w) (W:=W) (k:=k) (al:=al) (len:=m) hM (G:=Fp) (le.obs _ (hG.obs _ hf)) (le.obs _ (hG.obs _ hoc)) hocd hus hn hm2 (fun y hy=>hsome y (by rcases hy with rfl | rfl | rfl <;> decide)) hin m 0 x hm (by omega) hx
  refine hcall s Fp vs₀ vs c ds bp .rfl hal (hr.mono le) hl (fun q hq=>?_) (hp.tab st.bsize) hnone.2 (by rw [Nat.zero_add]; exact hv.mono le) A Q E rm fun s' F' vs' c₂ g hal' hr'=>?_
  · rcases List.mem_append.mp hq with h | h
    · obtain ⟨_,n,hc,_⟩:=hobs q h
      exact hp.cel n _ hc
    · exact hp.frz q h
  let bad:Nat→Bool:=fun a=>(cellObs s.heap clos).any fun p=>p.1 == a
  let F₂:Fz:=⟨F'.obs.filter fun p=>!bad p.1,F'.tks⟩
  have notbad:∀ p ∈ F.obs,bad p.1=false:=fun p hp=>by
    cases hb:bad p.1 with
    | false=>rfl
    | true =>
      obtain ⟨r,hr,e⟩:=List.any_eq_true.mp hb
      obtain ⟨_,n,hc,_⟩:=hobs r hr
      exact absurd (eq_of_beq e).symm ((st.cell n _ hc).2.2.1 rfl p hp)
  have badcell:∀ p ∈ F'.obs,bad p.1=true→∃ v,p.2.data=.cell v:=fun p hp hb=>by
    obtain ⟨r,hr,e⟩:=List.any_eq_true.mp hb
    obtain ⟨h5,n,hc,v,h6⟩:=hobs r hr
    have h7:=g.has r (g.sub.obs _ (List.mem_append_left _ hr))
    have h8:=g.has _ hp
    rw [show r.1=p.1 from eq_of_beq e] at h7
    rw [h7] at h8
    exact ⟨v,(Option.some.inj h8) ▸ h6⟩
  have g₂:GrowX W [al] s s' F F₂:=by
    refine ⟨g.keep,fun p hp=>g.has p (List.mem_filter.mp hp).1,⟨fun p hp=>List.mem_filter.mpr ⟨g.sub.obs p (le.obs p hp),by rw [notbad p hp]; rfl⟩,fun p hp=>g.sub.tks p hp⟩,fun p hp=>?_,g.tok,g.toks,g.size,g.os,g.gens,fun q hq=>?_⟩
    · obtain ⟨h1,h2⟩:=List.mem_filter.mp hp
      rcases g.new p h1 with h | h
      · rcases List.mem_append.mp h with h | h
        · have:bad p.1=true:=List.any_eq_true.mpr ⟨p,h,beq_self_eq_true _⟩
          rw [this] at h2; cases h2
        · exact .inl h
      · exact .inr h
    · obtain ⟨ps,h1,h2,h3⟩:=g.tabs q hq
      refine ⟨ps,h1,h2,fun pos cv hcv=>?_⟩
      obtain ⟨c,o,us,t,e1,e2,e3,e4⟩:=h3 pos cv hcv
      refine ⟨c,o,us,t,e1,List.mem_filter.mpr ⟨e2,?_⟩,e3,e4⟩
      cases hb:bad c with
      | false=>rfl
      | true =>
        obtain ⟨v,h6⟩:=badcell _ e2 hb
        rw [h6] at e3; cases e3
  have st₁:=St.stepH (N:=[(al,listOf vs.toArray c)]) (N':=[(al,listOf vs'.toArray c₂)]) (P:=P) st0 g₂ (fun p hp=>by cases List.mem_singleton.mp hp; exact .head _) (fun p hp=>by cases List.mem_singleton.mp hp; exact hal')
    (fun p hpP q hq=>by cases List.mem_singleton.mp hq; exact Ne.symm (hp.prv p hpP)) (fun p hp=>by cases List.mem_singleton.mp hp; exact hnone)
  have hva':VarAt s'.heap fr.env ("a_digits":Str) (.ref al):=hva.keeps (fun m h=>let ⟨o,es,ep,ho,r⟩:=h; ⟨o,es,ep,g₂.keep _ _ st.tabL (by simpa using Ne.symm hp.loc) ho,r⟩) fun c v hc h=>let ⟨o,ho,r⟩:=h; ⟨o,g₂.keep _ _ (st.cell _ _ hc).2.2.2.2.1 (by simpa using hp.cel _ _ hc) ho,r⟩
  have hov:over ds 0 (dgI n m x)=dgI n m x:=by
    unfold over
    have:(dgI n m x).length=m:=by rw [List.length_map,dg_len]
    rw [this,List.take_zero,List.nil_append,Nat.zero_add,List.drop_of_length_le (by omega),List.append_nil]
  have hr':Reps F' vs' (over ds 0 (dgI n m x)):=hr'
  rw [hov] at hr'
  have hrF:Reps F₂ vs' (dgI n m x):=reps_intsN (F:=F') (F':=F₂) (fun p hp=>hp) hr'
  exact q s' F₂ g₂.sub (st₁.unpark hp.new hp.prv hva' fun hp'=>⟨al,vs',c₂,rfl,hal',hrF,hp'⟩)
def nDig (n x:Nat):Nat:=(bitsN x + n - 1) / n
theorem sp_int2digits (T:WokT W) {n M x:Nat} (hn0:0 < n) (hn:n≤64) (hM:M≤10000) (hx:x < 2 ^ M) (hm:nDig n x≤14) :
    Spec w W (k + 16) 6 [.dat (.int (x:Int)),.dat (.int (n:Int))] (.dat (.list (dgI n (nDig n x) x))):=by
  obtain ⟨c,Pt,t6⟩:=T.t6
  have hz2:sizeLine=16777216:=rfl
  have hxb:bitsN x≤M:=by
    have:=intBits_le (a:=(x:Int)) (m:=M) (by rw [Int.natAbs_natCast]; exact hx)
    rw [intBits_nat] at this; exact this
  refine sp_ofE ["a","n"] t6 (fun pm code doc vs h=>by match vs,h with | [u,v],_=>rfl) (by decide) (by decide) rfl ?_
  have hnum:((Builtin.Int.intBits (x:Int):Int) + (n:Int) - 1).fdiv (n:Int)=((nDig n x:Nat):Int):=by
    rw [intBits_nat,Int.fdiv_eq_ediv_of_nonneg _ (by omega),nDig,show (bitsN x:Int) + (n:Int) - 1=((bitsN x + n - 1:Nat):Int) by omega,Int.natCast_ediv]
  refine exe_seq (Γ':=[("a_digits",.lst (List.replicate (nDig n x) (Dat.int 0))),("a",.val (.dat (.int (x:Int)))),("n",.val (.dat (.int (n:Int))))]) ?_ ?_
  · have e:(List.replicate ((nDig n x:Nat):Int).toNat [Dat.int 0]).flatten=List.replicate (nDig n x) (Dat.int 0):=by
      rw [Int.toNat_natCast]
      generalize nDig n x=m
      induction m with
      | zero=>rfl
      | succ m ih=>rw [List.replicate_succ,List.flatten_cons,ih,List.replicate_succ]; rfl
    rw [← e]
    refine ex1_newmul (c:=((nDig n x:Nat):Int)) (ds:=[.int 0]) (ev_list (ds:=[.int 0]) (evl_cons ev_int evl_nil)) ?_ (.inr ⟨rfl,rfl⟩) (by rw [Int.toNat_natCast]; simp; omega) (by omega) (by omega)
    rw [← hnum]
    refine ev_bin (ev_bin (ev_bin (ev_bit_length (ev_name rfl)) (ev_name rfl) bin_add) ev_int bin_sub) (ev_name rfl) (bin_floordiv (by omega) ?_)
    rw [intBits_nat,show (bitsN x:Int) + (n:Int) - 1=((bitsN x + n - 1:Nat):Int) by omega]
    exact PyProof.noPylong_small (by rw [Int.natAbs_natCast]; omega)
  · refine exe_def (name:=nRec6.name) (params:=nRec6.params) (body:=nRec6.body) (scope:=nRec6.scope) (qual:=("_int2digits.<locals>.inner":Str)) t6.tab T.nd (fun env h=>h.1) (fun env h he=>?_) t6.qual.symm rfl rfl (fun _=>rfl) (by decide) (by decide) rfl (fun f c' clos doc pm ctv oc us t G hf hoc hocd hus hsome=>?_)
    · rw [t6.qual]
      unfold qualnameIn
      rw [show (env.kindOf nRec6.name == some .globalExplicit)=false by show (env.scope.names.lookup nRec6.name == some .globalExplicit)=false; rw [he]; decide,h.2]
      rfl
    · intro fr P s F hsc hφ st A Q E rm q
      by_cases h0:x=0
      · subst h0
        have hd0:nDig n 0=0:=by unfold nDig bitsN; simp; omega
        refine wpAny_execs_cons (wpAny_If (evb_use (b:=false) (evb_int rfl rfl) hsc st rm fun s₁ F₁ g₁=>?_))
        rw [if_neg Bool.false_ne_true]
        refine wpAny_execs_nil ?_
        refine (ex_freeze (y:=("a_digits":Str)) (ds:=[]) (by rw [hd0]; rfl) (ex_stop (ex1_return (ev_name rfl))):Ex pw w W (k + 15) (dRec 6).scope true _ _ _) fr P s₁ F₁ hsc (st.step g₁) A Q E rm fun fl s' F' ho hF=>q fl s' F' ?_ (g₁.sub.trans hF)
        rw [hd0]; exact ho
      · have hpos:0 < nDig n x:=by
          unfold nDig bitsN
          rw [if_neg h0]
          exact Nat.div_pos (by omega) hn0
        refine wpAny_execs_cons (wpAny_If (evb_use (b:=true) (evb_int rfl (by simp; omega)) hsc st rm fun s₁ F₁ g₁=>?_))
        rw [if_pos rfl]
        have st₁:=st.step g₁
        refine wpAny_execs_cons (wpAny_Expr ?_ (by unfold interactive; rw [st₁.kind]; rfl) (by rfl))
        refine wpAny_bind (m:=eval (.Name "inner" _) fr.env) ?_
        obtain ⟨v,h1,h2⟩:=st₁.vars ("inner":Str) _ rfl
        obtain ⟨rfl,hG⟩:=h2
        refine st₁.load_any h1 ?_ (by decide) (by decide)
        refine callWith_function (fd:=fnX nRec6.name ("_int2digits.<locals>.inner":Str) nRec6.params nRec6.body nRec6.scope clos .none .none doc pm none (.ref c') ctv) (o:=fn6 clos doc pm c' ctv) ?_
        have hlen:(List.replicate (nDig n x) (Dat.int 0)).length=nDig n x:=List.length_replicate
        refine evalArgs_of (k:=k + 15) (xs:=[.dat (.int (x:Int)),.dat (.int 0),.dat (.int ((List.replicate (nDig n x) (Dat.int 0)).length:Int))]) (evl_cons (ev_name rfl) (evl_cons ev_int (evl_cons (ev_len_lst (bname T.ok (by decide) rfl (by decide +kernel)) rfl (by rw [hlen]; omega)) evl_nil))) hsc st₁ rm (fun _=>rfl) fun us₂ s₂ F₂ g₂ hv=>?_
        have st₂:=st₁.step g₂
        refine ⟨⟨st₂.base.has _ (g₂.sub.obs _ (hG.obs _ hf)),rfl⟩,?_⟩
        rw [hlen] at hv
        refine call6 (k:=k) hM hf hoc hocd hus hn hsome hsc hφ.2 st₂ (hG.trans g₂.sub) rfl rfl rfl rfl hlen hpos (by omega) hx hv (rm.mono (by omega)) fun s₃ F₃ hF₃ st₃=>?_
        refine wpAny_execs_nil ?_
        exact (ex_freeze (y:=("a_digits":Str)) (ds:=dgI n (nDig n x) x) rfl (ex_stop (ex1_return (ev_name rfl))):Ex pw w W (k + 15) (dRec 6).scope true _ _ _) fr P s₃ F₃ hsc st₃ A Q E rm fun fl s' F' ho hF=>q fl s' F' ho (((g₁.sub.trans g₂.sub).trans hF₃).trans hF)
end Mine
namespace Mine
section
variable {prog:Program} {w:World} {W:Wd} {fr:Frm} {fn:Bool} {Γ Γ':Ctx'} {P:Led} {s s':Shared} {F F':Fz} {k:Nat} {sc:Scope}
theorem ex1_reverse {y:Str} {p apos pos spos:Pos} {ds:List Dat} (hy:Γ.lookup y=some (.lst ds)) (hz:ds.length≤sizeLine)
    (hev:∃ pl:Env→Sem Bool,∀ env,eval (.Call (.Attribute (.Name y p) "reverse" apos) [] [] pos) env=(do
      let ov ← eval (.Name y p) env
      standAt apos.atName
      let (f,first) ← holding [ov] (getMethod ov "reverse" (pl env))
      callWith pos f first (backTo pos (starEach [] env)) []):=by exact ⟨_,fun _=>rfl⟩)
    (hi:∀ env,env.scope.kind=.function→interactive env=false:=by intro _ h; unfold interactive; rw [h]; rfl)
    (hsw:∀ env,swapsWith (.Call (.Attribute (.Name y p) "reverse" apos) [] [] pos) none spos.line env=pure false:=by intro _; rfl)
    (hd:(y == ("__debug__":Str))=false:=by decide) (hn:(y == ("__classdict__":Str))=false:=by decide) :
    Ex1 prog w W k sc fn Γ (.Expr (.Call (.Attribute (.Name y p) "reverse" apos) [] [] pos) spos) (.next ((y,.lst ds.reverse) :: Γ)):=fun fr P s F hsc st A Q E rm q=>by
  obtain ⟨pl,hev⟩:=hev
  refine wpAny_Expr ?_ (hi _ st.kind) (hsw _)
  refine MethodCall_ (pl:=pl fr.env) (load_own st hy (fun v hv hb=>?_) hd hn) (hev _)
  obtain ⟨a,vs,n,rfl,ho,hr,hp⟩:=hb
  refine getMethod_list_of (l:=a) (items:=vs.toArray) PySem.F.slot_list_reverse PySem.F.type_list_reverse ⟨_,ho,rfl,_,rfl⟩ ⟨_,ho,rfl⟩ ?_
  have hmap:Obj.mapSeq (fun x=>x.reverse) (listOf vs.toArray n)=listOf vs.reverse.toArray n:=by simp [Obj.mapSeq]
  refine callWith_method0 (call_meets PySem.F.slot_list_reverse ⟨_,ho,rfl⟩ PySem.F.entry_list_reverse (PySem.F.args_list_reverse_1 _) (AutoSeq1.list_reverse_list_0 a vs.toArray n (by rw [List.size_toArray,hr.length]; exact hz)) ⟨ho,?_⟩)
  have hfin:(s.heap.update a (Obj.mapSeq fun x=>x.reverse)).get? a=some (listOf vs.reverse.toArray n):=by
    rw [Heap.get?_update_self _ ho (by rw [hmap]; rfl),hmap]
  exact q _ _ F ⟨rfl,st.turn (t:=s.toks) hy rfl hv hp (Heap.SameBut.update ..) (Nat.le_refl _) ⟨a,_,_,rfl,hfin,hr.reverse,hp⟩⟩ .rfl
end
def hstep (n b:Nat) (st:List Nat × Nat) (d:Nat):List Nat × Nat:=(st.1 ++ [(st.2 * 2 ^ n + d) / b],(st.2 * 2 ^ n + d) % b)
def hrun (n b:Nat) (l:List Nat):List Nat × Nat:=l.foldl (hstep n b) ([],0)
theorem hrun_snoc (n b:Nat) (l:List Nat) (d:Nat):hrun n b (l ++ [d])=hstep n b (hrun n b l) d:=by unfold hrun; rw [List.foldl_append]; rfl
def top (n:Nat) (l:List Nat):Nat:=l.foldl (fun v d=>v * 2 ^ n + d) 0
theorem top_snoc (n:Nat) (l:List Nat) (d:Nat):top n (l ++ [d])=top n l * 2 ^ n + d:=by unfold top; rw [List.foldl_append]; rfl
theorem hrun_inv (n b:Nat) (hb:0 < b) (l:List Nat):top n l=b * top n (hrun n b l).1 + (hrun n b l).2∧(hrun n b l).2 < b∧(hrun n b l).1.length=l.length:=by
  suffices h:∀ (l:List Nat) (i:Nat),i≤l.length→top n (l.take i)=b * top n (hrun n b (l.take i)).1 + (hrun n b (l.take i)).2∧(hrun n b (l.take i)).2 < b∧(hrun n b (l.take i)).1.length=i by
    have:=h l l.length (Nat.le_refl _)
    rwa [List.take_length] at this
  intro l i
  induction i with
  | zero=>intro _; simp [top,hrun,hb]
  | succ i ih =>
    intro hi
    obtain ⟨h1,h2,h3⟩:=ih (by omega)
    have hlt:i < l.length:=by omega
    rw [take_snoc hlt,top_snoc,hrun_snoc]
    unfold hstep
    simp only [top_snoc,List.length_append,List.length_cons,List.length_nil,h3]
    refine ⟨?_,Nat.mod_lt _ hb,trivial⟩
    have:=Nat.div_add_mod ((hrun n b (l.take i)).2 * 2 ^ n + l[i]) b
    rw [h1,Nat.add_mul,Nat.mul_add]
    rw [← Nat.mul_assoc]
    omega
theorem hrun_small (n b:Nat) (hb:0 < b) (l:List Nat) (hl:∀ d ∈ l,d < 2 ^ n):∀ d ∈ (hrun n b l).1,d < 2 ^ n:=by
  suffices h:∀ (i:Nat),i≤l.length→∀ d ∈ (hrun n b (l.take i)).1,d < 2 ^ n by
    have:=h l.length (Nat.le_refl _)
    rwa [List.take_length] at this
  intro i
  induction i with
  | zero=>intro _ d hd; simp [hrun] at hd
  | succ i ih =>
    intro hi d hd
    have hlt:i < l.length:=by omega
    rw [take_snoc hlt,hrun_snoc] at hd
    unfold hstep at hd
    rcases List.mem_append.mp hd with hd | hd
    · exact ih (by omega) d hd
    · cases List.mem_singleton.mp hd
      have h1:=(hrun_inv n b hb (l.take i)).2.1
      have h2:=hl _ (List.getElem_mem hlt)
      rw [Nat.div_lt_iff_lt_mul hb]
      have:(hrun n b (l.take i)).2 * 2 ^ n + 2 ^ n≤b * 2 ^ n:=by
        rw [← Nat.succ_mul]; exact Nat.mul_le_mul h1 (Nat.le_refl _)
      rw [Nat.mul_comm (2 ^ n) b]
      omega
def dvN (n:Nat):List Nat→Nat
  | []=>0
  | d :: r=>d + 2 ^ n * dvN n r
theorem top_rev (n:Nat):∀ l:List Nat,top n l.reverse=dvN n l
  | []=>rfl
  | d :: r=>by rw [List.reverse_cons,top_snoc,top_rev n r,dvN,Nat.mul_comm]; omega
theorem dv_cast (n:Nat):∀ l:List Nat,dv n (l.map fun d:Nat=>(d:Int))=(dvN n l:Int)
  | []=>rfl
  | d :: r=>by
    rw [List.map_cons,dv,dv_cast n r,dvN]
    simp
theorem dvN_dg (n:Nat):∀ (m x:Nat),0 < m→dvN n (dg n m x)=x
  | 0,x,h=>absurd h (Nat.lt_irrefl _)
  | 1,x,_=>by simp [dg,dvN]
  | m + 2,x,_=>by
    rw [dg,dvN,dvN_dg n (m + 1) (x / 2 ^ n) (by omega)]
    have:=Nat.div_add_mod x (2 ^ n)
    omega
theorem dg_small (n:Nat):∀ (m x:Nat),x < 2 ^ (n * m)→∀ d ∈ dg n m x,d < 2 ^ n
  | 0,x,_,d,h=>nomatch h
  | 1,x,hx,d,h=>by
    rw [dg] at h
    cases List.mem_singleton.mp h
    simpa using hx
  | m + 2,x,hx,d,h=>by
    rw [dg] at h
    rcases List.mem_cons.mp h with rfl | h
    · exact Nat.mod_lt _ (Nat.two_pow_pos n)
    · refine dg_small n (m + 1) (x / 2 ^ n) ?_ d h
      rw [Nat.div_lt_iff_lt_mul (Nat.two_pow_pos n),← Nat.pow_add]
      have e:n * (m + 1) + n=n * (m + 2):=(Nat.mul_succ n (m + 1)).symm
      rw [e]; exact hx
variable {w:World} {W:Wd} {k:Nat}
theorem eit_revm {prog:Program} {sc:Scope} {fn:Bool} {Γ:Ctx'} {α:Type} {tgt e:Expr} {y:Str} {p pos:Pos} {l:List α} {h:α→Dat} (hB:BName W sc y (.type "reversed"))
    (he:Ev prog w W k sc fn Γ e (.dat (.list (l.map h)))) (ht:nameTgt tgt=true) (hs:∀ env,starEach [e] env=[(false,eval e env)]:=by intro _; rfl) :
    EvIter prog w W k sc fn Γ tgt (.Call (.Name y p) [e] [] pos) (l.reverse.map fun a=>V.dat (h a)):=by
  have:=eit_rev (p:=p) (pos:=pos) hB he ht hs
  rw [← List.map_reverse,List.map_map] at this
  exact this
theorem bits_lt (x:Nat):x < 2 ^ bitsN x:=by
  unfold bitsN
  split
  · rename_i h; rw [h]; decide
  · rename_i h; exact Nat.lt_log2_self
theorem nDig_fits {n x:Nat} (hn:0 < n):x < 2 ^ (n * nDig n x):=by
  refine Nat.lt_of_lt_of_le (bits_lt x) (Nat.pow_le_pow_right (by decide) ?_)
  unfold nDig
  have:=Nat.div_add_mod (bitsN x + n - 1) n
  have:=Nat.mod_lt (bitsN x + n - 1) hn
  omega
theorem sp_divpos (T:WokT W) {a b:Nat} (hb:0 < b) (hb2:bitsN b≤64) (ha:nDig (bitsN b) a≤14) (ha2:a < 2 ^ 1000) :
    Spec w W (k + 17) 8 [.dat (.int (a:Int)),.dat (.int (b:Int))] (.dat (.tuple [.int ((a / b:Nat):Int),.int ((a % b:Nat):Int)])):=by
  have hz2:sizeLine=16777216:=rfl
  refine sp_of ["a","b"] (fun pm code doc vs h=>by match vs,h with | [u,v],_=>rfl) (by decide) (by decide) rfl ?_
  have hn0:0 < bitsN b:=by unfold bitsN; rw [if_neg (by omega)]; omega
  have hbl:=bits_lt b
  generalize hN:bitsN b=n at *
  have hbit:(Builtin.Int.intBits (b:Int):Int)=(n:Int):=by rw [intBits_nat,hN]
  refine ex_seq (ex1_assign (x:=.dat (.int (n:Int))) (by rw [← hbit]; exact ev_bit_length (ev_name rfl)) (.inl rfl)) ?_
  refine ex_seq (ex1_assign (ev_fn T.ok (sp_int2digits (M:=1000) T hn0 hb2 (by omega) ha2 ha) (evl_cons (ev_name rfl) (evl_cons (ev_name rfl) evl_nil))) (.inl rfl)) ?_
  refine ex_seq (ex1_assign ev_int (.inl rfl)) ?_
  refine ex_seq (ex1_newlist (ds:=[]) evl_nil (.inl rfl)) ?_
  generalize hm:nDig n a=m at *
  have hD:∀ d ∈ dg n m a,d < 2 ^ n:=dg_small n m a (by rw [← hm]; exact nDig_fits hn0)
  let D:=(dg n m a).reverse
  have hDl:D.length=m:=by show (dg n m a).reverse.length=m; rw [List.length_reverse,dg_len]
  let st:Nat→List Nat × Nat:=fun i=>hrun n b (D.take i)
  let Γs:Nat→Ctx':=fun i=>[("q_digits",.lst ((st i).1.map fun d:Nat=>Dat.int (d:Int))),("r",.val (.dat (.int ((st i).2:Int)))),("n",.val (.dat (.int (n:Int)))),("b",.val (.dat (.int (b:Int))))]
  have stlt:∀ i,(st i).2 < b:=fun i=>(hrun_inv n b hb _).2.1
  have stl:∀ i,i≤m→(st i).1.length=i:=fun i hi=>by
    rw [(hrun_inv n b hb (D.take i)).2.2,List.length_take,hDl]; omega
  refine ex_seq (for_loop (Γs:=Γs) (n:=m) (eit_revm (l:=dg n m a) (h:=fun d:Nat=>Dat.int (d:Int)) (bname T.ok (by decide) rfl (by decide +kernel)) (ev_name rfl) rfl) (Sub.cons rfl (.cons rfl (.cons rfl (.cons rfl .nil)))).go ?_ (.inl ⟨by rw [List.length_map]; exact hDl.symm,rfl⟩)) ?_
  · intro i x hi hx
    obtain ⟨hi',rfl⟩:=nth_map hx
    refine ⟨_,asg_name (.inl rfl),?_⟩
    have hd:(dg n m a).reverse[i] < 2 ^ n:=hD _ (List.mem_reverse.mp (List.getElem_mem hi'))
    have hstep:st (i + 1)=hstep n b (st i) (dg n m a).reverse[i]:=by
      show hrun n b (D.take (i + 1))=_
      rw [take_snoc hi',hrun_snoc]
    generalize (dg n m a).reverse[i]=d at *
    have h1:=stlt i
    generalize hr:(st i).2=r at *
    have hval:((r:Int) * 2 ^ ((n:Nat):Int).toNat + (d:Int))=((r * 2 ^ n + d:Nat):Int):=by
      rw [Int.toNat_natCast]; simp
    have htb:r * 2 ^ n + d < 2 ^ (n + n):=by
      rw [Nat.pow_add]
      have:r * 2 ^ n + 2 ^ n≤2 ^ n * 2 ^ n:=by
        rw [← Nat.succ_mul]; exact Nat.mul_le_mul (by omega) (Nat.le_refl _)
      omega
    have hib:Builtin.Int.intBits ((r * 2 ^ n + d:Nat):Int)≤n + n:=intBits_le (by rw [Int.natAbs_natCast]; exact htb)
    have hq:((r * 2 ^ n + d:Nat):Int).fdiv (b:Int)=(((r * 2 ^ n + d) / b:Nat):Int):=by rw [Int.fdiv_eq_ediv_of_nonneg _ (by omega),Int.natCast_ediv]
    have hmo:((r * 2 ^ n + d:Nat):Int).fmod (b:Int)=(((r * 2 ^ n + d) % b:Nat):Int):=by rw [Int.fmod_eq_emod_of_nonneg _ (by omega),Int.natCast_emod]
    have hlog:(b:Int).natAbs.log2 < 9000:=by
      rw [Int.natAbs_natCast]
      have:b.log2 < n:=(Nat.log2_lt (by omega)).mpr hbl
      omega
    have hrb:Builtin.Int.intBits (r:Int)≤n:=intBits_le (by rw [Int.natAbs_natCast]; omega)
    have hcall:=sp_div2n1n (w:=w) (W:=W) (k:=k + 15) T.ok (a:=((r * 2 ^ n + d:Nat):Int)) (b:=(b:Int)) (n:=(n:Int)) (by omega) (by omega) (PyProof.noPylong_of_log2 hlog)
    rw [hq,hmo] at hcall
    refine ex_to (ex_seq (ex1_assignT (ev_fn T.ok hcall (evl_cons (x:=.dat (.int ((r * 2 ^ n + d:Nat):Int))) ?_ (evl_cons (ev_name rfl) (evl_cons (ev_name rfl) evl_nil)))) (.inl rfl) (.inl rfl)) (ex_seq (ex1_append (ds:=(st i).1.map fun d:Nat=>Dat.int (d:Int)) rfl (ev_name rfl) (by rw [List.length_map,stl i (by omega)]; omega)) ex_nil)) (.cons ?_ (.cons ?_ (.cons rfl (.cons rfl .nil))))
    · rw [← hval]
      refine ev_bin (ev_bin (ev_name ?_) (ev_name rfl) (bin_lshift (by omega) (by omega))) (ev_name rfl) bin_add
      show some _=some _
      rw [hr]
    · show some _=some _
      rw [hstep]; unfold Mine.hstep; rw [hr,List.map_append]; rfl
    · show some _=some _
      rw [hstep]; unfold Mine.hstep; rw [hr]
  · have hinv:=hrun_inv n b hb D
    have hst:st m=hrun n b D:=by show hrun n b (D.take m)=_; rw [← hDl,List.take_length]
    have htop:top n D=a ∨ m=0:=by
      by_cases hm0:m=0
      · exact .inr hm0
      · exact .inl (by show top n (dg n m a).reverse=a; rw [top_rev,dvN_dg _ _ _ (by omega)])
    have hval:top n D=a:=by
      rcases htop with h | h
      · exact h
      · have hD0:D=[]:=List.length_eq_zero_iff.mp (hDl.trans h)
        have:a < 2 ^ (n * nDig n a):=nDig_fits hn0
        rw [hm,h,Nat.mul_zero] at this
        rw [hD0]
        simp [top] at *
        omega
    rw [hval] at hinv
    have hQ:top n (hrun n b D).1=a / b∧(hrun n b D).2=a % b:=by
      have:=Nat.div_mod_unique hb (a:=a) (c:=(hrun n b D).2) (d:=top n (hrun n b D).1)
      have h2:=this.mpr ⟨by rw [Nat.add_comm]; exact hinv.1.symm,hinv.2.1⟩
      exact ⟨h2.1.symm,h2.2.symm⟩
    refine ex_seq (ex1_reverse (ds:=(st m).1.map fun d:Nat=>Dat.int (d:Int)) rfl (by rw [List.length_map,stl m (Nat.le_refl _)]; omega)) ?_
    refine ex_freeze (y:=("q_digits":Str)) rfl ?_
    have hqs:((st m).1.map fun d:Nat=>Dat.int (d:Int)).reverse=(((st m).1.reverse.map fun d:Nat=>(d:Int))).map Dat.int:=by
      rw [← List.map_reverse,List.map_map]; rfl
    have hsmall:∀ d ∈ ((st m).1.reverse.map fun d:Nat=>(d:Int)),d.natAbs < 2 ^ 1000:=by
      intro d hd
      obtain ⟨d',hd',rfl⟩:=List.mem_map.mp hd
      rw [Int.natAbs_natCast]
      rw [hst] at hd'
      have h1:=hrun_small n b hb D (fun d hd=>hD d (List.mem_reverse.mp hd)) d' (List.mem_reverse.mp hd')
      exact Nat.lt_of_lt_of_le h1 (Nat.pow_le_pow_right (by decide) (by omega))
    have hd2:=sp_digits2int (w:=w) (W:=W) (k:=k) T (ds:=(st m).1.reverse.map fun d:Nat=>(d:Int)) (n:=n) (M:=1000) hb2 (by omega) (by rw [List.length_map,List.length_reverse,stl m (Nat.le_refl _)]; omega) hsmall
    have hdv:dv n ((st m).1.reverse.map fun d:Nat=>(d:Int))=((a / b:Nat):Int):=by
      rw [dv_cast,← top_rev,List.reverse_reverse,hst,hQ.1]
    rw [hdv] at hd2
    refine ex_seq (ex1_assign (ev_fn T.ok hd2 (evl_cons ?_ (evl_cons (ev_name rfl) evl_nil))) (.inl rfl)) (ex_stop (ex1_return (ev_tuple (ds:=[.int ((a / b:Nat):Int),.int ((a % b:Nat):Int)]) (evl_cons (ev_name rfl) (evl_cons (ev_name ?_) evl_nil)))))
    · rw [hqs]; exact ev_name rfl
    · show some _=some _
      rw [hst,hQ.2]
theorem nDig_le {n x y:Nat} (h:x≤y):nDig n x≤nDig n y:=by
  unfold nDig
  refine Nat.div_le_div_right ?_
  have:bitsN x≤bitsN y:=by
    have:=intBits_le (a:=(x:Int)) (m:=bitsN y) (by rw [Int.natAbs_natCast]; exact Nat.lt_of_le_of_lt h (bits_lt y))
    rw [intBits_nat] at this; exact this
  omega
theorem sp_divmod0 (T:WokT W) {a b:Nat} (hb:0 < b) (hb2:bitsN b≤64) (ha:nDig (bitsN b) a≤14) (ha2:a < 2 ^ 1000) :
    Spec w W (k + 18) 9 [.dat (.int (a:Int)),.dat (.int (b:Int))] (.dat (.tuple [.int ((a:Int).fdiv (b:Int)),.int ((a:Int).fmod (b:Int))])):=by
  have hq:((a:Nat):Int).fdiv (b:Int)=((a / b:Nat):Int):=by rw [Int.fdiv_eq_ediv_of_nonneg _ (by omega),Int.natCast_ediv]
  have hmo:((a:Nat):Int).fmod (b:Int)=((a % b:Nat):Int):=by rw [Int.fmod_eq_emod_of_nonneg _ (by omega),Int.natCast_emod]
  rw [hq,hmo]
  refine sp_of ["a","b"] (fun pm code doc vs h=>by match vs,h with | [u,v],_=>rfl) (by decide) (by decide) rfl ?_
  refine ex_stop (ex1_if (b:=false) (evb_cmp (ev_name rfl) ev_int cmp_eq (by rw [show ((b:Int) == 0)=false by simp <;> omega]; exact tr_bool)) (fun h=>nomatch h) (fun _=>?_))
  refine ex_stop (ex1_if (b:=false) (evb_cmp (ev_name rfl) ev_int cmp_lt (by rw [show decide ((b:Int) < 0)=false by simp <;> omega]; exact tr_bool)) (fun h=>nomatch h) (fun _=>?_))
  refine ex_stop (ex1_if (b:=false) (evb_cmp (ev_name rfl) ev_int cmp_lt (by rw [show decide ((a:Int) < 0)=false by simp <;> omega]; exact tr_bool)) (fun h=>nomatch h) (fun _=>?_))
  exact ex_stop (ex1_return (ev_fn T.ok (sp_divpos T hb hb2 ha ha2) (evl_cons (ev_name rfl) (evl_cons (ev_name rfl) evl_nil))))
theorem bitNot_eq (a:Int):Builtin.bitNot a=-a - 1:=rfl
theorem sp_divmod1 (T:WokT W) {a:Int} {b:Nat} (hb:0 < b) (hb2:bitsN b≤64) (ha:nDig (bitsN b) a.natAbs≤14) (ha2:a.natAbs < 2 ^ 1000) :
    Spec w W (k + 19) 9 [.dat (.int a),.dat (.int (b:Int))] (.dat (.tuple [.int (a.fdiv (b:Int)),.int (a.fmod (b:Int))])):=by
  by_cases h0:0≤a
  · obtain ⟨n,rfl⟩:=Int.eq_ofNat_of_zero_le h0
    exact sp_divmod0 (k:=k + 1) T hb hb2 (by simpa using ha) (by simpa using ha2)
  · obtain ⟨n,hn⟩:∃ n:Nat,-a - 1=n:=⟨(-a - 1).toNat,by omega⟩
    have hnle:n≤a.natAbs:=by omega
    have hc:=sp_divmod0 (w:=w) (W:=W) (k:=k) T (a:=n) hb hb2 (Nat.le_trans (nDig_le hnle) ha) (Nat.lt_of_le_of_lt hnle ha2)
    have e1:Builtin.bitNot ((n:Int).fdiv (b:Int))=a.fdiv (b:Int):=by
      rw [bitNot_eq,Int.fdiv_eq_ediv_of_nonneg _ (by omega),Int.fdiv_eq_ediv_of_nonneg _ (by omega)]
      have:a=-(n:Int) - 1:=by omega
      rw [this]
      have h1:=Int.ediv_emod_unique (a:=-(n:Int) - 1) (b:=(b:Int)) (r:=(b:Int) - 1 - (n:Int) % b) (q:=-((n:Int) / b) - 1) (by omega)
      have h2:=h1.mpr ⟨by have:=Int.emod_add_mul_ediv (n:Int) b; rw [Int.mul_sub,Int.mul_neg]; omega,by have:=Int.emod_lt_of_pos (n:Int) (show (0:Int) < b by omega); omega,by have:=Int.emod_nonneg (n:Int) (show (b:Int)≠0 by omega); omega⟩
      exact h2.1.symm
    have e2:(b:Int) + Builtin.bitNot ((n:Int).fmod (b:Int))=a.fmod (b:Int):=by
      rw [bitNot_eq,Int.fmod_eq_emod_of_nonneg _ (by omega),Int.fmod_eq_emod_of_nonneg _ (by omega)]
      have:a=-(n:Int) - 1:=by omega
      rw [this]
      have h1:=Int.ediv_emod_unique (a:=-(n:Int) - 1) (b:=(b:Int)) (r:=(b:Int) - 1 - (n:Int) % b) (q:=-((n:Int) / b) - 1) (by omega)
      have h2:=h1.mpr ⟨by have:=Int.emod_add_mul_ediv (n:Int) b; rw [Int.mul_sub,Int.mul_neg]; omega,by have:=Int.emod_lt_of_pos (n:Int) (show (0:Int) < b by omega); omega,by have:=Int.emod_nonneg (n:Int) (show (b:Int)≠0 by omega); omega⟩
      rw [h2.2]; omega
    refine sp_of ["a","b"] (fun pm code doc vs h=>by match vs,h with | [u,v],_=>rfl) (by decide) (by decide) rfl ?_
    refine ex_stop (ex1_if (b:=false) (evb_cmp (ev_name rfl) ev_int cmp_eq (by rw [show ((b:Int) == 0)=false by simp <;> omega]; exact tr_bool)) (fun h=>nomatch h) (fun _=>?_))
    refine ex_stop (ex1_if (b:=false) (evb_cmp (ev_name rfl) ev_int cmp_lt (by rw [show decide ((b:Int) < 0)=false by simp <;> omega]; exact tr_bool)) (fun h=>nomatch h) (fun _=>?_))
    refine ex_stop (ex1_if (b:=true) (evb_cmp (ev_name rfl) ev_int cmp_lt (by rw [show decide (a < 0)=true by simp <;> omega]; exact tr_bool)) (fun _=>?_) (fun h=>nomatch h))
    refine ex_seq (ex1_assignT (ev_fn T.ok hc (evl_cons (x:=.dat (.int (n:Int))) (by rw [← hn,← bitNot_eq]; exact ev_un (ev_name rfl) un_inv) (evl_cons (ev_name rfl) evl_nil))) (.inl rfl) (.inl rfl)) ?_
    rw [← e1,← e2]
    exact ex_stop (ex1_return (ev_tuple (ds:=[.int (Builtin.bitNot ((n:Int).fdiv (b:Int))),.int ((b:Int) + Builtin.bitNot ((n:Int).fmod (b:Int)))]) (evl_cons (ev_un (ev_name rfl) un_inv) (evl_cons (ev_bin (ev_name rfl) (ev_un (ev_name rfl) un_inv) bin_add) evl_nil))))
theorem sp_divmod (T:WokT W) {a b:Int} (hb:b≠0) (hb2:bitsN b.natAbs≤64) (ha:nDig (bitsN b.natAbs) a.natAbs≤14) (ha2:a.natAbs < 2 ^ 1000) :
    Spec w W (k + 20) 9 [.dat (.int a),.dat (.int b)] (.dat (.tuple [.int (a.fdiv b),.int (a.fmod b)])):=by
  by_cases h0:0 < b
  · obtain ⟨n,rfl⟩:=Int.eq_ofNat_of_zero_le (Int.le_of_lt h0)
    exact sp_divmod1 (k:=k + 1) T (by omega) (by simpa using hb2) (by simpa using ha) ha2
  · obtain ⟨n,hn⟩:∃ n:Nat,-b=n:=⟨(-b).toNat,by omega⟩
    have hna:b.natAbs=n:=by omega
    rw [hna] at hb2 ha
    have hc:=sp_divmod1 (w:=w) (W:=W) (k:=k) T (a:=-a) (b:=n) (by omega) hb2 (by rw [Int.natAbs_neg]; exact ha) (by rw [Int.natAbs_neg]; exact ha2)
    have e1:(-a).fdiv (n:Int)=a.fdiv b:=by rw [← hn,Int.neg_fdiv_neg]
    have e2:-((-a).fmod (n:Int))=a.fmod b:=by
      rw [Int.fmod_def,Int.fmod_def,e1,← hn,Int.neg_mul]
      omega
    rw [e1] at hc
    refine sp_of ["a","b"] (fun pm code doc vs h=>by match vs,h with | [u,v],_=>rfl) (by decide) (by decide) rfl ?_
    refine ex_stop (ex1_if (b:=false) (evb_cmp (ev_name rfl) ev_int cmp_eq (by rw [show (b == 0)=false by simp <;> omega]; exact tr_bool)) (fun h=>nomatch h) (fun _=>?_))
    refine ex_stop (ex1_if (b:=true) (evb_cmp (ev_name rfl) ev_int cmp_lt (by rw [show decide (b < 0)=true by simp <;> omega]; exact tr_bool)) (fun _=>?_) (fun h=>nomatch h))
    refine ex_seq (ex1_assignT (ev_fn T.ok hc (evl_cons (ev_un (ev_name rfl) un_neg) (evl_cons (x:=.dat (.int (n:Int))) (by rw [← hn]; exact ev_un (ev_name rfl) un_neg) evl_nil))) (.inl rfl) (.inl rfl)) ?_
    rw [← e2]
    exact ex_stop (ex1_return (ev_tuple (ds:=[.int (a.fdiv b),.int (-((-a).fmod (n:Int)))]) (evl_cons (ev_name rfl) (evl_cons (ev_un (ev_name rfl) un_neg) evl_nil))))
end Mine
namespace Mine
variable {w:World} {W:Wd} {k:Nat}
def Sign (i:Int):Prop:=i=1 ∨ i=-1
theorem Sign.small {i:Int} (h:Sign i):Builtin.Int.intBits i≤64:=intBits_le_64 (by rcases h with rfl | rfl <;> decide) (by rcases h with rfl | rfl <;> decide)
theorem Sign.mulOk {i j:Int} (h:Sign i):IntMulOk i j:=IntMulOk.of_left h.small
theorem Sign.sq {i:Int} (h:Sign i):i * i=1:=by rcases h with rfl | rfl <;> rfl
theorem Sign.abs {i j:Int} (h:Sign i):(i * j).natAbs=j.natAbs:=by rcases h with rfl | rfl <;> simp
abbrev BB (wd:Nat):Int:=2 ^ wd + 1
def divOf (c h:Int) (wd:Nat) (one two:Int):Int:=one * two * ((one * (c - h)).fdiv (two * BB wd))
theorem BB_pos (wd:Nat):0 < BB wd:=by have:(0:Int) < 2 ^ wd:=Int.pow_pos (by decide); show 0 < 2 ^ wd + 1; omega
theorem BB_nat (wd:Nat):BB wd=((2 ^ wd + 1:Nat):Int):=by simp
theorem rest_facts {D:Int} {wd:Nat} {two:Int} (h2:Sign two) :
    D.fdiv (two * BB wd) * (two * BB wd) + D.fmod (two * BB wd)=D∧0≤two * D.fmod (two * BB wd)∧two * D.fmod (two * BB wd) < BB wd:=by
  have hB:=BB_pos wd
  refine ⟨by have:=Int.fmod_add_mul_fdiv D (two * BB wd); rw [Int.mul_comm (D.fdiv _)]; omega,?_⟩
  rcases h2 with rfl | rfl
  · rw [Int.one_mul,Int.one_mul]
    rw [Int.fmod_eq_emod_of_nonneg _ (by omega)]
    exact ⟨Int.emod_nonneg _ (by omega),Int.emod_lt_of_pos _ hB⟩
  · have e:D.fmod (-1 * BB wd)=-((-D).fmod (BB wd)):=by
      rw [show (-1:Int) * BB wd=-(BB wd) by omega,Int.fmod_def,Int.fmod_def,← Int.neg_fdiv_neg D (-(BB wd)),Int.neg_neg,Int.neg_mul]
      omega
    rw [e,Int.fmod_eq_emod_of_nonneg _ (by omega)]
    have h1:=Int.emod_nonneg (-D) (show BB wd≠0 by omega)
    have h2:=Int.emod_lt_of_pos (-D) hB
    omega
theorem rest_mod {d:Int} {wd:Nat} {one two:Int} (h1:Sign one) (h2:Sign two):(one * (one * d).fmod (two * BB wd)).fmod (BB wd)=d.fmod (BB wd):=by
  have hB:=BB_pos wd
  obtain ⟨f1,_,_⟩:=rest_facts (D:=one * d) (wd:=wd) h2
  have e:one * (one * d).fmod (two * BB wd)=d + BB wd * (-(one * two * (one * d).fdiv (two * BB wd))):=by
    generalize (one * d).fdiv (two * BB wd)=q at *
    generalize (one * d).fmod (two * BB wd)=r at *
    generalize BB wd=B at *
    generalize hp:q * B=p
    have hp':B * q=p:=by rw [Int.mul_comm]; exact hp
    rcases h1 with rfl | rfl <;> rcases h2 with rfl | rfl <;> simp only [Int.one_mul,Int.neg_mul,Int.mul_neg,Int.neg_neg,Int.mul_one,hp,hp'] at f1 ⊢ <;> omega
  rw [e,Int.fmod_eq_emod_of_nonneg _ (by omega),Int.fmod_eq_emod_of_nonneg _ (by omega),Int.add_mul_emod_self_left]
theorem sp_division (T:WokT W) {cs hs:List Int} {wd M:Nat} {one two:Int} (h1:Sign one) (h2:Sign two) (hw:wd≤60) (hM:M≤100) (hc:cs.length≤14) (hh:hs.length≤14) (hcb:∀ d ∈ cs,d.natAbs < 2 ^ M) (hhb:∀ d ∈ hs,d.natAbs < 2 ^ M)
    (hd:nDig (bitsN (2 ^ wd + 1)) (dv wd cs - dv wd hs).natAbs≤14) (hd2:(dv wd cs - dv wd hs).natAbs < 2 ^ 1000) :
    Spec w W (k + 21) 34 [.dat (.list (cs.map Dat.int)),.dat (.list (hs.map Dat.int)),.dat (.int (wd:Int)),.dat (.int one),.dat (.int two)]
      (.dat (.tuple [.int (divOf (dv wd cs) (dv wd hs) wd one two),.int ((dv wd cs - dv wd hs).fmod (BB wd))])):=by
  have hB:=BB_pos wd
  refine sp_of ["counts","holes","width","one","two"] (fun pm code doc vs h=>by match vs,h with | [u,v,x,y,z],_=>rfl) (by decide) (by decide) rfl ?_
  have c1:=sp_digits2int (w:=w) (W:=W) (k:=k + 4) T (ds:=cs) (n:=wd) (M:=M) (by omega) (by omega) hc hcb
  have c2:=sp_digits2int (w:=w) (W:=W) (k:=k + 4) T (ds:=hs) (n:=wd) (M:=M) (by omega) (by omega) hh hhb
  generalize dv wd cs=c at *
  generalize dv wd hs=h at *
  refine ex_seq (ex1_assign (ev_fn T.ok (sp_mul (k:=k + 19) h1.mulOk) (evl_cons (ev_name rfl) (evl_cons (ev_fn T.ok (sp_sub (k:=k + 19)) (evl_cons (ev_fn T.ok c1 (evl_cons (ev_name rfl) (evl_cons (ev_name rfl) evl_nil))) (evl_cons (ev_fn T.ok c2 (evl_cons (ev_name rfl) (evl_cons (ev_name rfl) evl_nil))) evl_nil))) evl_nil))) (.inl rfl)) ?_
  have hBw:(1:Int) * 2 ^ ((wd:Nat):Int).toNat + 1=BB wd:=by rw [Int.toNat_natCast,Int.one_mul]
  have hb1:Builtin.Int.intBits 1=1:=by decide +kernel
  refine ex_seq (ex1_assign (x:=.dat (.int (two * BB wd))) (by rw [← hBw]; exact ev_fn T.ok (sp_mul (k:=k + 19) h2.mulOk) (evl_cons (ev_name rfl) (evl_cons (ev_fn T.ok (sp_add_int (k:=k + 19)) (evl_cons (ev_fn T.ok (sp_lshift (k:=k + 19) (by omega) (by rw [hb1]; omega)) (evl_cons ev_int (evl_cons (ev_name rfl) evl_nil))) (evl_cons ev_int evl_nil))) evl_nil))) (.inl rfl)) ?_
  have hBn:(two * BB wd).natAbs=2 ^ wd + 1:=by rw [h2.abs,BB_nat,Int.natAbs_natCast]
  have hpw:2 ^ wd≤2 ^ 60:=Nat.pow_le_pow_right (by decide) hw
  have hBbits:bitsN (2 ^ wd + 1)≤64:=by
    have:=intBits_le (a:=((2 ^ wd + 1:Nat):Int)) (m:=64) (by rw [Int.natAbs_natCast]; omega)
    rw [intBits_nat] at this; exact this
  have hV0:two * BB wd≠0:=by intro e; rw [e] at hBn; simp at hBn
  have cd:=sp_divmod (w:=w) (W:=W) (k:=k) T (a:=one * (c - h)) (b:=two * BB wd) hV0 (by rw [hBn]; exact hBbits) (by rw [hBn,h1.abs]; exact hd) (by rw [h1.abs]; exact hd2)
  obtain ⟨f1,f2,f3⟩:=rest_facts (D:=one * (c - h)) (wd:=wd) h2
  have f4:=rest_mod (d:=c - h) (wd:=wd) h1 h2
  have hVok:∀ j:Int,IntMulOk j (two * BB wd):=fun j=>IntMulOk.of_right (intBits_le (by rw [hBn]; omega))
  have hquo:divOf c h wd one two=one * two * (one * (c - h)).fdiv (two * BB wd):=rfl
  rw [hquo,← f4]
  generalize (one * (c - h)).fdiv (two * BB wd)=qu at *
  generalize (one * (c - h)).fmod (two * BB wd)=re at *
  refine ex_seq (ex1_assignT (ev_fn T.ok cd (evl_cons (ev_name rfl) (evl_cons (ev_name rfl) evl_nil))) (.inl rfl) (.inl rfl)) ?_
  have t2:two * (two * BB wd)=BB wd:=by rw [← Int.mul_assoc,h2.sq,Int.one_mul]
  refine ex_seq (ex1_if (b:=false) (o:=.next _) ?_ (fun h=>nomatch h) (fun _=>ex_nil)) (ex_stop (ex1_return (ev_tuple (ds:=[.int (one * two * qu),.int ((one * re).fmod (BB wd))]) (evl_cons (ev_bin (ev_bin (ev_name rfl) (ev_name rfl) (bin_mul h1.mulOk)) (ev_name rfl) (bin_mul (IntMulOk.of_left (intBits_le_64 ?_ ?_)))) (evl_cons ?_ evl_nil)))))
  · have:false=(false || (false || (false || false))):=rfl
    rw [this]
    refine evb_boolop (eva_or_cons ?_ fun _=>eva_or_cons ?_ fun _=>eva_or_cons ?_ fun _=>eva_or_nil)
    · exact evb_cmp (ev_bin (ev_bin (ev_name rfl) (ev_name rfl) (bin_mul (hVok _))) (ev_name rfl) bin_add) (ev_name rfl) cmp_ne (by rw [f1,show (one * (c - h) != one * (c - h))=false by simp]; exact tr_bool)
    · exact evb_cmp (ev_bin (ev_name rfl) (ev_name rfl) (bin_mul h2.mulOk)) ev_int cmp_lt (by rw [show decide (two * re < 0)=false by simp <;> omega]; exact tr_bool)
    · exact evb_cmp (ev_bin (ev_name rfl) (ev_name rfl) (bin_mul h2.mulOk)) (ev_bin (ev_name rfl) (ev_name rfl) (bin_mul h2.mulOk)) cmp_ge (by rw [t2,show decide (two * re ≥ BB wd)=false by simp <;> omega]; exact tr_bool)
  · rcases h1 with rfl | rfl <;> rcases h2 with rfl | rfl <;> decide
  · rcases h1 with rfl | rfl <;> rcases h2 with rfl | rfl <;> decide
  · refine ev_bin (ev_bin (ev_name rfl) (ev_name rfl) (bin_mul h1.mulOk)) (ev_bin (ev_name rfl) (ev_name rfl) (bin_mul h2.mulOk)) ?_
    rw [t2]
    exact bin_mod (by omega)
end Mine
namespace Mine
variable {w:World} {W:Wd} {k:Nat}
theorem cmp_ne_tuple {prog:Program} {ds es:List Dat} {c:Bool} (hc:c=true ↔ ds=es) (ha:∀ d ∈ ds,kqdOk 8 d=true) (hb:∀ d ∈ es,kqdOk 8 d=true):CmpG prog w W k .NotEq (.dat (.tuple ds)) (.dat (.tuple es)) (.dat (.bool (!c))):=fun s F u v bs hu hv A Q E rm q=>by
  have ha':kqdOk 9 (.tuple ds)=true:=by simpa [kqdOk] using ha
  have hb':kqdOk 9 (.tuple es)=true:=by simpa [kqdOk] using hb
  obtain ⟨as,ra⟩:=kqd_in (news_of bs) 9 (Rep.dat hu) ha'
  obtain ⟨bs',rb⟩:=kqd_in (news_of bs) 9 (Rep.dat hv) hb'
  have la:=kqd_lay 9 (.tuple ds) ha'
  have lb:=kqd_lay 9 (.tuple es) hb'
  have e:PyData.eqv (kqdP (.tuple ds)) (kqdP (.tuple es))=c:=by
    have hq:=kqd_eqv 9 (.tuple ds) (.tuple es) 9 ha' hb'
    rw [Dat.tuple.injEq] at hq
    cases c with
    | true=>exact hq.mpr (hc.mp rfl)
    | false=>exact Bool.eq_false_iff.mpr fun x=>nomatch hc.mpr (hq.mp x)
  cases hu with
  | tuple hm hr =>
    cases hv with
    | tuple hm' hr' =>
      refine ne_dataH ra rb ?_ ?_ rm.units (by rw [e]; exact q _ _ _ (Grow.refl bs) (.bool _))
      · unfold SeqAt.shaped; rw [la.1,Bool.true_and]; exact decide_eq_true (Nat.le_trans la.2 (by decide))
      · unfold SeqAt.shaped; rw [lb.1,Bool.true_and]; exact decide_eq_true (Nat.le_trans lb.2 (by decide))
def strip (l:List Nat):List Nat:=(l.reverse.dropWhile (· == 0)).reverse
theorem strip_snoc0 (l:List Nat):strip (l ++ [0])=strip l:=by simp [strip]
theorem strip_snoc (l:List Nat) (a:Nat) (h:a≠0):strip (l ++ [a])=l ++ [a]:=by simp [strip,h]
theorem strip_spec:∀ (m:Nat) (l:List Nat),l.length=m→(strip l ++ List.replicate (l.length - (strip l).length) 0=l∧(strip l=[] ∨ ∃ r a,strip l=r ++ [a]∧a≠0)∧(strip l).length≤l.length)
  | 0,l,h=>by
    have:l=[]:=List.length_eq_zero_iff.mp h
    subst this; exact ⟨rfl,.inl rfl,Nat.le_refl _⟩
  | m + 1,l,h=>by
    have hne:l≠[]:=by intro e; rw [e] at h; cases h
    obtain ⟨r,a,rfl⟩:∃ r a,l=r ++ [a]:=⟨l.dropLast,l.getLast hne,(List.dropLast_concat_getLast hne).symm⟩
    have hr:r.length=m:=by simpa using h
    by_cases ha:a=0
    · subst ha
      obtain ⟨h1,h2,h3⟩:=strip_spec m r hr
      rw [strip_snoc0]
      refine ⟨?_,h2,by simp; omega⟩
      have e:(r ++ [0]).length - (strip r).length=(r.length - (strip r).length) + 1:=by simp; omega
      rw [e,List.replicate_succ',← List.append_assoc,h1]
    · rw [strip_snoc _ _ ha]
      exact ⟨by simp,.inr ⟨r,a,rfl,ha⟩,Nat.le_refl _⟩
theorem dvN_app (n:Nat):∀ (a b:List Nat),dvN n (a ++ b)=dvN n a + 2 ^ (n * a.length) * dvN n b
  | [],b=>by simp [dvN]
  | d :: r,b=>by
    rw [List.cons_append,dvN,dvN,dvN_app n r b,List.length_cons,Nat.mul_succ,Nat.pow_add,Nat.mul_add,← Nat.add_assoc,← Nat.mul_assoc,Nat.mul_comm (2 ^ (n * r.length)) (2 ^ n)]
theorem dvN_zero (n m:Nat):dvN n (List.replicate m 0)=0:=by
  induction m with
  | zero=>rfl
  | succ m ih=>rw [List.replicate_succ,dvN,ih]; simp
theorem dvN_lt (n:Nat):∀ (l:List Nat),(∀ d ∈ l,d < 2 ^ n)→dvN n l < 2 ^ (n * l.length)
  | [],_=>by simp [dvN]
  | d :: r,h=>by
    have h1:=h d (.head _)
    have h2:=dvN_lt n r fun x hx=>h x (.tail _ hx)
    rw [dvN,List.length_cons,Nat.mul_succ,Nat.add_comm (n * r.length),Nat.pow_add]
    have:2 ^ n * (dvN n r + 1)≤2 ^ n * 2 ^ (n * r.length):=Nat.mul_le_mul_left _ h2
    rw [Nat.mul_add] at this
    omega
theorem dg_dvN (n:Nat):∀ (l:List Nat),(∀ d ∈ l,d < 2 ^ n)→dg n l.length (dvN n l)=l
  | [],_=>rfl
  | [d],_=>by simp [dg,dvN]
  | d :: e :: r,h=>by
    have h1:=h d (.head _)
    have ih:=dg_dvN n (e :: r) fun x hx=>h x (.tail _ hx)
    have e1:dvN n (d :: e :: r)=d + 2 ^ n * dvN n (e :: r):=rfl
    show dg n (r.length + 2) (dvN n (d :: e :: r))=_
    rw [dg,e1,Nat.add_mul_mod_self_left,Nat.mod_eq_of_lt h1,Nat.add_mul_div_left _ _ (Nat.two_pow_pos n),Nat.div_eq_of_lt h1,Nat.zero_add]
    congr 1
theorem nDig_dvN {n:Nat} (hn:0 < n) {l:List Nat} (h:∀ d ∈ l,d < 2 ^ n):nDig n (dvN n l)=(strip l).length:=by
  obtain ⟨h1,h2,h3⟩:=strip_spec l.length l rfl
  have hv:dvN n l=dvN n (strip l):=by
    conv=>lhs; rw [← h1,dvN_app,dvN_zero,Nat.mul_zero,Nat.add_zero]
  have hs:∀ d ∈ strip l,d < 2 ^ n:=fun d hd=>h d (by rw [← h1]; exact List.mem_append_left _ hd)
  rw [hv]
  rcases h2 with e | ⟨r,a,e,ha⟩
  · rw [e]; simp [dvN,nDig,bitsN]; omega
  · rw [e] at hs ⊢
    have hlt:=dvN_lt n _ hs
    have hge:2 ^ (n * r.length)≤dvN n (r ++ [a]):=by
      rw [dvN_app]
      have:dvN n [a]=a:=by simp [dvN]
      rw [this]
      have:2 ^ (n * r.length) * 1≤2 ^ (n * r.length) * a:=Nat.mul_le_mul_left _ (by omega)
      omega
    generalize dvN n (r ++ [a])=x at *
    have hx0:x≠0:=by have:=Nat.two_pow_pos (n * r.length); omega
    have b1:bitsN x≤n * (r.length + 1):=by
      have:=intBits_le (a:=(x:Int)) (m:=n * (r.length + 1)) (by rw [Int.natAbs_natCast]; simpa using hlt)
      rw [intBits_nat] at this; exact this
    have b2:n * r.length < bitsN x:=by
      have:=bits_lt x
      exact (Nat.pow_lt_pow_iff_right (by decide:1 < 2)).mp (Nat.lt_of_le_of_lt hge this)
    unfold nDig
    rw [List.length_append]
    show (bitsN x + n - 1) / n=r.length + 1
    have e1:n * (r.length + 1)=n * r.length + n:=Nat.mul_succ _ _
    apply Nat.div_eq_of_lt_le
    · rw [Nat.mul_comm]; omega
    · rw [Nat.mul_comm,Nat.mul_succ]; omega
theorem sp_told (T:WokT W) {cs hs:List Int} {rs:List Nat} {wd M:Nat} {one two:Int} (h1:Sign one) (h2:Sign two) (hw0:0 < wd) (hw:wd≤60) (hM:M≤100) (hc:cs.length≤14) (hh:hs.length≤14) (hr:rs.length≤14) (hcb:∀ d ∈ cs,d.natAbs < 2 ^ M) (hhb:∀ d ∈ hs,d.natAbs < 2 ^ M)
    (hrb:∀ d ∈ rs,d < 2 ^ wd) (heq:dv wd cs - dv wd hs=BB wd * (dvN wd rs:Int)) (hd:nDig (bitsN (2 ^ wd + 1)) (dv wd cs - dv wd hs).natAbs≤14) (hd2:(dv wd cs - dv wd hs).natAbs < 2 ^ 1000) :
    Spec w W (k + 22) 35 [.dat (.list (cs.map Dat.int)),.dat (.list (hs.map Dat.int)),.dat (.list (rs.map fun n:Nat=>Dat.int (n:Int))),.dat (.int (wd:Int)),.dat (.int one),.dat (.int two)] (.dat (.bool true)):=by
  have hz2:sizeLine=16777216:=rfl
  have hB:=BB_pos wd
  have c1:=sp_division (w:=w) (W:=W) (k:=k) T h1 h2 hw hM hc hh hcb hhb hd hd2
  have hx:dvN wd rs < 2 ^ (wd * rs.length):=dvN_lt wd rs hrb
  have hx2:dvN wd rs < 2 ^ 1000:=Nat.lt_of_lt_of_le hx (Nat.pow_le_pow_right (by decide) (Nat.le_trans (Nat.mul_le_mul hw hr) (by decide)))
  have hfst:divOf (dv wd cs) (dv wd hs) wd one two=(dvN wd rs:Int):=by
    unfold divOf
    rw [heq]
    have e:one * (BB wd * (dvN wd rs:Int))=(two * BB wd) * (one * two * (dvN wd rs:Int)):=by
      have ht:two * two=1:=by rcases h2 with rfl | rfl <;> rfl
      calc one * (BB wd * (dvN wd rs:Int))=(two * two) * (one * (BB wd * (dvN wd rs:Int))):=by rw [ht,Int.one_mul]
        _=_:=by ac_rfl
    rw [e,Int.mul_fdiv_cancel_left _ (by rcases h2 with rfl | rfl <;> omega)]
    rcases h1 with rfl | rfl <;> rcases h2 with rfl | rfl <;> simp
  have hsnd:(dv wd cs - dv wd hs).fmod (BB wd)=0:=by rw [heq,Int.mul_fmod_right]
  rw [hfst,hsnd] at c1
  have hnd:=nDig_dvN hw0 hrb
  obtain ⟨s1,s2,s3⟩:=strip_spec rs.length rs rfl
  have hv:dvN wd rs=dvN wd (strip rs):=by
    conv=>lhs; rw [← s1,dvN_app,dvN_zero,Nat.mul_zero,Nat.add_zero]
  have hdg:dg wd (nDig wd (dvN wd rs)) (dvN wd rs)=strip rs:=by
    rw [hnd,hv]
    exact dg_dvN wd (strip rs) fun d hd=>hrb d (by rw [← s1]; exact List.mem_append_left _ hd)
  have c3:=sp_int2digits (w:=w) (W:=W) (k:=k + 5) (M:=1000) T hw0 (by omega) (by omega) hx2 (by rw [hnd]; omega)
  rw [dgI,hdg] at c3
  have c2:=sp_digits2int (w:=w) (W:=W) (k:=k + 5) T (ds:=rs.map fun n:Nat=>(n:Int)) (n:=wd) (M:=wd) (by omega) (by omega) (by rw [List.length_map]; exact hr) (fun d hd=>by
    obtain ⟨d',hd',rfl⟩:=List.mem_map.mp hd
    rw [Int.natAbs_natCast]; exact hrb d' hd')
  rw [dv_cast,List.map_map] at c2
  generalize dvN wd rs=x at *
  refine sp_of ["counts","holes","ranks","width","one","two"] (fun pm code doc vs h=>by match vs,h with | [a,b,c,d,e,f],_=>rfl) (by decide) (by decide) rfl ?_
  refine ex_seq (ex1_assign (ev_fn T.ok c1 (evl_cons (ev_name rfl) (evl_cons (ev_name rfl) (evl_cons (ev_name rfl) (evl_cons (ev_name rfl) (evl_cons (ev_name rfl) evl_nil)))))) (.inl rfl)) ?_
  refine ex_seq (ex1_if (b:=false) (o:=.next _) (evb_cmp (ev_name rfl) (ev_tuple (ds:=[.int (x:Int),.int 0]) (evl_cons (ev_fn T.ok c2 (evl_cons (ev_name rfl) (evl_cons (ev_name rfl) evl_nil))) (evl_cons ev_int evl_nil))) (cmp_ne_tuple (c:=true) ⟨fun _=>rfl,fun _=>rfl⟩ ?_ ?_) tr_bool) (fun h=>nomatch h) (fun _=>ex_nil)) ?_
  · intro d hd; rcases List.mem_cons.mp hd with rfl | hd
    · rfl
    · cases List.mem_singleton.mp hd; rfl
  · intro d hd; rcases List.mem_cons.mp hd with rfl | hd
    · rfl
    · cases List.mem_singleton.mp hd; rfl
  refine ex_seq (ex1_assign (ev_fn T.ok c3 (evl_cons (ev_sub (ev_name rfl) ev_int (get_tuple (by decide) (by decide) rfl)) (evl_cons (ev_name rfl) evl_nil))) (.inl rfl)) ?_
  refine ex_stop (ex1_return (ev_and (x:=.dat (.bool true)) (c:=true) ?_ tr_bool (fun _=>?_) (fun h=>nomatch h)))
  · have hlast:(strip rs).drop ((strip rs).length - 1)≠[0]:=by
      rcases s2 with e | ⟨r,a,e,ha⟩
      · rw [e]; simp
      · rw [e]; simp [ha]
    have hmap:((strip rs).drop ((strip rs).length - 1)).map (fun n:Nat=>Dat.int (n:Int))≠[Dat.int 0]:=by
      intro h
      apply hlast
      rcases s2 with e | ⟨r,a,e,ha⟩
      · rw [e] at h; simp at h
      · rw [e] at h; simp at h; exact absurd h ha
    have:=cmp_ne_list (prog:=pw) (w:=w) (W:=W) (k:=k + 21) (ds:=((strip rs).drop ((strip rs).length - 1)).map (fun n:Nat=>Dat.int (n:Int))) (es:=[Dat.int 0]) (c:=false) ⟨fun h=>(nomatch h),fun h=>absurd h hmap⟩ (fun d hd=>by obtain ⟨_,_,rfl⟩:=List.mem_map.mp hd; rfl) (fun d hd=>by cases List.mem_singleton.mp hd; rfl)
    refine ev_cmp (x:=.dat (.list (((strip rs).drop ((strip rs).length - 1)).map (fun n:Nat=>Dat.int (n:Int))))) ?_ (ev_list (ds:=[.int 0]) (evl_cons ev_int evl_nil)) this
    have e:=pick_last (ds:=(strip rs).map (fun n:Nat=>Dat.int (n:Int))) (n:=1) (by decide)
    rw [List.length_map,← List.map_drop] at e
    rw [← e]
    exact ev_slice_list (ev_name rfl) (evp_some (ev_un ev_int un_neg)) evp_none (by simp only [List.length_map]; omega)
  · refine ev_cmp (x:=.dat (.list (((strip rs).map (fun n:Nat=>Dat.int (n:Int))) ++ (List.replicate ((rs.length:Int) - ((strip rs).length:Int)).toNat [Dat.int 0]).flatten)))
      (ev_bin (ev_name rfl) (ev_bin (ev_list (ds:=[.int 0]) (evl_cons ev_int evl_nil)) (y:=.dat (.int ((rs.length:Int) - ((strip rs).length:Int)))) ?_ (bin_mul_list ?_ ?_ ?_)) (bin_add_list ?_)) (ev_name rfl) (cmp_eq_list (c:=true) ?_ ?_ ?_)
    · refine ev_bin (x:=.dat (.int ((rs.length:Nat):Int))) (y:=.dat (.int (((strip rs).length:Nat):Int))) ?_ ?_ bin_sub
      · have lr:((rs.length:Nat):Int)=(((rs.map fun n:Nat=>Dat.int (n:Int)).length:Nat):Int):=by rw [List.length_map]
        rw [lr]
        exact ev_b (bname T.ok (by decide) rfl (by decide +kernel)) (evl_cons (ev_name rfl) evl_nil) (c_len_list (by simp only [List.length_map]; omega))
      · have lr:(((strip rs).length:Nat):Int)=((((strip rs).map fun n:Nat=>Dat.int (n:Int)).length:Nat):Int):=by rw [List.length_map]
        rw [lr]
        exact ev_b (bname T.ok (by decide) rfl (by decide +kernel)) (evl_cons (ev_name rfl) evl_nil) (c_len_list (by simp only [List.length_map]; omega))
    · omega
    · simp only [List.length_singleton,Nat.one_mul]; omega
    · omega
    · simp only [List.length_map,List.length_flatten,List.map_replicate,List.sum_replicate_nat,List.length_singleton]; omega
    · refine ⟨fun _=>?_,fun _=>rfl⟩
      have e1:((rs.length:Int) - ((strip rs).length:Int)).toNat=rs.length - (strip rs).length:=by omega
      have e2:(List.replicate (rs.length - (strip rs).length) [Dat.int 0]).flatten=(List.replicate (rs.length - (strip rs).length) 0).map (fun n:Nat=>Dat.int (n:Int)):=by
        rw [List.map_replicate,List.flatten_replicate_singleton]; rfl
      rw [e1,e2,← List.map_append,s1]
    · intro d hd
      rcases List.mem_append.mp hd with hd | hd
      · obtain ⟨_,_,rfl⟩:=List.mem_map.mp hd; rfl
      · rw [List.flatten_replicate_singleton] at hd
        rw [(List.mem_replicate.mp hd).2]; rfl
    · intro d hd; obtain ⟨_,_,rfl⟩:=List.mem_map.mp hd; rfl
end Mine
namespace Mine
def holdIds:List String:=["bytearray.__contains__","bytearray.__mod__","bytearray.__rmod__","_struct.pack_into.held","bytearray.find.held"] ++ Builtin.Bytes.decodersThatHold
def dirty:Code→Bool
  | .builtin id _=>holdIds.contains id
  | _=>false
def CleanB (l:List (Code × Pos)):Prop:=∀ q ∈ l,dirty q.1=false
def Clean (Γ:Ctx):Prop:=dirty Γ.code=false∧CleanB Γ.below
def wpC {α:Type} (M:Model) (A:Around) (t:Sem α) (Q:α→Shared→Prop) (E:Value→Shared→Prop) (s:Shared):Prop :=
  ∀ Γ p,Γ.In A→Clean Γ→Sem.wp M Γ t (fun a _ s'=>Q a s') (fun e _ s'=>E e s') p s
def codeC (M:Model) (A:Around) (c:Code) (R:Result→Shared→Prop) (s:Shared):Prop :=
  ∀ Γ p,Γ.code=c→Γ.Below A→CleanB Γ.below→wpCode M Γ R p s
section
variable {α β:Type} {M:Model} {A:Around} {E:Value→Shared→Prop} {s:Shared}
theorem wpC_of {t:Sem α} {Q:α→Shared→Prop} (h:wpAny M A t Q E s):wpC M A t Q E s:=fun Γ p hΓ _=>h Γ p hΓ
theorem wpC_pure {a:α} {Q:α→Shared→Prop} (h:Q a s):wpC M A (pure a) Q E s:=fun _ _ _ _=>h
theorem wpC_mono {t:Sem α} {Q Q':α→Shared→Prop} {E':Value→Shared→Prop} (h:wpC M A t Q E s)
    (hQ:∀ a s,Q a s→Q' a s) (hE:∀ e s,E e s→E' e s):wpC M A t Q' E' s :=
  fun Γ p hΓ hc=>Sem.wp_mono M Γ t (fun a _ s=>hQ a s) (fun e _ s=>hE e s) p s (h Γ p hΓ hc)
theorem wpC_bind {m:Sem α} {f:α→Sem β} {Q:β→Shared→Prop} (h:wpC M A m (fun a s'=>wpC M A (f a) Q E s') E s) :
    wpC M A (m >>= f) Q E s:=fun Γ p hΓ hc=>by
  rw [Sem.wp_bind']
  exact Sem.wp_mono M Γ m (fun a p' s' h'=>h' Γ p' hΓ hc) (fun _ _ _ h'=>h') p s (h Γ p hΓ hc)
theorem wpC_bindA {m:Sem α} {f:α→Sem β} {Q:β→Shared→Prop} (h:wpAny M A m (fun a s'=>wpC M A (f a) Q E s') E s) :
    wpC M A (m >>= f) Q E s:=wpC_bind (wpC_of h)
theorem wpC_onRaise {m:Sem α} {k:Value→Sem Unit} {Q:α→Shared→Prop}
    (h:wpC M A m Q (fun e s'=>wpC M A (k e) (fun _ s''=>E e s'') E s') s):wpC M A (m.onRaise k) Q E s:=fun Γ p hΓ hc=>by
  rw [Sem.wp_onRaise]
  exact Sem.wp_mono M Γ m (fun _ _ _ h'=>h') (fun e p' s' h'=>h' Γ p' hΓ hc) p s (h Γ p hΓ hc)
theorem wpC_holding {vs:List Value} {m:Sem α} {Q:α→Shared→Prop} (h:wpC M A m Q E s):wpC M A (holding vs m) Q E s :=
  fun Γ p hΓ hc=>by rw [Sem.wp_holding]; exact h Γ p hΓ hc
theorem Clean.enter {Γ:Ctx} (h:Clean Γ) (p:Pos):CleanB ((Γ.code,p) :: Γ.below):=fun q hq=>by
  rcases List.mem_cons.mp hq with rfl | hq
  · exact h.1
  · exact h.2 q hq
theorem wpC_runValue {c:Code} {Q:Value→Shared→Prop}
    (hc:codeC M A c (fun r s'=>match r with | .ok (.ret v)=>Q v s' | .ok _=>False | .error e=>E e s') s) :
    wpC M A (runValue c) Q E s:=fun Γ p hΓ hcl=>by rw [Sem.wp_runValue]; exact hc _ p rfl (hΓ.enter c none p (by intro x; cases x)) (hcl.enter p)
theorem wpC_call {f:Value} {pos:List Value} {kw:List (Str × Value)} {Q:Value→Shared→Prop}
    (hc:codeC M A (.call f ⟨pos,kw⟩) (fun r s'=>match r with | .ok (.ret v)=>Q v s' | .ok _=>False | .error e=>E e s') s) :
    wpC M A (call f pos kw) Q E s:=wpC_runValue hc
theorem codeC_of_tree {c:Code} {R:Result→Shared→Prop} (hd:dirty c=false)
    (h:wpC M (A.under c) (M.den c) (fun fin s'=>match fin with | .done f=>R (.ok f) s' | .again c'=>c'.quiet=true∧codeC M A c' R s')
      (fun e s'=>R (.error e) s') s):codeC M A c R s:=fun Γ p hc hΓ hb=>by
  rw [wpCode_iff_wp,hc]
  refine Sem.wp_mono M Γ _ (fun fin p' s' h'=>?_) (fun _ _ _ h'=>h') p s (h Γ p (hc ▸ hΓ.in) ⟨by rw [hc]; exact hd,hb⟩)
  cases fin with
  | done f=>exact h'
  | again c'=>exact ⟨h'.1,h'.2 (Γ.goto c') p' rfl (hΓ.goto c') hb⟩
end
section
variable {prog:Program} {w:World} {A:Around} {R:Result→Shared→Prop} {E:Value→Shared→Prop} {s:Shared} {env:Env}
theorem codeC_builtin {id:String} {args:Args} {b:Builtin} (hd:holdIds.contains id=false) (hb:entryFor table id=some b)
    (h:wpC (model prog w) (A.under (.builtin id args)) (b args)
      (fun fin s'=>match fin with | .done f=>R (.ok f) s' | .again c'=>c'.quiet=true∧codeC (model prog w) A c' R s') (fun e s'=>R (.error e) s') s) :
    codeC (model prog w) A (.builtin id args) R s:=by
  refine codeC_of_tree hd ?_
  show wpC _ _ (match entryFor table id with | some b=>b args | none=>unsupported ((withoutEnding? id "#data").getD id)) _ _ s
  rw [hb]; exact h
theorem codeC_call_function {a:Addr} {args:Args} {o:Obj} {fd:FuncData} {body:List Stmt} (hroom:A.depth < recursionLimit)
    (ho:s.heap.get? a=some o)
    (hd':o.data=.func fd) (hco:fd.scope.isCoroutine=false) (hgen:fd.scope.isGenerator=false) (hbody:fd.body=.stmts body) (hcd:s.heap.CodeRec fd.code fd.qualname)
    (h:wpAny (model prog w) A.in1 (bindArgs fd args) (fun binds s₁ =>
      wpAny (model prog w) A.in1 (newFunctionEnv fd.scope fd.globals fd.closure binds (fd.qualname ++ ".<locals>.") (some a) fd.code none fd.builtins)
        (fun env s₂=>s₂.heap.NoLimit∧codeC (model prog w) A (.func body env) R s₂) (fun e s'=>R (.error e) s') s₁) (fun e s'=>R (.error e) s') s) :
    codeC (model prog w) A (.call (.ref a) args) R s:=by
  refine codeC_of_tree rfl ?_
  show wpC _ A.in1 (callAny (.ref a) args) _ _ s
  refine wpC_of ?_
  simp only [callAny]
  refine wpAny_bind (wpAny_load ho ?_)
  obtain ⟨c,oc,vs,tq,hc,hoc,hdc,hq⟩:=hcd
  simp only [hd',callFunction,hco,hgen,hbody,hc]
  rw [hc] at h
  refine wpAny_bind (m:=field (.ref c) 1) (wpAny_field hoc hdc hq (wpAny_bind (wpAny_pure ?_)))
  exact wpAny_bind (wpAny_mono h (fun binds s₁ h₁=>wpAny_bind (wpAny_mono h₁ (fun env s₂ h₂=>wpAny_bind (wpAny_enterFrame h₂.1 hroom
    (wpAny_pure (And.intro rfl h₂.2)))) fun _ _ h'=>h')) fun _ _ h'=>h')
theorem codeC_func {body:List Stmt}
    (h:wpC (model prog w) (A.deeper env) (execs body env) (fun f s'=>R (.ok (.ret (match f with | .ret v=>v | _=>.none))) s')
      (fun e s'=>wpC (model prog w) (A.deeper env) (leaving env e) (fun _ s''=>R (.error e) s'') (fun e' s''=>R (.error e') s'') s') s) :
    codeC (model prog w) A (.func body env) R s:=by
  refine codeC_of_tree rfl ?_
  show wpC _ (A.deeper env) (do point; match ← (execs body env).onRaise (leaving env) with | .ret v=>ret v | _=>ret .none) _ _ s
  refine wpC_bindA (wpAny_point (wpC_bind (wpC_onRaise (wpC_mono h (fun f s' h'=>?_) fun _ _ h'=>h'))))
  cases f <;> exact wpC_pure h'
end
section
variable {M:Model} {A:Around} {E:Value→Shared→Prop} {s:Shared} {env:Env}
theorem wpC_execs_cons {st:Stmt} {rest:List Stmt} {Q:Flow→Shared→Prop}
    (h:wpC M A (exec st env) (fun f s'=>match f with | .next=>wpC M A (execs rest env) Q E s' | f=>Q f s') E s) :
    wpC M A (execs (st :: rest) env) Q E s:=fun Γ p hΓ hc=>by
  rw [execs_cons,Sem.wp_bind']
  refine Sem.wp_mono M Γ _ (fun f p' s' h'=>?_) (fun _ _ _ h'=>h') _ _ (h Γ p hΓ hc)
  cases f <;> first | exact h' Γ p' hΓ hc | exact h'
theorem wpC_Assign_Name {x:Str} {pos':Pos} {value:Expr} {pos:Pos} {Q:Flow→Shared→Prop}
    (h:wpC M A (eval value env) (fun v s₁=>wpC M A (storeName env x v) (fun _=>Q .next) E s₁) E s)
    (hs:swapsWith value (some (.Name x pos')) pos.line env=pure false:=by rfl) :
    wpC M A (exec (.Assign [.Name x pos'] value pos) env) Q E s:=fun Γ p hΓ hc=>by
  simp only [exec_Assign_Name env x pos' value pos hs,Sem.wp_bind',Sem.wp_cmd_standAt,Sem.wp_bindName,Sem.wp_pure']
  exact Sem.wp_mono M Γ _ (fun v _ s₁ h₁=>h₁ Γ _ hΓ hc) (fun _ _ _ h'=>h') _ _ (h Γ _ hΓ hc)
theorem callWithC_function {pos:Pos} {a:Addr} {o:Obj} {fd:FuncData} {first:List Value} {args:List (Bool × Sem Value)} {Q:Value→Shared→Prop} (hplain:args.any (·.1)=false)
    (h:wpC M A (evalArgs (.ref a) true args []) (fun x s₁=>(s₁.heap.get? a=some o∧o.data=.func fd)∧wpC M A (call (.ref a) (first ++ x.pos) x.kw) Q E s₁) E s) :
    wpC M A (callWith pos (.ref a) first args []) Q E s:=by
  unfold callWith
  refine wpC_bind (wpC_holding (wpC_mono h (fun x s₁ h₁=>wpC_bindA (wpAny_standAt ?_)) fun _ _ x=>x))
  simp only [hplain,List.any_nil,Bool.or_false]
  refine wpC_bindA (m:=keeperOf (.ref a)) ?_
  unfold keeperOf
  refine wpAny_bind (wpAny_load h₁.1.1 ?_)
  rw [h₁.1.2]
  refine wpAny_pure ?_
  have tail:∀ {t:Sem Value},wpC M A t Q E s₁→wpC M A (t >>= fun r=>holding [r] point >>= fun _=>pure r) Q E s₁ :=
    fun ht=>wpC_bind (wpC_mono ht (fun r s₂ hr=>wpC_of (wpAny_bind (wpAny_holding (wpAny_point (wpAny_pure hr))))) fun _ _ x=>x)
  dsimp only
  split
  · exact tail h₁.2
  · exact tail (by unfold callMarked; exact fun Γ p hΓ hc=>by rw [Sem.wp_keep]; exact h₁.2 Γ p hΓ hc)
theorem callWithC_type {pos:Pos} {T:String} {first:List Value} {args:List (Bool × Sem Value)} {Q:Value→Shared→Prop} (hplain:args.any (·.1)=false)
    (h:wpC M A (evalArgs (.type T) true args []) (fun a s₁=>wpC M A (call (.type T) (first ++ a.pos) a.kw) Q E s₁) E s) :
    wpC M A (callWith pos (.type T) first args []) Q E s:=by
  unfold callWith
  refine wpC_bind (wpC_holding (wpC_mono h (fun a s₁ h₁=>wpC_bindA (wpAny_standAt ?_)) fun _ _ x=>x))
  simp only [hplain,List.any_nil,Bool.or_false]
  refine wpC_bindA (wpAny_pure ?_)
  exact wpC_bind (wpC_mono h₁ (fun r s₂ hr=>wpC_of (wpAny_bind (wpAny_holding (wpAny_point (wpAny_pure hr))))) fun _ _ x=>x)
end
end Mine
namespace Mine
section
variable (prog:Program) (w:World) (W:Wd)
def GivesC (k:Nat) (t:Sem Value) (s:Shared) (F:Fz) (P:Fz→Value→Prop):Prop :=
  ∀ (A:Around) (Q:Value→Shared→Prop) (E:Value→Shared→Prop),Room k A→(∀ v s' F',Grow W s s' F F'→P F' v→Q v s')→wpC (model prog w) A t Q E s
def EvC (k:Nat) (sc:Scope) (fn:Bool) (Γ:Ctx') (e:Expr) (x:V):Prop :=
  ∀ fr P s F,fr.env.scope=sc→St prog w W fr fn Γ P s F→GivesC prog w W k (eval e fr.env) s F (Is prog w x)
def CallsC (k:Nat) (f:Value) (xs:List V) (r:V):Prop :=
  ∀ s F vs,Base W s F→VsIs prog w F vs xs→GivesC prog w W k (call f vs) s F (Is prog w r)
def ExC (k:Nat) (sc:Scope) (fn:Bool) (Γ:Ctx') (ss:List Stmt) (o:Out):Prop :=
  ∀ fr P s F,fr.env.scope=sc→St prog w W fr fn Γ P s F→∀ (A:Around) (Q:Flow→Shared→Prop) (E:Value→Shared→Prop),Room k A →
    (∀ fl s' F',o.ok prog w W fr fn P fl s' F'→F.le F'→Q fl s')→wpC (model prog w) A (execs ss fr.env) Q E s
def Ex1C (k:Nat) (sc:Scope) (fn:Bool) (Γ:Ctx') (st:Stmt) (o:Out):Prop :=
  ∀ fr P s F,fr.env.scope=sc→St prog w W fr fn Γ P s F→∀ (A:Around) (Q:Flow→Shared→Prop) (E:Value→Shared→Prop),Room k A →
    (∀ fl s' F',o.ok prog w W fr fn P fl s' F'→F.le F'→Q fl s')→wpC (model prog w) A (exec st fr.env) Q E s
end
section
variable {prog:Program} {w:World} {W:Wd} {k:Nat} {sc:Scope} {fn:Bool} {Γ Γ':Ctx'}
theorem exC_of {ss:List Stmt} {o:Out} (h:Ex prog w W k sc fn Γ ss o):ExC prog w W k sc fn Γ ss o:=fun fr P s F hsc st A Q E rm q=>wpC_of (h fr P s F hsc st A Q E rm q)
theorem exC_seqC {st:Stmt} {rest:List Stmt} {o:Out} (h:Ex1C prog w W k sc fn Γ st (.next Γ')) (hr:ExC prog w W k sc fn Γ' rest o):ExC prog w W k sc fn Γ (st :: rest) o :=
  fun fr P s F hsc x A Q E rm q=>wpC_execs_cons (h fr P s F hsc x A _ E rm fun fl s' F' ho hF=>by
    obtain ⟨rfl,x'⟩:=ho
    exact hr fr P s' F' hsc x' A Q E rm fun fl s'' F'' ho' hF'=>q fl s'' F'' ho' (hF.trans hF'))
theorem ex1C_assign {y:Str} {pos pos':Pos} {e:Expr} {x:V} (he:EvC prog w W k sc fn Γ e x) (hk:sc.names.lookup y=some .local ∨ (sc.names.lookup y=some .cell∧fn=true))
    (hs:∀ env,env.scope=sc→swapsWith e (some (.Name y pos')) pos.line env=pure false:=by intro _ _; rfl):Ex1C prog w W k sc fn Γ (.Assign [.Name y pos'] e pos) (.next ((y,.val x) :: Γ)) :=
  fun fr P s F hsc st A Q E rm q=>wpC_Assign_Name (he fr P s F hsc st A _ E rm fun v s₁ F₁ g₁ hv =>
    wpC_of ((st.step g₁).storeV hv (by rw [← hsc] at hk; exact hk) fun s' st'=>q _ s' F₁ ⟨rfl,st'⟩ g₁.sub)) (hs _ hsc)
theorem callsC_def {d:DefRec} {k:Nat} {a:Nat} {xs:List V} {r:V} (fn:FnOk W d a) (names:List Str)
    (hb:∀ pm code doc (vs:List Value),vs.length=xs.length→bindArgs (docDef d.name d.params d.body d.scope pm code doc) ⟨vs,[]⟩=pure (names.zip vs))
    (hp:parOk d.scope names=true) (hn:names.Nodup) (hl:names.length=xs.length) (hex:ExC prog w W k d.scope true (names.zip (xs.map Bd.val)) d.body (.ret r)):CallsC prog w W (k + 1) (.ref a) xs r:=by
  intro s F vs b hv A Q E rm q
  obtain ⟨o,pm,code,doc,ho,hd,hc⟩:=fn.obj
  unfold parOk at hp
  simp only [Bool.and_eq_true,beq_iff_eq,Bool.not_eq_true',List.all_eq_true,Bool.or_eq_true] at hp
  obtain ⟨⟨⟨hk,hco⟩,hgen⟩,hkinds⟩:=hp
  have vl:=hv.length
  refine wpC_call ?_
  refine codeC_call_function (fd:=docDef d.name d.params d.body d.scope pm code doc) rm.depth (b.base _ _ ho) hd hco hgen rfl (hc.keeps b.base) ?_
  rw [hb _ _ _ _ vl]
  have hbm:(names.zip vs).map (·.1)=names:=by
    rw [List.map_fst_zip]; omega
  have key:∀ x ∈ names.zip vs,d.scope.names.lookup x.1=some .local ∨ d.scope.names.lookup x.1=some .cell:=fun x hx=>hkinds x.1 (List.of_mem_zip hx).1
  refine wpAny_pure (any_hz (wpAny_newFunctionEnv_cells hk (fun x hx=>?_) fun env he s₁ X hz1 ht1=>?_))
  · rcases key x hx with h | h
    · exact .inl h
    · obtain ⟨c,hc⟩:=cellsFrom_some (n:=s.heap.objs.size + 1) (acc:=[]) (.inl (mem_of_lookup h))
      exact .inr ⟨h,by show ((cellsFrom (s.heap.objs.size + 1) d.scope.names []).lookup x.1).isSome=true; rw [hc]; rfl⟩
  · have es:env.scope=d.scope:=by rw [he]; rfl
    have st:St prog w W ⟨s,F,env⟩ true (names.zip (xs.map Bd.val)) [] s₁ F:=call_frame (sc:=d.scope) (binds:=names.zip vs) b hz1 ht1 (by rw [he]; rfl) (by rw [he]; rfl) es hk ⟨s.heap.objs.size + 1,by rw [he]; rfl⟩ X (by rw [hbm]; exact hn) fun y bd hy=>by
      obtain ⟨h1,x,v,e1,e2,e3⟩:=zip_lookup hv hy
      exact ⟨hkinds y h1,x,v,e1,e2,e3⟩
    refine ⟨W.nolimit.keeps (fun a o e=>X.toInCall.keep a o (b.base a o e)),codeC_func ?_⟩
    refine hex ⟨s,F,env⟩ [] s₁ F es st _ _ _ (rm.deeper env) fun fl s' F' ho' hF'=>?_
    obtain ⟨v,rfl,hv',st'⟩:=ho'
    exact q v s' F' st'.grow hv'
theorem plain_args {es:List Expr} {env:Env} {pos:Pos} (h:(starEach es env).any (·.1)=false):(backTo pos (starEach es env)).any (·.1)=false:=by
  unfold backTo
  rw [List.any_map]
  exact h
theorem evC_call {y:Str} {es:List Expr} {xs:List V} {p pos:Pos} {a:Nat} {o:Obj} {fd:FuncData} {r:V} (hf:Ev prog w W k sc fn Γ (.Name y p) (.ref a))
    (ho:W.base.get? a=some o) (hd:o.data=.func fd) (ha:EvL prog w W k sc fn Γ es xs) (hc:CallsC prog w W k (.ref a) xs r)
    (hs:∀ env,(starEach es env).any (·.1)=false:=by intro _; rfl):EvC prog w W k sc fn Γ (.Call (.Name y p) es [] pos) r:=fun fr P s F hsc st A Q E rm q=>by
  have e:eval (.Call (.Name y p) es [] pos) fr.env=(do callWith pos (← eval (.Name y p) fr.env) [] (backTo pos (starEach es fr.env)) []):=rfl
  rw [e]
  refine wpC_bindA (hf fr P s F hsc st A _ E rm fun v s₁ F₁ g₁ hv=>?_)
  cases hv
  refine callWithC_function (o:=o) (fd:=fd) (plain_args (hs _)) (wpC_of ?_)
  refine evalArgs_of ha hsc (st.step g₁) rm hs fun vs s₂ F₂ g₂ hv=>?_
  refine ⟨⟨((st.step g₁).step g₂).base.base _ _ ho,hd⟩,?_⟩
  exact hc s₂ F₂ vs ((st.step g₁).step g₂).base hv A Q E rm fun z s₃ F₃ g₃ hz=>q z s₃ F₃ ((g₁.trans g₂).trans g₃) hz
end
def SpecC (w:World) (W:Wd) (k:Nat) (i:Nat) (xs:List V) (r:V):Prop:=∀ a,FnOk W (dRec i) a→CallsC pw w W k (.ref a) xs r
section
variable {w:World} {W:Wd} {k:Nat}
theorem spC_of {i:Nat} {xs:List V} {r:V} (names:List Str)
    (hb:∀ pm code doc (vs:List Value),vs.length=xs.length→bindArgs (docDef (dRec i).name (dRec i).params (dRec i).body (dRec i).scope pm code doc) ⟨vs,[]⟩=pure (names.zip vs))
    (hp:parOk (dRec i).scope names=true) (hn:names.Nodup) (hl:names.length=xs.length) (hex:ExC pw w W k (dRec i).scope true (names.zip (xs.map Bd.val)) (dRec i).body (.ret r)):SpecC w W (k + 1) i xs r :=
  fun a fn=>callsC_def fn names hb hp hn hl hex
theorem evC_fn {sc:Scope} {fn:Bool} {Γ:Ctx'} (ok:Wok W) {i:Nat} {y:Str} {es:List Expr} {xs:List V} {p pos:Pos} {r:V} (hc:SpecC w W k i xs r) (ha:EvL pw w W k sc fn Γ es xs)
    (hk:sc.names.lookup y=some .globalImplicit:=by rfl) (hm:i ∈ fnIdx:=by decide) (hn:(dRec i).name=y:=by rfl)
    (hs:∀ env,(starEach es env).any (·.1)=false:=by intro _; rfl) (hd:(y == ("__debug__":Str))=false:=by decide):EvC pw w W k sc fn Γ (.Call (.Name y p) es [] pos) r:=by
  obtain ⟨a,f⟩:=ok.fns i hm
  obtain ⟨o,pm,code,doc,h1,h2,_⟩:=f.obj
  exact evC_call (ev_glob hk (by rw [← hn]; exact f.glob) hd) h1 h2 ha (hc a f) hs
end
end Mine
namespace Mine
theorem ifC_false {α:Type} {M:Model} {A:Around} {E:Value→Shared→Prop} {s:Shared} {c:Bool} {a b:Sem α} {Q:α→Shared→Prop} (hc:c=false) (h:wpC M A b Q E s):wpC M A (if c=true then a else b) Q E s:=by
  subst hc; exact h
section
variable {prog:Program} {w:World} {A:Around} {E:Value→Shared→Prop} {s:Shared}
theorem callTypeC {T newId initId:String} {Bi:Builtin} {args:List Value} {Q Q₁:Value→Shared→Prop} (ft:TypeCalled T newId initId)
    (hct:checkTypeCall T ⟨args,[]⟩=pure ()) (entryI:entryFor table initId=some Bi) (hdi:holdIds.contains initId=false)
    (hnew:wpAny (model prog w) A.in1 (call (.builtin newId) (.type T :: args)) Q₁ E s)
    (hnext:∀ obj s₁,Q₁ obj s₁→s₁.TypeIs obj T∧argsOk initId ⟨obj :: args,[]⟩ ∧
      wpC (model prog w) A.in1.in1 (Bi ⟨obj :: args,[]⟩) (fun fin s'=>fin=.done (.ret .none)∧Q obj s') E s₁) :
    wpC (model prog w) A (call (.type T) args) Q E s:=by
  obtain ⟨c,tl,hmro⟩:=ft.mro
  have hmade:=ft.made
  have hsub:=ft.sub
  refine wpC_call (codeC_of_tree rfl ?_)
  show wpC _ _ (callAny (.type T) _) _ _ _
  refine wpC_pure ⟨Code.quiet_builtin _ (by decide +kernel),codeC_builtin (by decide +kernel) F.entry_type_call ?_⟩
  rw [Around.under_plain (weight_type_call_type T args []) rfl]
  have h1:=ft.notType
  have h2:=ft.canCreate
  unfold Builtin.«type.__call__»
  dsimp only
  refine ifC_false h1 ?_
  simp only [h2,hct,hmro,hmade,pure_bind,Bool.false_eq_true,if_false,List.isEmpty_cons]
  refine wpC_bind (wpC_holding (wpC_of (wpAny_mono hnew (fun obj s₁ hq=>?_) fun _ _ x=>x)))
  obtain ⟨hT,hok,hi⟩:=hnext obj s₁ hq
  refine wpC_bindA (wpAny_isInstance (b:=true) hT hsub ?_)
  refine ifC_false rfl ?_
  refine wpC_bind (wpC_holding ?_)
  unfold callSpecial?
  refine wpC_bindA (wpAny_specialOf hT ft.init.lookup ?_)
  dsimp only
  simp only [ft.init.bind]
  refine wpC_holding (wpC_bindA (wpAny_pure (wpC_bind ?_)))
  refine wpC_call ?_
  show codeC (model prog w) A.in1 (.call (.builtin initId) ⟨obj :: args,[]⟩) _ s₁
  refine codeC_of_tree rfl ?_
  show wpC _ A.in1.in1 (do checkBuiltinCall initId ⟨obj :: args,[]⟩; again (.builtin initId ⟨obj :: args,[]⟩)) _ _ s₁
  refine wpC_bindA (ft.init.check _ _ _ _ _ _ _ _ hT hok (wpC_pure ⟨plainId_quiet ft.init.plain _,codeC_builtin hdi entryI ?_⟩))
  rw [Around.under_plainId ft.init.plain]
  refine wpC_mono hi (fun fin s₂ hf=>?_) fun _ _ x=>x
  obtain ⟨rfl,hq⟩:=hf
  exact wpC_pure (wpC_pure hq)
namespace BA
theorem mro:mroOf (.type "bytearray")=pure [.type "bytearray",.type "object"]:=by rw [mroOf_type]; kernel_rfl
theorem lookup_new:typeLookup (.type "bytearray") "__new__"=pure (some (.builtin "bytearray.__new__")):=by rw [typeLookup_type,builtinLookup_eq_fast]; kernel_rfl
theorem sub:isSubtype (.type "bytearray") (.type "bytearray")=pure true:=by rw [isSubtype_type]; kernel_rfl
theorem slot_init:Slot "bytearray" "__init__" "bytearray.__init__" :=
  .of (owner:="bytearray") (n:="__init__") (by rw [typeLookup_type,builtinLookup_eq_fast]; kernel_rfl) (by decide +kernel) (by decide +kernel) (by decide +kernel)
    (by first | exact .inl (by decide +kernel) | exact .inr (by decide +kernel)) sub
theorem called:TypeCalled "bytearray" "bytearray.__new__" "bytearray.__init__" :=
  ⟨by decide +kernel,by decide +kernel,⟨_,_,mro⟩,madeBy_type mro lookup_new (by decide +kernel),by decide +kernel,sub,slot_init⟩
theorem typeCall (a:Value):checkTypeCall "bytearray" ⟨[a],[]⟩=pure ():=by kernel_rfl
theorem newCall (a:Value):checkBuiltinCall "bytearray.__new__" ⟨[.type "bytearray",a],[]⟩=pure ():=by kernel_rfl
theorem plain_new:plainId "bytearray.__new__"=true:=by decide +kernel
theorem entry_new:entryFor table "bytearray.__new__"=some Builtin.«list.__new__» :=
  entryFor_alias (id':="list.__new__") (by rw [fastTable_eq_tree]; kernel_rfl) (by simp +decide [String.cutAt]) (by decide +kernel) (by rw [fastTable_eq_tree]; kernel_rfl)
theorem entry_init:entryFor table "bytearray.__init__"=some Builtin.«bytearray.__init__»:=by first | exact entryFor_of_fast (by kernel_rfl) | exact entryFor_of_tree (by kernel_rfl)
theorem owner_new:("bytearray.__new__".splitOn ".__new__").headD ""="bytearray":=by simp +decide [String.splitOn,String.splitOnAux]
theorem no_release:typeLookup (.type "bytearray") "__release_buffer__"=pure (some (.builtin "bytearray.__release_buffer__")):=by rw [typeLookup_type,builtinLookup_eq_fast]; kernel_rfl
theorem bind1 (v:Value):Builtin.Bytes.bindOptional "bytearray.__init__" "bytearray" ["source","encoding","errors"] [v] []=pure [some v,none,none]:=by kernel_rfl
theorem args_init (a b:Value):argsOk "bytearray.__init__" ⟨[a,b],[]⟩:=by unfold argsOk; kernel_rfl
theorem ndict:typeHasDict (.type "bytearray")=false:=by kernel_rfl
end BA
end
end Mine
namespace Mine
section
variable {prog:Program} {w:World} {A:Around} {E:Value→Shared→Prop} {s:Shared}
theorem ba_new (a:Value) {Q₁:Value→Shared→Prop}
    (h:Q₁ (.ref s.heap.objs.size) { s with heap:=s.heap.push (byteObj #[] 0) }) :
    wpAny (model prog w) A (call (.builtin "bytearray.__new__") [.type "bytearray",a]) Q₁ E s:=by
  refine wpAny_call (codeAny_of_tree ?_)
  show wpAny _ A.in1 (do checkBuiltinCall "bytearray.__new__" ⟨[.type "bytearray",a],[]⟩; again (.builtin "bytearray.__new__" ⟨[.type "bytearray",a],[]⟩)) _ _ s
  refine wpAny_bind (wpAny_of_eq (BA.newCall a) (wpAny_pure ⟨plainId_quiet BA.plain_new _,codeAny_builtin_stack BA.entry_new rfl fun p st=>?_⟩))
  rw [Around.under_plainId BA.plain_new _]
  have hsub:=BA.sub
  have hown:=BA.owner_new
  have hnd:=BA.ndict
  obtain ⟨hp,g,d,tk,os⟩:=s
  simp only [hown]
  wp_walk
  exact h
theorem sp_index {β:Type} {M:Model} {n:Int} {t:Tok} {f:Option Value→Sem β} {Q:β→Shared→Prop} (h:wpAny M A (f (some (.builtin "int.__index__"))) Q E s) :
    wpAny M A (specialOf (.int n t) (Str.ofString "__index__") >>= f) Q E s:=wpAny_bind (wpAny_specialOf (T:="int") (typeIs_int _ _ _) int_index h)
theorem same_trans {a:Addr} {h1 h2 h3:Heap} (x:Heap.SameBut a h1 h2) (y:Heap.SameBut a h2 h3):Heap.SameBut a h1 h3:=⟨y.1.trans x.1,fun b hb=>(y.2 b hb).trans (x.2 b hb)⟩
theorem ba_write {α:Type} {M:Model} {a:Addr} {b:Array UInt8} {n:Nat} {f:Array UInt8→Array UInt8} {k:Unit→Sem α} {Q:α→Shared→Prop} (ha:s.heap.get? a=some (byteObj b n)) (hz:(f b).size≤sizeLine)
    (h:(s.heap.update a (Obj.mapBytearray f)).get? a=some (byteObj (f b) n)→wpAny M A (k ()) Q E { s with heap:=s.heap.update a (Obj.mapBytearray f) }):wpAny M A (Builtin.Bytes.write (.ref a) f >>= k) Q E s:=by
  refine wpAny_bind ?_
  show wpAny _ _ (updateBytearray a f) _ _ _
  unfold updateBytearray
  refine wpAny_bind (wpAny_load ha ?_)
  show wpAny _ _ (update a (Obj.mapBytearray f) >>= fun _=>lookBehind a) _ _ _
  refine wpAny_bind (wpAny_update ha ?_)
  have h2:(s.heap.update a (Obj.mapBytearray f)).get? a=some (byteObj (f b) n):=Heap.get?_update_self (Obj.mapBytearray f) ha rfl
  refine wpAny_lookBehind h2 ?_ (h h2)
  show (if (f b).size > sizeLine then some "bytearray:memory" else none)=none
  rw [if_neg (by omega)]
theorem held_sub {id:String} (h:holdIds.contains id=false):Builtin.Bytes.decodersThatHold.contains id=false:=by
  unfold holdIds at h
  simp only [List.contains_eq_mem,List.mem_append,decide_eq_false_iff_not,not_or] at h ⊢
  exact h.2
theorem past_ok {b:Array UInt8} (h:b.size≤sizeLine):(byteObj b 0).data.pastItsLine=none:=by
  show (if b.size > sizeLine then some "bytearray:memory" else none)=none
  rw [if_neg (by omega)]
theorem not_held {self:Value} {c:Code} {p:Pos} (h:dirty c=false):(match ((c,p):Code × Pos) with
    | (.builtin "bytearray.__contains__" ⟨v :: _,_⟩,_) | (.builtin "bytearray.__mod__" ⟨v :: _,_⟩,_)
    | (.builtin "bytearray.__rmod__" ⟨_ :: v :: _,_⟩,_) | (.builtin "_struct.pack_into.held" ⟨v :: _,_⟩,_)=>Builtin.Bytes.sameRef v self
    | (.builtin "bytearray.find.held" ⟨_ :: _ :: held,_⟩,_)=>held.any (Builtin.Bytes.sameRef self)
    | (.builtin id ⟨v :: _,_⟩,_)=>Builtin.Bytes.sameRef v self && Builtin.Bytes.decodersThatHold.contains id
    | _=>false)=false:=by
  split
  · rename_i e; cases e; exact absurd (show holdIds.contains "bytearray.__contains__"=false from h) (by decide +kernel)
  · rename_i e; cases e; exact absurd (show holdIds.contains "bytearray.__mod__"=false from h) (by decide +kernel)
  · rename_i e; cases e; exact absurd (show holdIds.contains "bytearray.__rmod__"=false from h) (by decide +kernel)
  · rename_i e; cases e; exact absurd (show holdIds.contains "_struct.pack_into.held"=false from h) (by decide +kernel)
  · rename_i e; cases e; exact absurd (show holdIds.contains "bytearray.find.held"=false from h) (by decide +kernel)
  · rename_i e; cases e
    rw [held_sub (show holdIds.contains _=false from h),Bool.and_false]
  · rfl
theorem wpC_exported {self:Value} {Q:Bool→Shared→Prop} (h:Q false s):wpC (model prog w) A (Builtin.Bytes.exported self) Q E s:=fun Γ p hΓ hc=>by
  show Q (((Γ.code,p) :: Γ.below).any _) s
  have e:∀ l:List (Code × Pos),CleanB l→l.any (fun x=>match x with
    | (.builtin "bytearray.__contains__" ⟨v :: _,_⟩,_) | (.builtin "bytearray.__mod__" ⟨v :: _,_⟩,_)
    | (.builtin "bytearray.__rmod__" ⟨_ :: v :: _,_⟩,_) | (.builtin "_struct.pack_into.held" ⟨v :: _,_⟩,_)=>Builtin.Bytes.sameRef v self
    | (.builtin "bytearray.find.held" ⟨_ :: _ :: held,_⟩,_)=>held.any (Builtin.Bytes.sameRef self)
    | (.builtin id ⟨v :: _,_⟩,_)=>Builtin.Bytes.sameRef v self && Builtin.Bytes.decodersThatHold.contains id
    | _=>false)=false:=fun l hl=>by
    rw [List.any_eq_false]
    intro x hx
    rw [Bool.not_eq_true]
    obtain ⟨c,q⟩:=x
    exact not_held (hl _ hx)
  have:=e _ (hc.enter p)
  first
    | (rw [this]; exact h)
    | (have h2:Q false s:=h; rw [← this] at h2; exact h2)
theorem ba_init {a:Addr} {n:Nat} {t:Tok} {Q:Value→Shared→Prop} (ha:s.heap.get? a=some (byteObj #[] 0)) (hn:n≤sizeLine)
    (h:∀ h',Heap.SameBut a s.heap h'→h'.get? a=some (byteObj (Array.replicate n 0) 0)→Q (.ref a) { s with heap:=h' }) :
    wpC (model prog w) A (Builtin.«bytearray.__init__» ⟨[.ref a,.int (n:Int) t],[]⟩) (fun fin s'=>fin=.done (.ret .none)∧Q (.ref a) s') E s:=by
  have hT:s.TypeIs (.ref a) "bytearray":=⟨_,ha,rfl⟩
  unfold Builtin.«bytearray.__init__»
  dsimp only
  refine wpC_bindA ?_
  unfold Builtin.Bytes.ownRelease Builtin.Bytes.slotIsOwn
  refine wpAny_bind (wpAny_bind (wpAny_specialOf hT BA.no_release ?_))
  dsimp only
  refine bm_if_false (by decide +kernel) ?_
  have e1:("bytearray.__release_buffer__".dropRight ("__release_buffer__".length + 1))="bytearray":=by decide +kernel
  rw [e1]
  refine wpAny_isInstance (b:=true) hT BA.sub (wpAny_pure ?_)
  refine ifC_false rfl ?_
  refine wpC_bindA (wpAny_of_eq (BA.bind1 _) ?_)
  dsimp only
  refine wpC_bindA (wpAny_of_eq (a:=()) rfl ?_)
  refine wpC_bindA (wpAny_of_eq (a:=()) rfl ?_)
  have hex:wpC (model prog w) A (Builtin.Bytes.exported (.ref a) <||> do return (← Builtin.Bytes.exportsOf (.ref a)) > 0) (fun b s'=>b=false∧s'=s) E s:=by
    refine wpC_bind (wpC_exported ?_)
    show wpC (model prog w) A ((Builtin.Bytes.exportsOf (.ref a)) >>= fun x=>pure (decide (x > 0))) _ E s
    refine wpC_of (wpAny_bind ?_)
    unfold Builtin.Bytes.exportsOf
    refine wpAny_bind (wpAny_load ha ?_)
    exact wpAny_pure (wpAny_pure ⟨rfl,rfl⟩)
  refine wpC_bind (wpC_mono hex (fun b s' hb=>?_) fun _ _ x=>x)
  obtain ⟨rfl,rfl⟩:=hb
  refine ifC_false rfl (wpC_of ?_)
  refine wpAny_bind ?_
  show wpAny _ _ (updateBytearray a (fun _=>#[])) _ _ _
  unfold updateBytearray
  refine wpAny_bind (wpAny_load ha ?_)
  show wpAny _ _ (update a (Obj.mapBytearray (fun _=>#[])) >>= fun _=>lookBehind a) _ _ _
  refine wpAny_bind (wpAny_update ha ?_)
  have h2:(s'.heap.update a (Obj.mapBytearray (fun _=>#[]))).get? a=some (byteObj #[] 0):=Heap.get?_update_self (Obj.mapBytearray (fun _=>#[])) ha rfl
  refine wpAny_lookBehind h2 (past_ok (Nat.zero_le _)) ?_
  have ea:asStr? (.int (n:Int) t)=pure none:=by unfold asStr?; rfl
  rw [ea]
  simp only [pure_bind,Option.isSome_none,Bool.false_eq_true,if_false]
  refine sp_index ?_
  simp only [Option.isSome_some,if_true]
  have ei:(asIndex (.int (n:Int) t)).attempt=pure (.ok (n:Int)):=rfl
  rw [ei]
  have hz:(sizeLine:Nat)=16777216:=rfl
  have f1:Builtin.Bytes.fitsIndex (n:Int)=true:=by unfold Builtin.Bytes.fitsIndex; simp only [Bool.and_eq_true,decide_eq_true_eq]; omega
  have f2:¬ ((n:Int) < 0):=by omega
  have f3:((n:Int) == 2 ^ 63 - 1)=false:=by rw [beq_eq_false_iff_ne]; omega
  have f4:Builtin.Bytes.tooLong (n:Int).toNat=false:=by unfold Builtin.Bytes.tooLong; rw [Int.toNat_natCast]; exact decide_eq_false (by omega)
  simp only [pure_bind,f1,f2,f3,f4,Bool.not_true,Bool.false_eq_true,if_false]
  refine wpAny_bind (wpAny_rule ?_)
  by_cases hp:(n:Int) > 0
  · rw [if_pos hp]
    refine ba_write (b:=#[]) h2 (by rw [Int.toNat_natCast,Array.size_replicate]; exact hn) fun h3=>?_
    rw [Int.toNat_natCast] at h3
    exact wpAny_pure ⟨rfl,h _ (same_trans (Heap.SameBut.update ..) (Heap.SameBut.update ..)) h3⟩
  · rw [if_neg hp]
    have h0:n=0:=by omega
    subst h0
    exact wpAny_pure ⟨rfl,h _ (Heap.SameBut.update ..) h2⟩
end
end Mine
namespace Mine
section
variable {prog:Program} {w:World} {A:Around} {E:Value→Shared→Prop} {s:Shared}
theorem ba_call {n:Nat} {t:Tok} {Q:Value→Shared→Prop} (hn:n≤sizeLine)
    (h:∀ h',Heap.SameBut s.heap.objs.size (s.heap.push (byteObj #[] 0)) h'→h'.get? s.heap.objs.size=some (byteObj (Array.replicate n 0) 0)→Q (.ref s.heap.objs.size) { s with heap:=h' }) :
    wpC (model prog w) A (call (.type "bytearray") [.int (n:Int) t]) Q E s:=by
  refine callTypeC (Q₁:=fun obj s₁=>obj=.ref s.heap.objs.size∧s₁={ s with heap:=s.heap.push (byteObj #[] 0) }) BA.called (BA.typeCall _) BA.entry_init (by decide +kernel)
    (ba_new _ ⟨rfl,rfl⟩) fun obj s₁ h₁=>?_
  obtain ⟨rfl,rfl⟩:=h₁
  have hS:(s.heap.push (byteObj #[] 0)).get? s.heap.objs.size=some (byteObj #[] 0):=Heap.get?_push_size _ rfl
  exact ⟨⟨_,hS,rfl⟩,BA.args_init _ _,ba_init hS hn h⟩
namespace BA
theorem slot_setitem:Slot "bytearray" "__setitem__" "bytearray.__setitem__" :=
  .of (owner:="bytearray") (n:="__setitem__") (by rw [typeLookup_type,builtinLookup_eq_fast]; kernel_rfl) (by decide +kernel) (by decide +kernel) (by decide +kernel)
    (by first | exact .inl (by decide +kernel) | exact .inr (by decide +kernel)) sub
theorem entry_setitem:entryFor table "bytearray.__setitem__"=some Builtin.«bytearray.__setitem__»:=by first | exact entryFor_of_fast (by kernel_rfl) | exact entryFor_of_tree (by kernel_rfl)
theorem args_setitem (a b c:Value):argsOk "bytearray.__setitem__" ⟨[a,b,c],[]⟩:=by unfold argsOk; kernel_rfl
theorem no_bytes:typeLookup (.type "bytearray") "__bytes__"=pure none:=by rw [typeLookup_type,builtinLookup_eq_fast]; kernel_rfl
theorem noIdx:typeLookup (.type "bytearray") "__index__"=pure none:=by rw [typeLookup_type,builtinLookup_eq_fast]; kernel_rfl
theorem buffer:typeLookup (.type "bytearray") "__buffer__"=pure (some (.builtin "bytearray.__buffer__")):=by rw [typeLookup_type,builtinLookup_eq_fast]; kernel_rfl
end BA
theorem ba_setItem {a:Addr} {b:Array UInt8} {i c n:Nat} {t u:Tok} {Q:Unit→Shared→Prop} (ha:s.heap.get? a=some (byteObj b n)) (hi:i < b.size) (hz:b.size≤sizeLine) (hc:c < 256)
    (h:∀ h',Heap.SameBut a s.heap h'→h'.get? a=some (byteObj (b.setIfInBounds i c.toUInt8) n)→Q () { s with heap:=h' }) :
    wpAny (model prog w) A (setItem (.ref a) (.int (i:Int) t) (.int (c:Int) u)) Q E s:=by
  have hT:s.TypeIs (.ref a) "bytearray":=⟨_,ha,rfl⟩
  have hs:(sizeLine:Nat)=16777216:=rfl
  unfold setItem
  try with_reducible refine wpAny_holding ?_
  first | refine wpAny_bind (wpAny_pure ?_) | skip
  refine wpAny_bind (wpAny_sequenceKey hT (by decide) ?_)
  refine wpAny_bind (wpAny_callSpecial?_slot (name:=Str.ofString "__setitem__") hT BA.slot_setitem
    (wpAny_call_entry BA.slot_setitem hT BA.entry_setitem ?_ (BA.args_setitem _ _ _)))
  unfold Builtin.«bytearray.__setitem__»
  dsimp only
  simp only [List.isEmpty_nil,Bool.not_true,Bool.false_eq_true,if_false]
  refine wpAny_bind ?_
  unfold Builtin.Bytes.subscript?
  refine sp_index ?_
  simp only [Option.isNone_some,Bool.false_eq_true,if_false]
  have ei:asIndex (.int (i:Int) t)=pure (i:Int):=rfl
  have f1:Builtin.Bytes.fitsIndex (i:Int)=true:=by unfold Builtin.Bytes.fitsIndex; simp only [Bool.and_eq_true,decide_eq_true_eq]; omega
  rw [ei]
  simp only [pure_bind,f1,Bool.not_true,Bool.false_eq_true,if_false]
  refine wpAny_pure ?_
  dsimp only
  refine wpAny_bind ?_
  unfold Builtin.Bytes.byteValue
  have ec:asIndex (.int (c:Int) u)=pure (c:Int):=rfl
  have f2:(decide ((c:Int) < 0) || decide ((c:Int) ≥ 256))=false:=by simp only [Bool.or_eq_false_iff,decide_eq_false_iff_not]; omega
  rw [ec]
  simp only [pure_bind,f2,Bool.false_eq_true,if_false]
  refine wpAny_pure ?_
  refine wpAny_bind ?_
  unfold Builtin.Bytes.payload Builtin.Bytes.payload?
  refine wpAny_bind (wpAny_bind (wpAny_load ha (wpAny_pure (wpAny_pure ?_))))
  have e:seqIndex? (i:Int) b.size=some i:=by
    unfold seqIndex?
    simp only
    split <;> simp_all <;> omega
  rw [e]
  dsimp only
  rw [Int.toNat_natCast]
  refine ba_write ha (by rw [Array.size_setIfInBounds]; exact hz) fun h3=>?_
  first
    | exact wpAny_pure ⟨.none,rfl,wpAny_pure (h _ (Heap.SameBut.update ..) h3)⟩
    | exact wpAny_bind (wpAny_pure (wpAny_pure ⟨.none,rfl,wpAny_pure (h _ (Heap.SameBut.update ..) h3)⟩))
theorem ba_bytes {a:Addr} {b:Array UInt8} {n:Nat} {Q:Value→Shared→Prop} (ha:s.heap.get? a=some (byteObj b n)) (hz:b.size≤sizeLine)
    (h:Q (.bytes b s.toks) { s with toks:=s.toks + 1 }):wpAny (model prog w) A (call (.type "bytes") [.ref a]) Q E s:=by
  refine callType_codes (Q₁:=fun obj s₁=>s₁.TypeIs obj "bytes"∧Q obj s₁) F.bm_called (F.bm_typeCall _) F.entry_object_init ?_ fun obj s₁ h₁ =>
    ⟨h₁.1,F.args_object_init_2 obj _,object_init_meets F.bm_called.init.lookup F.bm_called.made (by decide) prog w A.in1 _ s₁ ⟨h₁.1,rfl,h₁.2⟩⟩
  refine codeAny_of_tree ?_
  show wpAny _ A.in1.in1 (do checkBuiltinCall "bytes.__new__" ⟨[.type "bytes",.ref a],[]⟩; again (.builtin "bytes.__new__" ⟨[.type "bytes",.ref a],[]⟩)) _ _ s
  refine wpAny_bind (wpAny_of_eq (F.bm_newCall _) (wpAny_pure ⟨plainId_quiet F.bm_plain _,codeAny_builtin F.bm_entry ?_⟩))
  rw [Around.under_plainId F.bm_plain _]
  have hT:s.TypeIs (.ref a) "bytearray":=⟨_,ha,rfl⟩
  unfold Builtin.«bytes.__new__»
  refine wpAny_bind (wpAny_of_eq (a:=true) rfl ?_)
  refine bm_if_false rfl ?_
  refine wpAny_bind (wpAny_of_eq F.bm_sub ?_)
  refine bm_if_false rfl ?_
  refine wpAny_bind (wpAny_of_eq (F.bm_bind _) ?_)
  refine wpAny_bind (wpAny_of_eq (a:=()) rfl ?_)
  refine wpAny_bind (wpAny_of_eq (a:=()) rfl ?_)
  refine bm_if_false rfl ?_
  refine wpAny_bind (wpAny_specialOf hT BA.no_bytes ?_)
  refine wpAny_bind (wpAny_bind ?_)
  show wpAny _ _ (load a >>= _) _ _ _
  refine wpAny_bind (wpAny_load ha ?_)
  refine wpAny_pure (wpAny_pure ?_)
  refine bm_if_false rfl ?_
  refine wpAny_bind (wpAny_specialOf hT BA.noIdx ?_)
  refine bm_if_true rfl ?_
  refine wpAny_bind ?_
  show wpAny _ _ (Builtin.Bytes.buffer? "bytes.__new__" (.ref a) true) _ _ _
  unfold Builtin.Bytes.buffer?
  refine wpAny_bind (wpAny_specialOf hT BA.buffer ?_)
  try dsimp only
  refine wpAny_bind ?_
  unfold Builtin.Bytes.slotIsOwn
  refine wpAny_bind (wpAny_specialOf hT BA.buffer ?_)
  try dsimp only
  refine bm_if_false (by decide +kernel) ?_
  have e1:("bytearray.__buffer__".dropRight ("__buffer__".length + 1))="bytearray":=by decide +kernel
  rw [e1]
  refine wpAny_isInstance (b:=true) hT BA.sub ?_
  refine bm_if_false rfl ?_
  refine wpAny_bind (wpAny_specialOf hT BA.buffer ?_)
  try dsimp only
  unfold Builtin.Bytes.ownRelease Builtin.Bytes.slotIsOwn
  refine wpAny_bind (wpAny_bind (wpAny_bind (wpAny_specialOf hT BA.no_release ?_)))
  try dsimp only
  refine bm_if_false (by decide +kernel) ?_
  have e2:("bytearray.__release_buffer__".dropRight ("__release_buffer__".length + 1))="bytearray":=by decide +kernel
  rw [e2]
  refine wpAny_isInstance (b:=true) hT BA.sub (wpAny_pure ?_)
  refine bm_if_false rfl ?_
  refine wpAny_bind ?_
  unfold Builtin.Bytes.payload Builtin.Bytes.payload?
  refine wpAny_bind (wpAny_bind (wpAny_load ha (wpAny_pure (wpAny_pure (wpAny_pure ?_)))))
  dsimp only
  refine wpAny_bind (wpAny_rule ?_)
  refine wpAny_bind (wpAny_mkBytes ?_ hz)
  show wpAny _ _ (if (Value.type "bytes" == Value.type "bytes")=true then _ else _) _ _ _
  refine bm_if_true (by decide) ?_
  first
    | exact wpAny_pure ⟨PySem.W.typeIs_bytes _ _ _,h⟩
    | exact wpAny_bind (wpAny_pure (wpAny_pure ⟨PySem.W.typeIs_bytes _ _ _,h⟩))
end
end Mine
namespace Mine
section
variable {prog:Program} {w:World} {W:Wd} {k:Nat} {sc:Scope} {fn:Bool} {Γ:Ctx'}
theorem ex1C_newbyt {y:Str} {pos pos' p cpos:Pos} {nm:Str} {e:Expr} {n:Nat} (hB:BName W sc nm (.type "bytearray")) (he:EvL prog w W k sc fn Γ [e] [.dat (.int (n:Int))]) (hn:n≤sizeLine)
    (hk:sc.names.lookup y=some .local ∨ (sc.names.lookup y=some .cell∧fn=true)) (hs:∀ env,(starEach [e] env).any (·.1)=false:=by intro _; rfl)
    (hsw:∀ env,swapsWith (.Call (.Name nm p) [e] [] cpos) (some (.Name y pos')) pos.line env=pure false:=by intro _; rfl) :
    Ex1C prog w W k sc fn Γ (.Assign [.Name y pos'] (.Call (.Name nm p) [e] [] cpos) pos) (.next ((y,.byt (Array.replicate n 0)) :: Γ)):=fun fr P s F hsc st A Q E rm q=>by
  refine wpC_Assign_Name ?_ (hsw _)
  have e1:eval (.Call (.Name nm p) [e] [] cpos) fr.env=(do callWith cpos (← eval (.Name nm p) fr.env) [] (backTo cpos (starEach [e] fr.env)) []):=rfl
  rw [e1]
  refine wpC_bindA (name_builtin st (hsc ▸ hB.kind) hB.glob hB.boot hB.nn ?_ hB.nd)
  refine callWithC_type (plain_args (hs _)) (wpC_of ?_)
  refine evalArgs_of he hsc st rm hs fun vs s₁ F₁ g₁ hv=>?_
  have st₁:=st.step g₁
  cases hv with
  | cons h1 hr =>
    cases hr
    cases h1 with
    | int ht =>
      refine ba_call hn fun h' hsame hget=>?_
      have hlt:∀ a o,s₁.heap.get? a=some o→h'.get? a=some o:=fun a o ha=>by
        rw [hsame.2 a (Nat.ne_of_lt (Heap.lt_size ha))]
        exact Heap.get?_push_of_some _ ha
      have g₂:Grow W s₁ { s₁ with heap:=h' } F₁ F₁:=Grow.of_keeps [] st₁.base hlt (fun _ h=>nomatch h) (by
        show s₁.heap.objs.size≤h'.objs.size
        rw [hsame.1,Heap.size_push]; omega) (Nat.le_refl _) rfl .rfl
      have st₂:=st₁.step g₂
      refine wpC_of (st₂.store (b:=.byt (Array.replicate n 0)) ⟨_,_,rfl,hget,?_⟩ (by rw [← hsc] at hk; exact hk) (fun z bz a hz h1 h2 _ h4 e=>?_) fun s' st'=>q _ s' F₁ ⟨rfl,st'⟩ g₁.sub)
      · have:=st₁.new
        exact ⟨this.new,this.loc,this.cel,this.prv,this.frz⟩
      · cases e
        obtain ⟨u,w1,_⟩:=st₁.vars z bz h1
        have hv:VarAt h' fr.env z u:=w1.keeps (fun m h=>Ns.off (W:=W) h st₁.tabL g₂.keep) fun c v hc hv=>IsCell.off (W:=W) hv (st₁.cell _ _ hc).2.2.2.2.1 g₂.keep
        cases hv.unique h4
        exact Nat.lt_irrefl _ (st₁.new_apart h1 h2 w1)
end
end Mine
namespace Mine
section
variable {prog:Program} {w:World} {W:Wd} {k:Nat} {sc:Scope} {fn:Bool} {Γ:Ctx'}
theorem own_byt {fr:Frm} {P:Led} {s:Shared} {F:Fz} {y:Str} {b:Array UInt8} (st:St prog w W fr fn Γ P s F) (hy:Γ.lookup y=some (.byt b)):∃ a n,VarAt s.heap fr.env y (.ref a)∧s.heap.get? a=some (byteObj b n)∧Priv fr P F a:=by
  obtain ⟨v,hv,a,n,rfl,h,hp⟩:=st.vars y _ hy
  exact ⟨a,n,hv,h,hp⟩
theorem ex1_setbyt {y:Str} {p spos pos:Pos} {i e:Expr} {b:Array UInt8} {j c:Nat} (hy:Γ.lookup y=some (.byt b)) (he:Ev prog w W k sc fn Γ e (.dat (.int (c:Int)))) (hi:Ev prog w W k sc fn Γ i (.dat (.int (j:Int)))) (hj:j < b.size) (hz:b.size≤sizeLine) (hc:c < 256)
    (hs:∀ env,swapsWith e (some (.Subscript (.Name y p) i spos)) pos.line env=pure false:=by intro _; rfl)
    (hd:(y == ("__debug__":Str))=false:=by decide) (hn:(y == ("__classdict__":Str))=false:=by decide) :
    Ex1 prog w W k sc fn Γ (.Assign [.Subscript (.Name y p) i spos] e pos) (.next ((y,.byt (b.setIfInBounds j c.toUInt8)) :: Γ)):=fun fr P s F hsc st A Q E rm q =>
  wpAny_Assign_Subscript (he fr P s F hsc st A _ E rm fun u s₁ F₁ g₁ hu=>by
    have st₁:=st.step g₁
    obtain ⟨a,n,hv,_⟩:=own_byt st₁ hy
    refine ev_load st₁ hv ?_ hd hn
    refine hi fr P s₁ F₁ hsc st₁ A _ E rm fun iv s₂ F₂ g₂ hiv=>?_
    have st₂:=st₁.step g₂
    obtain ⟨a',n',hv',hD,hp⟩:=own_byt st₂ hy
    cases (hv.step st₁ g₂).unique hv'
    cases hiv
    cases hu
    refine ba_setItem hD hj hz hc (fun h' hs' hD'=>?_)
    exact q _ _ F₂ ⟨rfl,st₂.turn hy rfl hv' hp hs' (Nat.le_refl s₂.toks) ⟨_,_,rfl,hD',hp⟩⟩ (g₁.sub.trans g₂.sub)) (hs _)
theorem ev_bytes_own {y nm:Str} {q₁ p pos:Pos} {b:Array UInt8} (hB:BName W sc nm (.type "bytes")) (hy:Γ.lookup y=some (.byt b)) (hz:b.size≤sizeLine)
    (hs:∀ env,starEach [.Name y q₁] env=[(false,eval (.Name y q₁) env)]:=by intro _; rfl)
    (hd:(y == ("__debug__":Str))=false:=by decide) (hn:(y == ("__classdict__":Str))=false:=by decide) :
    Ev prog w W k sc fn Γ (.Call (.Name nm p) [.Name y q₁] [] pos) (.dat (.bytes b)):=fun fr P s F hsc st A Q E rm q=>by
  have e1:eval (.Call (.Name nm p) [.Name y q₁] [] pos) fr.env=(do callWith pos (← eval (.Name nm p) fr.env) [] (backTo pos (starEach [.Name y q₁] fr.env)) []):=rfl
  rw [e1]
  refine wpAny_bind (name_builtin st (hsc ▸ hB.kind) hB.glob hB.boot hB.nn ?_ hB.nd)
  have hs':∀ env,(starEach [Expr.Name y q₁] env).any (·.1)=false:=fun env=>by rw [hs]; rfl
  refine PyProof.Rows.callWith_type (plain_args (hs' _)) ?_
  have hp':(backTo pos (starEach [Expr.Name y q₁] fr.env)).any (·.1)=false:=plain_args (hs' _)
  rw [hs]
  obtain ⟨a,n,hv,hD,hp⟩:=own_byt st hy
  refine evalArgs_plain (spliced_cons (ev_load st hv ?_ hd hn))
  refine spliced_nil ?_
  refine ba_bytes hD hz ?_
  exact q _ _ _ (Grow.more st.base (Nat.le_succ _)) .bytes
end
end Mine
namespace Mine
section
variable {prog:Program} {w:World} {W:Wd} {k:Nat} {sc:Scope} {fn:Bool} {Γ:Ctx'}
theorem stepFrom_mul (c:Nat):∀ (m a:Nat),stepFrom (a:Int) (c:Int) m=(List.range m).map fun i=>((a + i * c:Nat):Int)
  | 0,_=>rfl
  | m + 1,a=>by
    rw [stepFrom,show ((a:Int) + (c:Int))=((a + c:Nat):Int) by omega,stepFrom_mul c m (a + c),List.range_succ_eq_map,List.map_cons,List.map_map]
    congr 1
    · simp
    · apply List.map_congr_left
      intro i _
      show (((a + c) + i * c:Nat):Int)=((a + (i + 1) * c:Nat):Int)
      rw [Nat.add_mul,Nat.one_mul]
      omega
theorem rangeSize_mul {m c:Nat} (hc:0 < c):Builtin.Range.rangeSize 0 ((m * c:Nat):Int) (c:Int)=(m:Int):=by
  rw [rangeSize_pos (by omega) (by omega)]
  have:((m * c:Nat):Int) + (c:Int) - 1=((c - 1:Nat):Int) + (m:Int) * (c:Int):=by
    rw [Int.natCast_mul]; omega
  rw [this,Int.add_mul_ediv_right _ _ (by omega),Int.ediv_eq_zero_of_lt (by omega) (by omega),Int.zero_add]
theorem eit_range3 {tgt e0 e1 e2:Expr} {y:Str} {p pos:Pos} {m c:Nat} (hB:BName W sc y (.type "range"))
    (hl:EvL prog w W k sc fn Γ [e0,e1,e2] [.dat (.int 0),.dat (.int ((m * c:Nat):Int)),.dat (.int (c:Int))]) (ht:nameTgt tgt=true) (hc:0 < c) (hc2:c≤1000000) (hm:m * c≤1000000)
    (hs:∀ env,(starEach [e0,e1,e2] env).any (·.1)=false:=by intro _; rfl) :
    EvIter prog w W k sc fn Γ tgt (.Call (.Name y p) [e0,e1,e2] [] pos) ((List.range m).map fun i=>V.dat (.int ((i * c:Nat):Int))):=fun fr P s F hsc st A Q E rm q=>by
  refine builtin_ctx hB.kind hB.glob hB.boot hB.nn hB.call hl hs hB.nd hsc st rm fun vs s₁ F₁ g₁ hv=>?_
  cases hv with
  | cons h1 hr =>
    cases hr with
    | cons h2 hr =>
      cases hr with
      | cons h3 hr =>
      cases hr
      cases h1 with
      | int hm0 =>
        cases h2 with
        | int hm1 =>
          cases h3 with
          | int hm2 =>
          rename_i t₀ t₁ t₂
          have b:=(st.step g₁).base
          refine call_range_3 (by omega) ?_ (Or.inl (PyProof.noPylong_small (by omega)))
          have g₂:=Grow.pushed b { cls:=.type "range",data:=.fields #[.int 0 t₀,.int ((m * c:Nat):Int) t₁,.int (c:Int) t₂] } (t:=s₁.toks) (by omega)
          refine iterFrom_range ht (b.grow g₂) (IsRange.new _ _ _ _ _ _ _) ?_ (rangeSize_mul hc) rm fun it s' F' N g₃ hN hI hS=>?_
          · unfold Builtin.Range.small
            rw [rangeSize_mul hc]
            have hmc:m≤m * c:=Nat.le_mul_of_pos_right m hc
            simp only [Builtin.Range.rangeFitsLong,Bool.and_eq_true,Bool.or_eq_true,decide_eq_true_eq,beq_iff_eq,show ((c:Int) > 0) by omega,if_true]
            generalize m * c=mc at *
            omega
          · have e:stepFrom 0 (c:Int) m=(List.range m).map fun i=>((i * c:Nat):Int):=by
              have:=stepFrom_mul c m 0
              simpa using this
            rw [e,List.map_map] at hI
            exact q it s' F' N ((g₁.trans g₂).trans g₃) (Held.more hN (g₁.trans g₂).size) hI hS
end
end Mine
namespace Mine
variable {w:World} {W:Wd} {k:Nat}
def swIn (x b:Array UInt8) (c i:Nat) (l:List Nat):Array UInt8:=l.foldl (fun b j=>b.setIfInBounds (i * c + c - 1 - j) (x.getD (i * c + j) 0)) b
def swOut (x b:Array UInt8) (c:Nat) (l:List Nat):Array UInt8:=l.foldl (fun b i=>swIn x b c i (List.range c)) b
def swapOf (x:Array UInt8) (c:Nat):Array UInt8:=swOut x (Array.replicate x.size 0) c (List.range (x.size / c))
theorem swIn_size (x:Array UInt8) (c i:Nat):∀ (l:List Nat) (b:Array UInt8),(swIn x b c i l).size=b.size
  | [],b=>rfl
  | j :: l,b=>by rw [swIn,List.foldl_cons]; exact (swIn_size x c i l _).trans Array.size_setIfInBounds
theorem swOut_size (x:Array UInt8) (c:Nat):∀ (l:List Nat) (b:Array UInt8),(swOut x b c l).size=b.size
  | [],b=>rfl
  | i :: l,b=>by rw [swOut,List.foldl_cons]; exact (swOut_size x c l _).trans (swIn_size x c i _ b)
theorem sp_byteswap (ok:Wok W) {x:Array UInt8} {m c:Nat} (hx:x.size=m * c) (hc:0 < c) (hz:m * c≤100000) (hc2:c≤100000) :
    SpecC w W (k + 1) 1 [.dat (.bytes x),.dat (.int (c:Int))] (.dat (.bytes (swapOf x c))):=by
  have hz2:sizeLine=16777216:=rfl
  refine spC_of ["data","width"] (fun pm code doc vs h=>by match vs,h with | [a,b],_=>rfl) (by decide) (by decide) rfl ?_
  have hlen:∀ {Γ:Ctx'},List.lookup ("data":Str) Γ=some (.val (.dat (.bytes x)))→∀ {p q r},Ev pw w W k (dRec 1).scope true Γ (.Call (.Name "len" p) [.Name "data" q] [] r) (.dat (.int ((m * c:Nat):Int))):=fun h=>by
    intro p q r
    rw [← hx]
    exact ev_b (bname ok (by decide) rfl (by decide +kernel)) (evl_cons (ev_name h) evl_nil) (c_len_bytes (by omega))
  refine exC_seqC (ex1C_newbyt (n:=m * c) (bname ok (by decide) rfl (by decide +kernel)) (evl_cons (hlen rfl) evl_nil) (by omega) (.inl rfl)) (exC_of ?_)
  let bs:Nat→Array UInt8:=fun i=>swOut x (Array.replicate (m * c) 0) c (List.range i)
  have bsz:∀ i,(bs i).size=m * c:=fun i=>(swOut_size _ _ _ _).trans Array.size_replicate
  let Γs:Nat→Ctx':=fun i=>[("swapped_data",.byt (bs i)),("data",.val (.dat (.bytes x))),("width",.val (.dat (.int (c:Int))))]
  refine ex_seq (for_loop (Γs:=Γs) (n:=m) (eit_range3 (m:=m) (c:=c) (bname ok (by decide) rfl (by decide +kernel)) (evl_cons ev_int (evl_cons (hlen rfl) (evl_cons (ev_name rfl) evl_nil))) rfl hc (by omega) (by omega)) (Sub.cons rfl (.cons rfl (.cons rfl .nil))).go ?_ (.inl ⟨by simp,rfl⟩)) ?_
  · intro i v hi hv
    rw [List.getElem?_map,List.getElem?_range hi] at hv
    cases hv
    refine ⟨_,asg_name (.inl rfl),?_⟩
    let ib:Nat→Array UInt8:=fun j=>swIn x (bs i) c i (List.range j)
    have isz:∀ j,(ib j).size=m * c:=fun j=>(swIn_size _ _ _ _ _).trans (bsz i)
    let Γi:Nat→Ctx':=fun j=>[("i",.val (.dat (.int ((i * c:Nat):Int)))),("swapped_data",.byt (ib j)),("data",.val (.dat (.bytes x))),("width",.val (.dat (.int (c:Int))))]
    refine ex_to (ex_seq (for_loop (Γs:=Γi) (n:=c) (eit_rangeN (n:=c) (bname ok (by decide) rfl (by decide +kernel)) (ev_name rfl) rfl (by omega)) (Sub.cons rfl (.cons rfl (.cons rfl (.cons rfl .nil)))).go ?_ (.inl ⟨by simp,rfl⟩)) ex_nil) (.cons ?_ (.cons rfl (.cons rfl .nil)))
    · intro j v hj hv
      rw [List.getElem?_map,List.getElem?_range hj] at hv
      cases hv
      refine ⟨_,asg_name (.inl rfl),?_⟩
      have hb:i * c + c≤m * c:=by
        have:=Nat.mul_le_mul_right c (Nat.succ_le_of_lt hi)
        rw [Nat.succ_mul] at this; exact this
      refine ex_to (ex_seq (ex1_setbyt (b:=ib j) (j:=i * c + c - 1 - j) (c:=(x.getD (i * c + j) 0).toNat) rfl ?_ ?_ (by rw [isz]; omega) (by rw [isz]; omega) (UInt8.toNat_lt _)) ex_nil) (.cons rfl (.cons ?_ (.cons rfl (.cons rfl .nil))))
      · have hlt:i * c + j < x.size:=by omega
        have e:(((x.getD (i * c + j) 0).toNat:Nat):Int)=((x[i * c + j].toNat:Nat):Int):=by
          rw [Array.getD_eq_getD_getElem?,Array.getElem?_eq_getElem hlt]; rfl
        rw [e]
        exact ev_sub (ev_name rfl) (ev_bin (ev_name rfl) (ev_name rfl) bin_add) (get_bytes (by omega) (by rw [show (((i * c:Nat):Int) + (j:Int)).toNat=i * c + j by omega]; exact Array.getElem?_eq_getElem hlt) (by omega))
      · have e:((i * c + c - 1 - j:Nat):Int)=((i * c:Nat):Int) + (c:Int) - 1 - (j:Int):=by omega
        rw [e]
        exact ev_bin (ev_bin (ev_bin (ev_name rfl) (ev_name rfl) bin_add) ev_int bin_sub) (ev_name rfl) bin_sub
      · show some _=some _
        have:ib (j + 1)=(ib j).setIfInBounds (i * c + c - 1 - j) (x.getD (i * c + j) 0):=by
          show List.foldl _ _ (List.range (j + 1))=_
          rw [List.range_succ,List.foldl_append]; rfl
        rw [this]
        congr 2
        simp
    · show some _=some _
      have:bs (i + 1)=ib c:=by
        show List.foldl _ _ (List.range (i + 1))=_
        rw [List.range_succ,List.foldl_append]; rfl
      rw [this]
  · refine ex_stop (ex1_return ?_)
    have:swapOf x c=bs m:=by
      show swOut x (Array.replicate x.size 0) c (List.range (x.size / c))=swOut x (Array.replicate (m * c) 0) c (List.range m)
      rw [hx,Nat.mul_div_cancel m hc]
    rw [this]
    exact ev_bytes_own (bname ok (by decide) rfl (by decide +kernel)) rfl (by rw [bsz]; omega)
end Mine
namespace Mine
section
variable {M:Model} {A:Around} {E:Value→Shared→Prop} {s:Shared}
theorem spliced1C {x:Sem Value} {Q:List Value→Shared→Prop} (h:wpC M A x (fun v s₁=>Q [v] s₁) E s):wpC M A (spliced [(false,x)]) Q E s:=by
  rw [spliced]
  refine wpC_bind (wpC_mono h (fun v s₁ h₁=>?_) fun _ _ x=>x)
  simp only [Bool.false_eq_true,if_false]
  exact wpC_of (wpAny_bind (wpAny_pure (wpAny_bind (wpAny_holding (spliced_nil (wpAny_pure h₁))))))
theorem evalArgs1C {f:Value} {x:Sem Value} {Q:Args→Shared→Prop} (h:wpC M A x (fun v s₁=>Q ⟨[v],[]⟩ s₁) E s):wpC M A (evalArgs f true [(false,x)] []) Q E s:=by
  unfold evalArgs
  show wpC M A (spliced [(false,x)] >>= _) Q E s
  refine wpC_bind (spliced1C (wpC_mono h (fun v s' h'=>?_) fun _ _ x=>x))
  exact wpC_of (wpAny_holding (wpAny_bind (wpAny_pure (wpAny_bind (wpAny_pure (wpAny_pure h'))))))
end
section
variable {prog:Program} {w:World} {W:Wd} {k:Nat} {sc:Scope} {fn:Bool} {Γ:Ctx'}
theorem evC_type1 {nm:Str} {T:String} {e:Expr} {p pos:Pos} {x r:V} (hB:BName W sc nm (.type T)) (he:EvC prog w W k sc fn Γ e x) (hc:Calls prog w W k (.type T) [x] r)
    (hs:∀ env,starEach [e] env=[(false,eval e env)]:=by intro _; rfl):EvC prog w W k sc fn Γ (.Call (.Name nm p) [e] [] pos) r:=fun fr P s F hsc st A Q E rm q=>by
  have e1:eval (.Call (.Name nm p) [e] [] pos) fr.env=(do callWith pos (← eval (.Name nm p) fr.env) [] (backTo pos (starEach [e] fr.env)) []):=rfl
  rw [e1]
  refine wpC_bindA (name_builtin st (hsc ▸ hB.kind) hB.glob hB.boot hB.nn ?_ hB.nd)
  have hs':∀ env,(starEach [e] env).any (·.1)=false:=fun env=>by rw [hs]; rfl
  refine callWithC_type (plain_args (hs' _)) ?_
  rw [hs]
  refine evalArgs1C (he fr P s F hsc st A _ E rm fun u s₁ F₁ g₁ hu=>?_)
  exact wpC_of (hc s₁ F₁ [u] (st.step g₁).base (.cons hu .nil) A Q E rm fun z s₂ F₂ g₂ hz=>q z s₂ F₂ (g₁.trans g₂) hz)
end
end Mine
namespace Mine
section
variable {prog:Program} {w:World} {W:Wd} {k:Nat} {sc:Scope} {fn:Bool} {Γ:Ctx'}
theorem ex1_assignSw {y z:Str} {p1 p2 tpos pos:Pos} {x1:Nat} {value:Expr} {d e:Dat} (hv:Ev prog w W k sc fn Γ value (.dat (.tuple [d,e])))
    (hy:sc.names.lookup y=some .local ∨ (sc.names.lookup y=some .cell∧fn=true)) (hz:sc.names.lookup z=some .local ∨ (sc.names.lookup z=some .cell∧fn=true))
    (hs:∀ env,env.scope=sc→swapsWithSole [.Tuple [.Name y p1,.Name z p2] x1 tpos] value pos.line env=pure false:=by intro _ _; rfl)
    (hw:∀ env,env.scope=sc→swappedStores [.Tuple [.Name y p1,.Name z p2] x1 tpos] value env=pure (some [y,z])) :
    Ex1 prog w W k sc fn Γ (.Assign [.Tuple [.Name y p1,.Name z p2] x1 tpos] value pos) (.next ((y,.val (.dat d)) :: (z,.val (.dat e)) :: Γ)):=fun fr P s F hsc st A Q E rm q =>
  Assign_Tuple_swapped (names:=[y,z]) (hv fr P s F hsc st A _ E rm fun v s₁ F₁ g₁ hv₁=>by
    have st₁:=st.step g₁
    refine unpack2 st₁.base rm hv₁ fun u t s' g h1 h2=>?_
    show wpAny _ A (assignInOrder [bindName fr.env z,bindName fr.env y] [t,u]) _ E s'
    unfold assignInOrder
    refine wpAny_bind (wpAny_holding (bindName_ ?_))
    refine (st₁.step g).storeV (d:=.dat e) h2 (by rw [← hsc] at hz; exact hz) fun s₂ st₂=>?_
    unfold assignInOrder
    refine wpAny_bind (wpAny_holding (bindName_ (st₂.storeV (d:=.dat d) h1 (by rw [← hsc] at hy; exact hy) fun s₃ st₃=>?_)))
    unfold assignInOrder
    exact wpAny_pure (q _ s₃ F₁ ⟨rfl,st₃⟩ g₁.sub)) (hs _ hsc) (hw _ hsc)
end
end Mine
namespace Mine
def blV (x:Array UInt8) (t0 i:Nat):List Value:=(List.range i).map fun j=>Value.int ((x.getD j 0).toNat:Int) (t0 + j)
theorem blV_succ (x:Array UInt8) (t0 i:Nat):(blV x t0 i).toArray.push (.int ((x.getD i 0).toNat:Int) (t0 + i))=(blV x t0 (i + 1)).toArray:=by
  unfold blV; rw [List.range_succ,List.map_append]; simp
theorem blV_len (x:Array UInt8) (t0 i:Nat):(blV x t0 i).length=i:=by simp [blV]
section
variable {prog:Program} {w:World} {A:Around} {E:Value→Shared→Prop} {s:Shared}
theorem push_seq (arr:Array Value) (v:Value) (c:Nat):∃ c',Obj.mapSeq (·.push v) (W.listOf arr c)=W.listOf (arr.push v) c':=⟨_,rfl⟩
theorem bl_loop {R:Result→Shared→Prop} {I S:Addr} {x:Array UInt8} {t t0:Nat} (hh:A.handled=none) (hIS:I≠S) (hz:x.size≤sizeLine) :
    ∀ (k i:Nat) (s:Shared),x.size - i=k→i≤x.size→KBw.IsBytesIter s.heap I x t i→(∃ c,s.heap.get? S=some (listOf (blV x t0 i).toArray c))→s.toks=t0 + i →
      (∀ h' c',(∀ b o,b≠I→b≠S→s.heap.get? b=some o→h'.get? b=some o)→s.heap.objs.size≤h'.objs.size→h'.get? S=some (listOf (blV x t0 x.size).toArray c')→R (.ok (.ret .none)) { s with heap:=h',toks:=t0 + x.size }) →
      codeAny (model prog w) A (.builtin "list.extend.loop" ⟨[.ref S,.ref I,.none],[]⟩) R s:=by
  intro k
  induction k with
  | zero =>
    intro i s hk hle hit ⟨c,hS⟩ ht hR
    have hin:i=x.size:=by omega
    subst hin
    refine codeAny_builtin F.entry_extend_loop ?_
    rw [Around.under_plainId F.plain_extend_loop _]
    show wpAny _ A.in1 (pyNext (.ref I) >>= _) _ _ s
    refine wpAny_bind (any_hz (KBw.next_end (A:=A.in1) hh hit (by simp) fun h' he h1 h2=>?_))
    have e:({ s with heap:=h' }:Shared)={ s with heap:=h',toks:=t0 + x.size }:=by rw [← ht]
    rw [e]
    exact wpAny_pure (hR h' c (fun b o hb _ e=>he b o hb e) h1 (he S _ (Ne.symm hIS) hS))
  | succ k ih =>
    intro i s hk hle hit ⟨c,hS⟩ ht hR
    have hlt:i < x.size:=by omega
    refine codeAny_builtin F.entry_extend_loop ?_
    rw [Around.under_plainId F.plain_extend_loop _]
    show wpAny _ A.in1 (pyNext (.ref I) >>= _) _ _ s
    refine wpAny_bind (KBw.next_item hit (Array.getElem?_eq_getElem hlt) fun h' hit' hs=>?_)
    have hS':=(hs.2 S (Ne.symm hIS)).trans hS
    show wpAny _ A.in1 (updateSeq S (·.push (.int (x[i].toNat:Int) s.toks)) >>= _) _ _ _
    refine wpAny_bind ?_
    have eg:x[i]=x.getD i 0:=by rw [Array.getD_eq_getD_getElem?,Array.getElem?_eq_getElem hlt]; rfl
    refine wpAny_updateSeq (s:={ s with heap:=h',toks:=s.toks + 1 }) hS' rfl (wpAny_pure ⟨plainId_quiet F.plain_extend_loop _,ih (i + 1) _ (by omega) hlt ?_ ?_ (by show s.toks + 1=_; omega) fun h'' c' hk3 hz3 hS3=>?_⟩)
      ?_ ?_
    · obtain ⟨o,i1,i2,i3⟩:=hit'
      exact ⟨o,(Heap.get?_update_other _ _ (Ne.symm hIS)).trans i1,i2,i3⟩
    · obtain ⟨c₂,hc₂⟩:=push_seq (blV x t0 i).toArray (Value.int (x[i].toNat:Int) s.toks) c
      refine ⟨c₂,(Heap.get?_update_self (Obj.mapSeq (·.push (Value.int (x[i].toNat:Int) s.toks))) hS' rfl).trans ?_⟩
      rw [hc₂,eg,ht,blV_succ]
    · have e:({ s with heap:=h'',toks:=t0 + x.size }:Shared)={ { s with heap:=h'.update S (Obj.mapSeq (·.push (Value.int (x[i].toNat:Int) s.toks))),toks:=s.toks + 1 } with heap:=h'',toks:=t0 + x.size }:=rfl
      refine hR h'' c' (fun b o hbI hbS e=>hk3 b o hbI hbS ((Heap.get?_update_other _ _ (Ne.symm hbS)).trans ((hs.2 b hbI).trans e))) ?_ hS3
      have h1:h'.objs.size=s.heap.objs.size:=hs.1
      have h2:(h'.update S (Obj.mapSeq (·.push (Value.int (x[i].toNat:Int) s.toks)))).objs.size=h'.objs.size:=(Heap.SameBut.update ..).1
      have:(h'.update S (Obj.mapSeq (·.push (Value.int (x[i].toNat:Int) s.toks)))).objs.size≤h''.objs.size:=hz3
      omega
    · show (blV x t0 i).toArray.size≤_
      rw [List.size_toArray,blV_len]; omega
    · show ((blV x t0 i).toArray.push _).size≤_
      rw [Array.size_push,List.size_toArray,blV_len]; omega
end
end Mine
namespace Mine
section
variable {prog:Program} {w:World} {A:Around} {E:Value→Shared→Prop} {s:Shared}
theorem bl_len:typeLookup (.type "bytes") "__len__"=pure (some (.builtin "bytes.__len__")):=by rw [typeLookup_type,builtinLookup_eq_fast]; kernel_rfl
theorem bl_split:splitId "bytes.__len__"=some ("bytes","__len__"):=by decide +kernel
theorem call_list_bytes {x:Array UInt8} {t:Nat} {Q:Value→Shared→Prop} (hh:A.handled=none) (hz:x.size≤sizeLine)
    (hQ:∀ h' c',(∀ b o,s.heap.get? b=some o→h'.get? b=some o)→s.heap.objs.size≤h'.objs.size→h'.get? s.heap.objs.size=some (W.listOf (blV x s.toks x.size).toArray c')→Q (.ref s.heap.objs.size) { s with heap:=h',toks:=s.toks + x.size }) :
    wpAny (model prog w) A (call (.type "list") [.bytes x t]) Q E s:=by
  refine callType_codes (Q₁:=fun obj s₁=>obj=.ref s.heap.objs.size∧s₁={ s with heap:=s.heap.push { cls:=.type "list",data:=.seq #[] } }) F.called_list (F.typeCall_list_1 _) F.entry_list_init
    (code_list_new _ ⟨rfl,rfl⟩) fun obj s₁ h₁=>?_
  obtain ⟨rfl,rfl⟩:=h₁
  have hS:(s.heap.push { cls:=.type "list",data:=.seq #[] }).get? s.heap.objs.size=some { cls:=.type "list",data:=.seq #[] }:=Heap.get?_push_size _ rfl
  refine ⟨⟨_,hS,rfl⟩,F.args_list_init_2 _ _,?_⟩
  show wpAny _ A.in1.in1 (do let old ← Builtin.List.listItems (.ref s.heap.objs.size); Builtin.List.listUpdate (.ref s.heap.objs.size) (fun _=>#[]); letGo old.toList.reverse; Builtin.List.listExtendWith (.ref s.heap.objs.size) (.bytes x t) .none) _ _ _
  refine wpAny_bind ?_
  unfold Builtin.List.listItems
  refine wpAny_bind (wpAny_seqItems hS rfl (wpAny_pure ?_))
  show wpAny _ A.in1.in1 (updateSeq s.heap.objs.size (fun _=>#[]) >>= fun _=>letGo (#[]:Array Value).toList.reverse >>= fun _=>Builtin.List.listExtendWith (.ref s.heap.objs.size) (.bytes x t) .none) _ _ _
  refine wpAny_bind (wpAny_updateSeq hS rfl ?_)
  have hS₂:=Heap.get?_update_self (Obj.mapSeq (fun _=>(#[]:Array Value))) hS rfl
  refine wpAny_bind (wpAny_letGo ?_)
  unfold Builtin.List.listExtendWith
  refine wpAny_bind (wpAny_typeOf (typeIs_bytes _ _ _) ?_)
  have h1:Builtin.List.listSameRef (.ref s.heap.objs.size) (.bytes x t)=false:=rfl
  have h2:(Value.type "bytes" == Value.type "list")=false:=by decide
  have h3:(Value.type "bytes" == Value.type "tuple")=false:=by decide
  simp only [h1,h2,h3,Bool.or_false,Bool.false_eq_true,if_false]
  refine wpAny_bind (KBw.pyIter_bytes ?_)
  refine wpAny_bind (wpAny_holding ?_)
  unfold Builtin.List.listLengthHint
  refine wpAny_bind (wpAny_specialOf (typeIs_bytes _ _ _) bl_len ?_)
  dsimp only
  rw [bl_split]
  dsimp only
  refine wpAny_bind (wpAny_isInstance (b:=true) (typeIs_bytes _ _ _) F.bm_sub ?_)
  refine bm_if_false rfl ?_
  refine bm_if_true (by decide +kernel) ?_
  refine wpAny_bind (wpAny_typeOf (typeIs_bytes _ _ _) (wpAny_pure ?_))
  refine bm_if_false (by decide +kernel) ?_
  refine wpAny_pure ⟨plainId_quiet F.plain_extend_loop _,?_⟩
  generalize hS₃:(s.heap.push { cls:=.type "list",data:=.seq #[] }).update s.heap.objs.size (Obj.mapSeq fun _=>#[])=hp at *
  have hsz:hp.objs.size=s.heap.objs.size + 1:=by
    rw [← hS₃,(Heap.SameBut.update ..).1,Heap.size_push]
  have keep:∀ b o,s.heap.get? b=some o→hp.get? b=some o:=fun b o e=>by
    rw [← hS₃,Heap.get?_update_other _ _ (Ne.symm (Nat.ne_of_lt (Heap.lt_size e)))]
    exact Heap.get?_push_of_some _ e
  refine bl_loop (A:=A.in1) (I:=hp.objs.size) (S:=s.heap.objs.size) (x:=x) (t:=t) (t0:=s.toks) hh (by rw [hsz]; exact Nat.succ_ne_self _) hz x.size 0 _ rfl (Nat.zero_le _) ⟨_,Heap.get?_push_size _ rfl,rfl,rfl⟩ ⟨_,(Heap.get?_push_of_some _ hS₂)⟩ rfl fun h' c' hk hz3 hS3=>?_
  refine ⟨rfl,hQ h' c' (fun b o e=>hk b o ?_ ?_ (Heap.get?_push_of_some _ (keep b o e))) ?_ hS3⟩
  · rw [hsz]; exact Nat.ne_of_lt (Nat.lt_succ_of_lt (Heap.lt_size e))
  · exact Nat.ne_of_lt (Heap.lt_size e)
  · have:(hp.push { cls:=.type "bytes_iterator",data:=.fields #[.bytes x t,.int 0 0] }).objs.size≤h'.objs.size:=hz3
    rw [Heap.size_push] at this
    omega
end
end Mine
namespace Mine
def Fz.tkl (F:Fz) (t:Nat):List Dat→Fz
  | []=>F
  | d :: r=>Fz.tkl (F.tk t d) (t + 1) r
section
variable {prog:Program} {w:World} {W:Wd} {k:Nat} {s:Shared} {F:Fz}
theorem tkl_le (t:Nat):∀ (ds:List Dat) (F:Fz) (s:Shared),Base W s F→s.toks=t→∃ h:Base W { s with toks:=t + ds.length } (F.tkl t ds),Grow W s { s with toks:=t + ds.length } F (F.tkl t ds):=by
  intro ds
  induction ds generalizing t with
  | nil =>
    intro F s b e
    subst e
    exact ⟨b,Grow.refl b⟩
  | cons d r ih =>
    intro F s b e
    subst e
    have g:=Grow.tk b d
    have b':=b.grow g
    obtain ⟨b2,g2⟩:=ih (s.toks + 1) (F.tk s.toks d) { s with toks:=s.toks + 1 } b' rfl
    have e2:s.toks + 1 + r.length=s.toks + (d :: r).length:=by simp only [List.length_cons]; omega
    rw [e2] at b2 g2
    exact ⟨b2,g.trans g2⟩
theorem le_tkl:∀ (ds:List Dat) (t:Nat) (F:Fz),F.le (F.tkl t ds)
  | [],_,F=>.rfl
  | d :: r,t,F=>(F.le_tk t d).trans (le_tkl r (t + 1) _)
def intsAt (t:Nat):List Int→List Value
  | []=>[]
  | n :: r=>.int n t :: intsAt (t + 1) r
theorem reps_tkl:∀ (ns:List Int) (t:Nat) (F:Fz),Reps (F.tkl t (ns.map Dat.int)) (intsAt t ns) (ns.map Dat.int)
  | [],_,_=>.nil
  | n :: r,t,F=>.cons (Rep.mono (le_tkl (r.map Dat.int) (t + 1) (F.tk t (.int n))) Rep.tk_int) (reps_tkl r (t + 1) (F.tk t (.int n)))
theorem intsAt_range (f:Nat→Int):∀ (n t a:Nat),intsAt t ((List.range' a n).map f)=(List.range' a n).map fun j=>Value.int (f j) (t + (j - a))
  | 0,_,_=>rfl
  | n + 1,t,a=>by
    rw [List.range'_succ,List.map_cons,List.map_cons,intsAt,intsAt_range f n (t + 1) (a + 1),Nat.sub_self,Nat.add_zero]
    congr 1
    apply List.map_congr_left
    intro j hj
    have hj1:a + 1≤j:=(List.mem_range'_1.mp hj).1
    have e:t + 1 + (j - (a + 1))=t + (j - a):=by omega
    show Value.int (f j) (t + 1 + (j - (a + 1)))=Value.int (f j) (t + (j - a))
    rw [e]
def bInts (x:Array UInt8):List Int:=x.toList.map fun c=>((c.toNat:Nat):Int)
theorem bInts_range (x:Array UInt8):bInts x=(List.range x.size).map fun j=>(((x.getD j 0).toNat:Nat):Int):=by
  unfold bInts
  apply List.ext_getElem
  · simp
  · intro i h1 h2
    simp at h1
    simp [h1]
theorem blV_ints (x:Array UInt8) (t:Nat):blV x t x.size=intsAt t (bInts x):=by
  rw [bInts_range,List.range_eq_range',intsAt_range]
  unfold blV
  rw [List.range_eq_range']
  apply List.map_congr_left
  intro j _
  rw [Nat.sub_zero]
theorem bInts_len (x:Array UInt8):(bInts x).length=x.size:=by simp [bInts]
theorem c_list_bytes {prog:Program} {x:Array UInt8} (hz:x.size≤sizeLine):Calls prog w W k (.type "list") [.dat (.bytes x)] (.dat (.list ((bInts x).map Dat.int))):=fun s F vs b hv A Q E rm q=>by
  cases hv with
  | cons h1 hr' =>
    cases hr'
    cases h1 with
    | bytes =>
      refine call_list_bytes rm.handled hz fun h' c' hk hz1 hS=>?_
      have g1:Grow W s { s with heap:=h' } F F:=Grow.of_keeps [] b hk (fun _ h=>nomatch h) hz1 (Nat.le_refl _) rfl .rfl
      obtain ⟨b2,g2⟩:=tkl_le (W:=W) s.toks ((bInts x).map Dat.int) F { s with heap:=h' } (b.grow g1) rfl
      rw [List.length_map,bInts_len] at g2
      rw [blV_ints] at hS
      have g:=g1.trans g2
      exact q _ _ _ (g.freeze (Nat.le_refl _) hS) (.list (.head _) ((reps_tkl _ _ _).mono (Fz.le_ob _ _ _)))
end
end Mine
namespace Mine
def nm (m:Nat):Str:=⟨(((List.range 5).filter fun i=>m.testBit i).map fun i=>97 + i).toArray⟩
def mskOf (p:Nat):List Nat:=if p=0 then [0,1,2,4,8,3,5,9,6,10,12,7,11,13,14,15]
  else [0,1,2,4,8,16,3,5,9,17,6,10,18,12,20,24,7,11,19,13,21,25,14,22,26,28,15,23,27,29,30,31]
def namesOf (p:Nat):List Str:=(mskOf p).map nm
def lettersOf (p:Nat):Str:=if p=0 then "abcd" else "abcde"
def sizesOf (p:Nat):List Int:=if p=0 then [1,4,6,4,1] else [1,5,10,10,5,1]
def srtOf (p:Nat):List Nat:=if p=0 then [0,1,5,11,15,12,6,13,7,2,8,14,9,3,10,4]
  else [0,1,6,16,26,31,27,17,28,18,7,19,29,20,8,21,9,2,10,22,30,23,11,24,12,3,13,25,14,4,15,5]
def textsOf (p:Nat):List Str:=(srtOf p).map fun i=>(namesOf p).getD i Str.empty
theorem sets_names {p:Nat} (hp:p=0 ∨ p=1):runB (fun i j=>ltT ((setsOf (lettersOf p).cps.toList).getD i Str.empty) ((setsOf (lettersOf p).cps.toList).getD j Str.empty)) (setsOf (lettersOf p).cps.toList).length (kas_sort (setsOf (lettersOf p).cps.toList).length)=some (mskOf p).toArray:=by
  rcases hp with rfl | rfl <;> decide +kernel
theorem sets_at {p:Nat} (hp:p=0 ∨ p=1):((mskOf p).toArray.toList.map fun i=>(setsOf (lettersOf p).cps.toList).getD i Str.empty)=namesOf p:=by
  rcases hp with rfl | rfl <;> decide +kernel
theorem sets_in {p:Nat} (hp:p=0 ∨ p=1):∀ i ∈ (mskOf p).toArray.toList,i < (setsOf (lettersOf p).cps.toList).length:=by
  rcases hp with rfl | rfl <;> decide +kernel
theorem texts_run {p:Nat} (hp:p=0 ∨ p=1):runB (fun i j=>ltS ((namesOf p).getD i Str.empty) ((namesOf p).getD j Str.empty)) (namesOf p).length (kas_sort (namesOf p).length)=some (srtOf p).toArray:=by
  rcases hp with rfl | rfl <;> decide +kernel
theorem texts_in {p:Nat} (hp:p=0 ∨ p=1):∀ i ∈ (srtOf p).toArray.toList,i < (namesOf p).length:=by
  rcases hp with rfl | rfl <;> decide +kernel
theorem texts_order {p:Nat} (hp:p=0 ∨ p=1):∀ q ∈ (textsOf p).zip ((textsOf p).drop 1),coll q.1 q.2=-1∧coll q.2 q.1=1∧coll q.1 q.1=0:=by
  rcases hp with rfl | rfl <;> decide +kernel
end Mine
namespace Mine
def TB:Nat→Nat→List (Nat × Nat × Nat × List Nat)
  | 0,0=>[(0,0,15,[])]
  | 0,1=>[(1,1,56,[0]),(2,1,38,[0]),(4,1,21,[0]),(8,1,11,[0])]
  | 0,2=>[(3,3,12,[2,1]),(5,5,10,[4,1]),(9,9,6,[8,1]),(6,6,9,[4,2]),(10,10,5,[8,2]),(12,12,3,[8,4])]
  | 0,3=>[(7,11,1,[6,5,3]),(11,21,1,[10,9,3]),(13,38,1,[12,9,5]),(14,56,1,[12,10,6])]
  | 0,4=>[(15,15,0,[14,13,11,7])]
  | _ + 1,0=>[(0,0,31,[])]
  | _ + 1,1=>[(1,1,960,[0]),(2,1,568,[0]),(4,1,294,[0]),(8,1,149,[0]),(16,1,75,[0])]
  | _ + 1,2=>[(3,3,896,[2,1]),(5,5,608,[4,1]),(9,9,336,[8,1]),(17,17,176,[16,1]),(6,6,524,[4,2]),(10,10,266,[8,2]),(18,18,134,[16,2]),(12,12,73,[8,4]),(20,20,37,[16,4]),(24,24,19,[16,8])]
  | _ + 1,3=>[(7,19,24,[6,5,3]),(11,37,20,[10,9,3]),(19,73,12,[18,17,3]),(13,134,18,[12,9,5]),(21,266,10,[20,17,5]),(25,524,6,[24,17,9]),(14,176,17,[12,10,6]),(22,336,9,[20,18,6]),(26,608,5,[24,18,10]),(28,896,3,[24,20,12])]
  | _ + 1,4=>[(15,75,1,[14,13,11,7]),(23,149,1,[22,21,19,7]),(27,294,1,[26,25,19,11]),(29,568,1,[28,25,21,13]),(30,960,1,[28,26,22,14])]
  | _ + 1,5=>[(31,31,0,[30,29,27,23,15])]
  | _,_=>[]
abbrev Row:=Nat × Nat × Nat × List Nat
def fmOf (p:Nat):Nat:=2 ^ (4 + p) - 1
def stp (kept:Kept) (c:Nat):Option Kept:=(redN kept 64 c).map (keep kept)
def Rk (cs:List Nat):Nat:=match cs.foldlM stp [] with | some k=>k.length | none=>1000
def RF (p j:Nat):Nat:=Rk ((TB p j).map (·.2.1))
def chkA (rf size:Nat):List Row→Kept→List Nat→Nat→Bool
  | [],k,o,n=>(Rk o + rf + n == size + k.length) && decide (k.length < 8) && decide (Rk o < 8)
  | t :: r,k,o,n=>chkA rf size r k (t.2.2.1 :: o) n && (match stp k t.2.1 with | some k'=>chkA rf size r k' o (n + 1) | none=>false)
def chkB2:List Row→Kept→Nat→Nat→Bool
  | [],k,k1,n=>decide (k1 + k.length≤n) && decide (n≤k1 + k.length + 7)
  | t :: r,k,k1,n=>chkB2 r k k1 n && (match stp k t.2.1 with | some k'=>chkB2 r k' k1 n | none=>false)
def chkB1 (T:List Row):List Row→Kept→List Nat→Nat→Bool
  | [],k,E,n=>chkB2 (T.filter fun t=>t.2.2.2.all fun e=>E.contains e) [] k.length n
  | t :: r,k,E,n=>chkB1 T r k E n && (match stp k t.2.1 with | some k'=>chkB1 T r k' (t.1 :: E) (n + 1) | none=>false)
def chkC2 (v:Nat):List (Row × Str)→Kept→List Str→Bool
  | [],k,ps=>(v == (max 1 ps.length - 1) + k.length + (if v=0 then 0 else 1)) && (ps.length == 0) == (v == 0) && decide (ps.length≤5)
  | t :: r,k,ps=>chkC2 v r k ps && (match stp k t.1.2.1 with | some k'=>chkC2 v r k' (lowStep ps t.2) | none=>false)
def chkC1 (T:List (Row × Str)):List Row→List Nat→Bool
  | [],V=>chkC2 V.length (T.filter fun t=>t.1.2.2.2.all fun e=>V.contains e) [] (V.map nm)
  | t :: r,V=>chkC1 T r V && chkC1 T r (V ++ [t.1])
theorem chkA_all:∀ p,p < 2→∀ j,j≤4 + p→chkA (RF p j) (TB p j).length (TB p j) [] [] 0=true:=by decide +kernel
theorem chkB_all:chkB1 (TB 1 3) (TB 1 2) [] [] 0=true:=by decide +kernel
end Mine
namespace Mine
theorem chkC_0:chkC1 ((TB 0 2).map fun t=>(t,nm t.1)) (TB 0 1) []=true:=by decide +kernel
theorem chkC_1:chkC1 ((TB 1 2).map fun t=>(t,nm t.1)) (TB 1 1) []=true:=by decide +kernel
end Mine
namespace Mine
section
variable (w:World) (W:Wd) (φ:Env→Prop)
def ExCS (k:Nat) (sc:Scope) (fn:Bool) (Γ:Ctx') (ss:List Stmt) (o:Out):Prop :=
  ∀ fr P s F,fr.env.scope=sc→St pw w W fr fn Γ P s F→∀ (A:Around) (Q:Flow→Shared→Prop) (E:Value→Shared→Prop),Room k A→Alone φ A fr →
    (∀ fl s' F',o.ok pw w W fr fn P fl s' F'→F.le F'→Q fl s')→wpC (model pw w) A (execs ss fr.env) Q E s
end
section
variable {w:World} {W:Wd} {φ:Env→Prop} {k:Nat} {sc:Scope} {fn:Bool} {Γ Γ':Ctx'}
theorem cs_of {ss:List Stmt} {o:Out} (h:ExS w W φ k sc fn Γ ss o):ExCS w W φ k sc fn Γ ss o:=fun fr P s F hsc st A Q E rm al q=>wpC_of (h fr P s F hsc st A Q E rm al q)
theorem cs_S {st:Stmt} {rest:List Stmt} {o:Out} (h:Ex1S w W φ k sc fn Γ st (.next Γ')) (hr:ExCS w W φ k sc fn Γ' rest o):ExCS w W φ k sc fn Γ (st :: rest) o :=
  fun fr P s F hsc x A Q E rm al q=>wpC_execs_cons (wpC_of (h fr P s F hsc x A _ E rm al fun fl s' F' ho hF=>by
    obtain ⟨rfl,x'⟩:=ho
    exact hr fr P s' F' hsc x' A Q E rm al fun fl s'' F'' ho' hF'=>q fl s'' F'' ho' (hF.trans hF')))
theorem cs_C {st:Stmt} {rest:List Stmt} {o:Out} (h:Ex1C pw w W k sc fn Γ st (.next Γ')) (hr:ExCS w W φ k sc fn Γ' rest o):ExCS w W φ k sc fn Γ (st :: rest) o :=
  fun fr P s F hsc x A Q E rm al q=>wpC_execs_cons (h fr P s F hsc x A _ E rm fun fl s' F' ho hF=>by
    obtain ⟨rfl,x'⟩:=ho
    exact hr fr P s' F' hsc x' A Q E rm al fun fl s'' F'' ho' hF'=>q fl s'' F'' ho' (hF.trans hF'))
theorem cs_1 {st:Stmt} {rest:List Stmt} {o:Out} (h:Ex1 pw w W k sc fn Γ st (.next Γ')) (hr:ExCS w W φ k sc fn Γ' rest o):ExCS w W φ k sc fn Γ (st :: rest) o:=cs_S (ex1s_of h) hr
theorem cs_end {st:Stmt} {x:V} (h:Ex1 pw w W k sc fn Γ st (.ret x)):ExCS w W φ k sc fn Γ [st] (.ret x):=cs_of (exs_of (ex_stop h))
theorem cs_if {t:Expr} {body:List Stmt} {pos:Pos} {rest:List Stmt} {o:Out} (ht:EvBS w W φ k sc fn Γ t false) (hr:ExCS w W φ k sc fn Γ rest o):ExCS w W φ k sc fn Γ (.If t body [] pos :: rest) o :=
  cs_S (ex1s_if ht (fun h=>nomatch h) fun _=>exs_of ex_nil) hr
end
def lawPh (c:Nat) (env:Env):Prop:=env.code=.ref c∧env.qual=("law.<locals>.":Str)∧env.globals=mainGlobals
def SpecL (w:World) (W:Wd) (k:Nat) (xs:List V) (r:V):Prop:=∀ a,FnOk W (dRec 36) a→∀ s F vs,Base W s F→VsIs pw w F vs xs →
  ∀ (A:Around) (Q:Value→Shared→Prop) (E:Value→Shared→Prop),Room k A→A.frames=some []→(∀ v s' F',Grow W s s' F F'→Is pw w r F' v→Q v s')→wpC (model pw w) A (call (.ref a) vs) Q E s
section
variable {w:World} {W:Wd} {k:Nat}
theorem law_of {c Pt:Addr} {x r:V} (T:TabFn W 36 ("law.<locals>.<lambda>":Str) c Pt)
    (hex:ExCS w W (lawPh c) k (dRec 36).scope true [("script",.val x)] (dRec 36).body (.ret r)):SpecL w W (k + 1) [x] r:=by
  intro a fn s F vs b hv A Q E rm hfr q
  obtain ⟨o,pm,code,doc,ho,hd,hc⟩:=fn.obj
  have hcode:=T.code a o pm code doc fn.glob ho hd
  subst hcode
  have hp:parOk (dRec 36).scope ["script"]=true:=by decide
  unfold parOk at hp
  simp only [Bool.and_eq_true,beq_iff_eq,Bool.not_eq_true',List.all_eq_true,Bool.or_eq_true] at hp
  obtain ⟨⟨⟨hk,hco⟩,hgen⟩,hkinds⟩:=hp
  have vl:=hv.length
  refine wpC_call ?_
  refine codeC_call_function (fd:=docDef (dRec 36).name (dRec 36).params (dRec 36).body (dRec 36).scope pm (.ref c) doc) rm.depth (b.base _ _ ho) hd hco hgen rfl (hc.keeps b.base) ?_
  have hb:bindArgs (docDef (dRec 36).name (dRec 36).params (dRec 36).body (dRec 36).scope pm (.ref c) doc) ⟨vs,[]⟩=pure ((["script"]:List Str).zip vs):=by
    match vs,vl with
    | [u],_=>rfl
  rw [hb]
  have hbm:((["script"]:List Str).zip vs).map (·.1)=(["script"]:List Str):=by
    rw [List.map_fst_zip]; simp at vl ⊢; omega
  have key:∀ x ∈ (["script"]:List Str).zip vs,(dRec 36).scope.names.lookup x.1=some .local ∨ (dRec 36).scope.names.lookup x.1=some .cell:=fun x hx=>hkinds x.1 (List.of_mem_zip hx).1
  refine wpAny_pure (any_hz (wpAny_newFunctionEnv_cells hk (fun x hx=>?_) fun env he s₁ X hz1 ht1=>?_))
  · rcases key x hx with h | h
    · exact .inl h
    · obtain ⟨c,hc⟩:=cellsFrom_some (n:=s.heap.objs.size + 1) (acc:=[]) (.inl (mem_of_lookup h))
      exact .inr ⟨h,by show ((cellsFrom (s.heap.objs.size + 1) (dRec 36).scope.names []).lookup x.1).isSome=true; rw [hc]; rfl⟩
  · have es:env.scope=(dRec 36).scope:=by rw [he]; rfl
    have st:St pw w W ⟨s,F,env⟩ true ((["script"]:List Str).zip ([x].map Bd.val)) [] s₁ F:=call_frame (sc:=(dRec 36).scope) (binds:=(["script"]:List Str).zip vs) b hz1 ht1 (by rw [he]; rfl) (by rw [he]; rfl) es hk ⟨s.heap.objs.size + 1,by rw [he]; rfl⟩ X (by rw [hbm]; decide) fun y bd hy=>by
      obtain ⟨h1,x,v,e1,e2,e3⟩:=zip_lookup hv hy
      exact ⟨hkinds y h1,x,v,e1,e2,e3⟩
    refine ⟨W.nolimit.keeps (fun a o e=>X.toInCall.keep a o (b.base a o e)),codeC_func ?_⟩
    refine hex ⟨s,F,env⟩ [] s₁ F es st _ _ _ (rm.deeper env) ⟨Around.frames_deeper hfr,by rw [he]; rfl,by rw [he]; exact ⟨rfl,rfl,rfl⟩⟩ fun fl s' F' ho' hF'=>?_
    obtain ⟨v,rfl,hv',st'⟩:=ho'
    exact q v s' F' st'.grow hv'
theorem gout_some:∀ (ns:List Int) (v:Int) (q:Nat),gOut ns (some v) q≠.err
  | [],_,_=>by unfold gOut; exact fun h=>nomatch h
  | x :: r,v,q=>by
    unfold gOut
    split
    · exact fun h=>nomatch h
    · split
      · exact fun h=>nomatch h
      · cases q with
        | zero=>exact fun h=>nomatch h
        | succ j=>exact gout_some r x j
theorem gout_cons {x:Int} {r:List Int} (hx:x≠0) (q:Nat):gOut (x :: r) none q≠.err:=by
  unfold gOut
  split
  · exact fun h=>nomatch h
  · cases q with
    | zero=>exact fun h=>nomatch h
    | succ j=>exact gout_some r x j
theorem gout_sizes {p:Nat} (en:List Int):∀ q,gOut (sizesOf p ++ en) none q≠.err:=by
  intro q
  unfold sizesOf
  split <;> exact gout_cons (by decide) q
end
end Mine
namespace Mine
variable {w:World} {W:Wd} {k:Nat} {c:Nat}
abbrev il (l:List Int):Dat:=.list (l.map Dat.int)
theorem il_app (a b:List Int):il (a ++ b)=.list (a.map Dat.int ++ b.map Dat.int):=by
  show Dat.list _=_
  rw [List.map_append]
theorem cmp_ne_str {x y:Str}:CmpG pw w W k .NotEq (.dat (.str x)) (.dat (.str y)) (.dat (.bool (x.cps.toList != y.cps.toList))):=fun s F u v bs hu hv A Q E rm q=>by
  cases hu; cases hv; exact P.ne_str (q _ _ _ (Grow.refl bs) (.bool _))
theorem kq_il (n:Nat) (l:List Int):kqdOk (n + 1) (il l)=true:=by
  unfold kqdOk
  rw [List.all_map]
  exact List.all_eq_true.mpr fun x _=>by cases n <;> rfl
def telOf (p:Nat) (en:List Int):List Int:=if en=[2,0] then sizesOf p ++ [2,2,2] else sizesOf p
def endings:List (List Int):=[[127,1],[2,0],[]]
theorem gout_y {ns:List Int} {cnt:Nat} (h:∀ i,i < cnt→(match gOut ns none i with | .y _=>true | _=>false)=true):∀ i,i < cnt→∃ v,gOut ns none i=.y v:=fun i hi=>by
  have:=h i hi
  cases e:gOut ns none i with
  | y v=>exact ⟨v,rfl⟩
  | fin=>rw [e] at this; cases this
  | err=>rw [e] at this; cases this
theorem gout_f {ns:List Int} {cnt:Nat} (h:(match gOut ns none cnt with | .fin=>true | _=>false)=true):gOut ns none cnt=.fin:=by
  cases e:gOut ns none cnt with
  | y v=>rw [e] at h; cases h
  | fin=>rfl
  | err=>rw [e] at h; cases h
theorem sp_tel0 (ok:Wok W) {ns res:List Int} {most cnt:Nat} (hne:∀ q,gOut ns none q≠.err) (hout:∀ i,i < cnt→(match gOut ns none i with | .y _=>true | _=>false)=true) (hcm:cnt≤most) (hend:cnt=most ∨ (match gOut ns none cnt with | .fin=>true | _=>false)=true) (hmm:most≤1000)
    (hr:(List.range cnt).map (outG ns)=res):Spec w W (k + 5) 29 [.dat (il ns),.dat (.int (most:Int))] (.dat (il res)):=by
  have:=sp_sizes (w:=w) (k:=k) ok hne (gout_y hout) hcm (hend.imp id gout_f) hmm
  rw [← hr]
  show Spec w W (k + 5) 29 _ (.dat (.list (((List.range cnt).map (outG ns)).map Dat.int)))
  rw [List.map_map]
  exact this
theorem sp_tel (ok:Wok W) {p:Nat} (hp:p=0 ∨ p=1) {en:List Int} (he:en ∈ endings):Spec w W (k + 5) 29 [.dat (il (sizesOf p ++ en)),.dat (.int (((sizesOf p).length + 3:Nat):Int))] (.dat (il (telOf p en))):=by
  have h3:en=[127,1] ∨ en=[2,0] ∨ en=[]:=by simpa [endings] using he
  rcases h3 with rfl | rfl | rfl
  · exact sp_tel0 ok (cnt:=(sizesOf p).length) (gout_sizes _) (by rcases hp with rfl | rfl <;> decide) (by omega) (.inr (by rcases hp with rfl | rfl <;> decide)) (by rcases hp with rfl | rfl <;> decide) (by rcases hp with rfl | rfl <;> decide)
  · exact sp_tel0 ok (cnt:=(sizesOf p).length + 3) (gout_sizes _) (by rcases hp with rfl | rfl <;> decide) (by omega) (.inl rfl) (by rcases hp with rfl | rfl <;> decide) (by rcases hp with rfl | rfl <;> decide)
  · exact sp_tel0 ok (cnt:=(sizesOf p).length) (gout_sizes _) (by rcases hp with rfl | rfl <;> decide) (by omega) (.inr (by rcases hp with rfl | rfl <;> decide)) (by rcases hp with rfl | rfl <;> decide) (by rcases hp with rfl | rfl <;> decide)
theorem pylong_small {a b:Int} (h:b.natAbs.log2≤1000):Builtin.divisionGoesByPylong a b=false:=by
  unfold Builtin.divisionGoesByPylong
  have:¬ ((if (b == 0)=true then 0 else b.natAbs.log2 / 30 + 1) > 300):=by
    split <;> omega
  show (decide ((if (b == 0)=true then 0 else b.natAbs.log2 / 30 + 1) > 300) && _)=false
  rw [decide_eq_false this]; rfl
def G1 (ns cs:List Int) (p:Nat):Ctx':=[("told",.val (.dat (il (sizesOf p)))),("tellings",.val (.dat (.list (endings.map fun en=>il (telOf p en))))),("sizes",.val (.dat (il (sizesOf p)))),("letters",.val (.dat (.str (lettersOf p)))),
  ("total",.val (.dat (.int cs.sum))),("cells",.val (.dat (il cs))),("script",.val (.dat (il ns)))]
theorem law_s1 (T:WokT W) {ns cs:List Int} {p:Nat} (hcs:cellsOf ns=cs) (hn:ns.length≤1000) (hp:p=0 ∨ p=1) (hT:cs.sum.fmod 2=p)
    (hfit:∀ i,i < cs.length→InLong (cs.getD i 0)∧InLong ((cs.take (i + 1)).sum))
    (h:ExCS w W (lawPh c) (k + 8) (dRec 36).scope true (G1 ns cs p) ((dRec 36).body.drop 7) (.ret (.dat (.bool true)))) :
    ExCS w W (lawPh c) (k + 8) (dRec 36).scope true [("script",.val (.dat (il ns)))] (dRec 36).body (.ret (.dat (.bool true))):=by
  have ok:=T.ok
  have hz2:sizeLine=16777216:=rfl
  refine cs_1 (ex1_assign (ev_fn ok (sp_cells ok hn) (evl_cons (ev_name rfl) evl_nil)) (.inl rfl)) ?_
  rw [hcs]
  refine cs_1 (ex1_assign (ev_b (bname ok (by decide) rfl (by decide +kernel)) (evl_cons (ev_name rfl) evl_nil) (c_sum hfit)) (.inr ⟨rfl,rfl⟩)) ?_
  have hm:∀ {Γ:Ctx'},Γ.lookup ("total":Str)=some (.val (.dat (.int cs.sum)))→∀ {a b d n},Ev pw w W (k + 8) (dRec 36).scope true Γ (.BinOp (.Name "total" a) .Mod (.Constant (.int (Int.ofNat 2)) n b) d) (.dat (.int p)):=fun hl=>by
    intro a b d n
    rw [← hT]; exact ev_bin (ev_name hl) ev_int (bin_mod (by decide))
  refine cs_1 (ex1_assign (x:=.dat (.str (lettersOf p))) ?_ (.inr ⟨rfl,rfl⟩)) ?_
  · rw [show lettersOf p=sTake "abcde" (4 + p) by rcases hp with rfl | rfl <;> decide]
    exact ev_str_upto (n:=4 + p) ev_str (evp_some (ev_bin ev_int (hm rfl) bin_add)) (by decide)
  refine cs_1 (ex1_assign (x:=.dat (il (sizesOf p))) (ev_ite (c:=decide (p=0)) (evb_cmp (hm rfl) ev_int cmp_eq (by
      have:((p:Int) == 0)=decide (p=0):=by rcases hp with rfl | rfl <;> rfl
      rw [this]; exact tr_bool)) (fun h=>?_) (fun h=>?_)) (.inr ⟨rfl,rfl⟩)) ?_
  · have:p=0:=by simpa using h
    subst this
    exact ev_list (ds:=[.int 1,.int 4,.int 6,.int 4,.int 1]) (evl_cons ev_int (evl_cons ev_int (evl_cons ev_int (evl_cons ev_int (evl_cons ev_int evl_nil)))))
  · have:p=1:=by rcases hp with rfl | rfl; cases h; rfl
    subst this
    exact ev_list (ds:=[.int 1,.int 5,.int 10,.int 10,.int 5,.int 1]) (evl_cons ev_int (evl_cons ev_int (evl_cons ev_int (evl_cons ev_int (evl_cons ev_int (evl_cons ev_int evl_nil))))))
  have hsz:(sizesOf p).length≤6:=by rcases hp with rfl | rfl <;> decide
  have hlen:∀ {sc fn} {Γ:Ctx'},Γ.lookup ("sizes":Str)=some (.val (.dat (il (sizesOf p))))→List.lookup ("len":Str) sc.names=some .globalImplicit→∀ {a b d},Ev pw w W (k + 8) sc fn Γ (.Call (.Name "len" a) [.Name "sizes" b] [] d) (.dat (.int ((sizesOf p).length:Int))):=fun hl hk=>by
    intro a b d
    have:=c_len_list (prog:=pw) (w:=w) (W:=W) (k:=k + 8) (ds:=(sizesOf p).map Dat.int) (by simp; omega)
    rw [List.length_map] at this
    exact ev_b (bname ok (by decide) hk (by decide +kernel)) (evl_cons (ev_name hl) evl_nil) this
  refine cs_1 (Γ':=("tellings",.val (.dat (.list (endings.map fun en=>il (telOf p en))))) :: _) (ex1_assignComp (by decide) (eit_tuple (ds:=endings.map il) (ev_tuple (ds:=endings.map il) (evl_cons (ev_list (ds:=[.int 127,.int 1]) (evl_cons ev_int (evl_cons ev_int evl_nil)))
    (evl_cons (ev_list (ds:=[.int 2,.int 0]) (evl_cons ev_int (evl_cons ev_int evl_nil))) (evl_cons (ev_list (ds:=[]) evl_nil) evl_nil)))) rfl) ?_ rfl (by decide)) ?_
  · have e:(endings.map fun en=>il (telOf p en))=[] ++ endings.flatMap fun en=>[il (telOf p en)]:=by rw [flat_single]; rfl
    rw [e,List.map_map]
    refine cl1 (by rw [flat_single]; show 0 + 3≤sizeLine; omega) fun en hen=>?_
    refine ⟨_,true,asg_name (.inl rfl),keep_cons rfl,evt_nil,fun _=>emitL_leaf (ev_fn ok (sp_tel (k:=k + 3) ok hp hen) (evl_cons ?_ (evl_cons ?_ evl_nil))),fun h=>nomatch h⟩
    · rw [il_app]
      have he6:en.length≤2:=by
        have h3:en=[127,1] ∨ en=[2,0] ∨ en=[]:=by simpa [endings] using hen
        rcases h3 with rfl | rfl | rfl <;> decide
      exact ev_bin (ev_name rfl) (ev_name rfl) (bin_add_list (by simp only [List.length_map]; omega))
    · exact ev_bin (hlen rfl rfl) ev_int bin_add
  refine cs_if (evbs_boolop (evas_or_cons (a:=false) (evbs_of (evb_cmp (ev_name rfl) (ev_list (ds:=[il (sizesOf p),il (sizesOf p ++ [2,2,2]),il (sizesOf p)]) (evl_cons (ev_name rfl) (evl_cons ?_ (evl_cons (ev_name rfl) evl_nil)))) (cmp_ne_list (c:=true) ?_ ?_ ?_) tr_bool))
    fun _=>evas_or_cons (a:=false) (evbs_cmp (evs_askedX (k:=k + 7) (msg:=badG) ok (fun a fn=>rs_sizes (k:=k + 2) (r:=sizesOf p) (most:=2) ok (by decide) (by decide) fn) (evs_of ?_) (evs_of ev_int)) (evs_of ev_str) ?_ tr_bool) fun _=>evas_or_nil)) ?_
  · rw [il_app]
    exact ev_bin (ev_name rfl) (ev_list (ds:=[.int 2,.int 2,.int 2]) (evl_cons ev_int (evl_cons ev_int (evl_cons ev_int evl_nil)))) (bin_add_list (by simp only [List.length_map]; show _ + 3≤_; omega))
  · exact ⟨fun _=>rfl,fun _=>rfl⟩
  · intro d hd
    obtain ⟨en,_,rfl⟩:=List.mem_map.mp hd
    exact kq_il _ _
  · intro d hd
    simp only [List.mem_cons,List.not_mem_nil,or_false] at hd
    rcases hd with rfl | rfl | rfl <;> exact kq_il _ _
  · exact ev_bin (ev_list (ds:=[.int 0]) (evl_cons ev_int evl_nil)) (ev_name rfl) (bin_add_list (by simp only [List.length_map]; show 1 + _≤_; omega))
  · exact cmp_ne_str
  refine cs_1 (Γ':=G1 ns cs p) (ex1_assign (x:=.dat (il (sizesOf p))) ?_ (.inr ⟨rfl,rfl⟩)) h
  have h3:∃ j:Nat,(cs.sum.fdiv 64).fmod 3=(j:Int)∧j < 3:=by
    have h1:=Int.fmod_nonneg_of_pos (cs.sum.fdiv 64) (show (0:Int) < 3 by decide)
    have h2:=Int.fmod_lt_of_pos (cs.sum.fdiv 64) (show (0:Int) < 3 by decide)
    exact ⟨((cs.sum.fdiv 64).fmod 3).toNat,by omega,by omega⟩
  obtain ⟨j,hj,hj3⟩:=h3
  have hi:Ev pw w W (k + 8) (dRec 36).scope true (("tellings",.val (.dat (.list (endings.map fun en=>il (telOf p en))))) :: ("sizes",.val (.dat (il (sizesOf p)))) :: ("letters",.val (.dat (.str (lettersOf p)))) :: ("total",.val (.dat (.int cs.sum))) :: ("cells",.val (.dat (il cs))) :: ("script",.val (.dat (il ns))) :: [])
      (.BinOp (.BinOp (.Name "total" ⟨194,20,194,25⟩) .FloorDiv (.Constant (.int (Int.ofNat 64)) 0 ⟨194,29,194,31⟩) ⟨194,20,194,31⟩) .Mod (.Constant (.int (Int.ofNat 3)) 0 ⟨194,34,194,35⟩) ⟨194,20,194,35⟩) (.dat (.int (j:Int))):=by
    rw [← hj]
    exact ev_bin (ev_bin (ev_name rfl) ev_int (bin_floordiv (by decide) (pylong_small (by decide)))) ev_int (bin_mod (by decide))
  have hd:∃ l r:List Int,(endings.map fun en=>il (telOf p en))[j]?=some (il l)∧l=sizesOf p ++ r∧r.length≤3:=by
    match j,hj3 with
    | 0,_=>exact ⟨sizesOf p,[],rfl,by simp,by decide⟩
    | 1,_=>exact ⟨sizesOf p ++ [2,2,2],[2,2,2],rfl,rfl,by decide⟩
    | 2,_=>exact ⟨sizesOf p,[],rfl,by simp,by decide⟩
  obtain ⟨l,r,hd,rfl,hr⟩:=hd
  have:=ev_upto (l:=sizesOf p ++ r) (h:=Dat.int) (n:=(sizesOf p).length) (p:=⟨194,37,194,48⟩) (pos:=⟨194,11,194,49⟩) (ev_sub (pos:=⟨194,11,194,36⟩) (ev_name (y:="tellings") (pos:=⟨194,11,194,19⟩) rfl) hi (get_list (by omega) (by omega) (by rw [Int.toNat_natCast]; exact hd))) (evp_some (hlen rfl rfl (a:=⟨194,38,194,41⟩) (b:=⟨194,42,194,47⟩) (d:=⟨194,38,194,48⟩))) (by rw [List.length_append]; omega)
  rw [List.take_left'] at this
  · exact this
  · rfl
end Mine
namespace Mine
variable {w:World} {W:Wd} {k:Nat} {c:Nat}
abbrev LV (l:List (List Str)):Dat:=.list (l.map strsD)
def topsOf (p:Nat) (cs:List Int):List Str:=(cs.take ((cs.getD 6 0).fmod 7).toNat).map fun x=>(namesOf p).getD (x.fmod ((namesOf p).length:Int)).toNat Str.empty
def rbOf (p:Nat) (cs:List Int):Array UInt8:=byteArr (rowOf (namesOf p) (topsOf p cs))
def turnedOf (p:Nat) (cs:List Int):Array UInt8:=swapOf (rbOf p cs) (rbOf p cs).size
def orowOf (p:Nat) (cs:List Int):List Int:=(bInts (turnedOf p cs)).map fun a=>Builtin.bitXor a 1
def lvOf (p:Nat) (cs:List Int):List (List Str):=levelsOf (namesOf p) (fun j=>(((rbOf p cs).getD j.toNat 0).toNat:Int)) (sizesOf p)
def oxOf (p:Nat) (cs:List Int):List (List Str):=levelsOf (namesOf p) (fun j=>(orowOf p cs).getD j.toNat 0) (sizesOf p)
def G2 (ns cs:List Int) (p:Nat):Ctx':=("others",.val (.dat (LV (oxOf p cs)))) :: ("levels",.val (.dat (LV (lvOf p cs)))) :: ("turned",.val (.dat (.bytes (turnedOf p cs)))) :: ("row",.val (.dat (.bytes (rbOf p cs)))) :: ("names",.val (.dat (strsD (namesOf p)))) :: G1 ns cs p
theorem names_len {p:Nat} (hp:p=0 ∨ p=1):(namesOf p).length≤32∧16≤(namesOf p).length:=by rcases hp with rfl | rfl <;> decide
theorem names_ok {p:Nat} (hp:p=0 ∨ p=1):∀ t ∈ namesOf p,t.cps.all (· < 128)=true∧t.length≤5:=by rcases hp with rfl | rfl <;> decide +kernel
theorem tops_ok {p:Nat} (hp:p=0 ∨ p=1) (cs:List Int):∀ t ∈ topsOf p cs,t.cps.all (· < 128)=true∧t.length≤5:=fun t ht=>by
  obtain ⟨x,_,rfl⟩:=List.mem_map.mp ht
  rw [List.getD_eq_getElem?_getD]
  cases e:(namesOf p)[(x.fmod ((namesOf p).length:Int)).toNat]? with
  | none=>exact ⟨by decide +kernel,by decide +kernel⟩
  | some y=>exact names_ok hp y (List.mem_of_getElem? e)
theorem flat_le {α β:Type} {l:List α} {f:α→List β} {n:Nat} (h:∀ x ∈ l,(f x).length≤n):(l.flatMap f).length≤l.length * n:=by
  induction l with
  | nil=>simp
  | cons a r ih =>
    rw [List.flatMap_cons,List.length_append,List.length_cons,Nat.succ_mul]
    have h1:=h a (.head _)
    have h2:=ih fun x hx=>h x (.tail _ hx)
    omega
theorem row_size (p:Nat) (cs:List Int):(rbOf p cs).size=(namesOf p).length:=by
  unfold rbOf byteArr rowOf; simp
theorem swap_size (x:Array UInt8) (c:Nat):(swapOf x c).size=x.size:=by
  unfold swapOf; rw [swOut_size]; simp
theorem turned_size (p:Nat) (cs:List Int):(turnedOf p cs).size=(namesOf p).length:=by
  unfold turnedOf; rw [swap_size]; exact row_size p cs
theorem get_nth {ds:List Dat} {α:Type} {l:List α} {f:α→Dat} {d:α} {i:Nat} (h:i < l.length):(l.map f)[i]?=some (f (l.getD i d)):=by
  rw [List.getElem?_map,List.getD_eq_getElem?_getD,List.getElem?_eq_getElem h]; rfl
theorem law_s2 (T:WokT W) {Pt:Addr} (t36:TabFn W 36 ("law.<locals>.<lambda>":Str) c Pt) {ns cs:List Int} {p:Nat} (hp:p=0 ∨ p=1) (h7:cs.length=7)
    (h:ExCS w W (lawPh c) (k + 8) (dRec 36).scope true (G2 ns cs p) ((dRec 36).body.drop 13) (.ret (.dat (.bool true)))) :
    ExCS w W (lawPh c) (k + 8) (dRec 36).scope true (G1 ns cs p) ((dRec 36).body.drop 7) (.ret (.dat (.bool true))):=by
  have ok:=T.ok
  have hz2:sizeLine=16777216:=rfl
  have hN:=names_len hp
  have hS:∀ x ∈ setsOf (lettersOf p).cps.toList,x.length≤5:=by rcases hp with rfl | rfl <;> decide +kernel
  refine cs_S (Γ':=("names",.val (.dat (strsD (namesOf p)))) :: G1 ns cs p) (ex1s_assign (evs_sortedT (k:=k + 5) T t36 (bname ok (by decide) rfl (by decide +kernel)) (fun env h=>h)
    (ev_fn ok (sp_sets ok (x:=lettersOf p) (by rcases hp with rfl | rfl <;> decide +kernel) (by rcases hp with rfl | rfl <;> decide +kernel)) (evl_cons (ev_name rfl) evl_nil)) (by rcases hp with rfl | rfl <;> decide +kernel) (by rcases hp with rfl | rfl <;> decide +kernel)
    (fun _=>rfl) (fun _=>rfl) (fun pm ctv c' vs h=>by match vs,h with | [u],_=>rfl) (by decide) (fun x hx=>ev_tuple (ds:=[.int (x.length:Int),.str x]) (evl_cons (ev_b (bname ok (by decide) rfl (by decide +kernel)) (evl_cons (ev_name rfl) evl_nil) (c_len_str (by have:=hS x hx; omega)))
      (evl_cons (ev_fn ok sp_strxfrm (evl_cons (ev_name rfl) evl_nil)) evl_nil))) (sets_names hp) (sets_in hp) (sets_at hp)) (.inr ⟨rfl,rfl⟩)) ?_
  have hm:∃ m:Nat,(cs.getD 6 0).fmod 7=(m:Int)∧m < 7:=by
    have h1:=Int.fmod_nonneg_of_pos (cs.getD 6 0) (show (0:Int) < 7 by decide)
    have h2:=Int.fmod_lt_of_pos (cs.getD 6 0) (show (0:Int) < 7 by decide)
    exact ⟨((cs.getD 6 0).fmod 7).toNat,by omega,by omega⟩
  obtain ⟨m,hm,hm7⟩:=hm
  have htops:topsOf p cs=(cs.take m).map fun x=>(namesOf p).getD (x.fmod ((namesOf p).length:Int)).toNat Str.empty:=by unfold topsOf; rw [hm]; rfl
  refine cs_1 (Γ':=("row",.val (.dat (.bytes (rbOf p cs)))) :: ("names",.val (.dat (strsD (namesOf p)))) :: G1 ns cs p) (ex1_assign (ev_fn ok (sp_row (k:=k + 5) (names:=namesOf p) (tops:=topsOf p cs) ok (by omega) (fun t ht=>⟨(tops_ok hp cs t ht).1,Nat.le_trans (tops_ok hp cs t ht).2 (by decide)⟩) ?_) (evl_cons (ev_name rfl) (evl_cons ?_ evl_nil))) (.inl rfl)) ?_
  · have:(unionOf (topsOf p cs)).length≤(topsOf p cs).length * 32:=flat_le fun t ht=>by
      rw [setsOf_len]
      have:=(tops_ok hp cs t ht).2
      exact Nat.le_trans (Nat.pow_le_pow_right (by decide) (show t.cps.toList.length≤5 by simpa [Str.length] using this)) (by decide)
    have h3:(topsOf p cs).length≤7:=by rw [htops]; simp; omega
    omega
  · have e:(topsOf p cs).map Dat.str=(cs.take m).flatMap fun x=>[Dat.str ((namesOf p).getD (x.fmod ((namesOf p).length:Int)).toNat Str.empty)]:=by
      rw [flat_single,htops,List.map_map]; rfl
    rw [e]
    have h6:(cs.map Dat.int)[6]?=some (.int (cs.getD 6 0)):=get_nth (ds:=[]) (by omega)
    refine ev_lc1 _ (by decide) (eit_listm (h:=Dat.int) (ev_upto (n:=m) (ev_name rfl) (evp_some ?_) (by omega))) (fun x hx=>?_) (by rw [flat_single]; simp; omega)
    · rw [← hm]
      exact ev_bin (ev_sub (ev_name rfl) ev_int (get_list (by decide) (by decide) h6)) ev_int (bin_mod (by decide))
    · refine ⟨_,true,asg_name (.inl rfl),keep_cons rfl,evt_nil,fun _=>emitL_leaf (ev_sub (ev_name rfl) (ev_bin (ev_name rfl) (ev_b (bname ok (by decide) rfl (by decide +kernel)) (evl_cons (ev_name rfl) evl_nil) (c_len_list (by rw [List.length_map]; omega))) (bin_mod ?_)) (get_list ?_ ?_ ?_)),fun h=>nomatch h⟩
      · rw [List.length_map]; omega
      · rw [List.length_map]; exact Int.fmod_nonneg_of_pos _ (by omega)
      · rw [List.length_map]
        have:=Int.fmod_lt_of_pos x (show (0:Int) < ((namesOf p).length:Int) by omega)
        omega
      · rw [List.length_map]
        have h1:=Int.fmod_nonneg_of_pos x (show (0:Int) < ((namesOf p).length:Int) by omega)
        have h2:=Int.fmod_lt_of_pos x (show (0:Int) < ((namesOf p).length:Int) by omega)
        exact get_nth (ds:=[]) (by omega)
  have hb:=row_size p cs
  refine cs_C (Γ':=("turned",.val (.dat (.bytes (turnedOf p cs)))) :: _) (ex1C_assign (evC_fn ok (sp_byteswap (k:=k + 7) (x:=rbOf p cs) (m:=1) (c:=(rbOf p cs).size) ok (by omega) (by omega) (by omega) (by omega))
    (evl_cons (ev_name rfl) (evl_cons (ev_b (bname ok (by decide) rfl (by decide +kernel)) (evl_cons (ev_name rfl) evl_nil) (c_len_bytes (by omega))) evl_nil))) (.inl rfl)) ?_
  refine cs_if (evbs_boolop (evas_or_cons (a:=false) (evbs_not (b:=true) (evbs_val (evs_fn ok (sp_order (k:=k + 6) (l:=textsOf p) ok (by rcases hp with rfl | rfl <;> decide) (texts_order hp) (by rcases hp with rfl | rfl <;> decide)) (evls_cons
      (evs_sortedS (k:=k + 5) (xs:=namesOf p) (outs:=textsOf p) ok (bname ok (by decide) rfl (by decide +kernel)) (ev_name rfl) rfl (by omega) (by omega) (texts_run hp) (texts_in hp) rfl) evls_nil)) tr_bool))
    fun _=>evas_or_cons (a:=false) (evbs_of (evb_not (b:=true) (evb_val (ev_b (bname ok (by decide) rfl (by decide +kernel)) (evl_cons (ev_name rfl) (evl_cons (ev_bname (bname ok (by decide) rfl (by decide +kernel))) evl_nil)) c_isinstance_bytes) tr_bool))) fun _=>evas_or_nil)) ?_
  have hsum:(sizesOf p).sum=((namesOf p).length:Int):=by rcases hp with rfl | rfl <;> decide
  have hs0:∀ n ∈ sizesOf p,0≤n:=by rcases hp with rfl | rfl <;> decide
  have hs6:(sizesOf p).length≤6:=by rcases hp with rfl | rfl <;> decide
  refine cs_1 (ex1_assign (x:=.dat (LV (lvOf p cs))) (ev_fn ok (sp_levels (k:=k + 6) (r:=fun j=>(((rbOf p cs).getD j.toNat 0).toNat:Int)) ok (fun j h0 hj=>get_bytes h0 (c:=(rbOf p cs).getD j.toNat 0) ?_ (by omega)) hs0 hsum (by omega) (by omega)) (evl_cons (ev_name rfl) (evl_cons (ev_name rfl) (evl_cons (ev_name rfl) evl_nil)))) (.inl rfl)) ?_
  · have hlt:j.toNat < (rbOf p cs).size:=by omega
    rw [Array.getElem?_eq_getElem hlt]
    simp [Array.getD,hlt]
  have ht:=turned_size p cs
  have ho:(orowOf p cs).length=(namesOf p).length:=by unfold orowOf; rw [List.length_map,bInts_len]; omega
  refine cs_1 (Γ':=G2 ns cs p) (ex1_assign (x:=.dat (LV (oxOf p cs))) (ev_fn ok (sp_levels (k:=k + 6) (x:=.dat (il (orowOf p cs))) (r:=fun j=>(orowOf p cs).getD j.toNat 0) ok (fun j h0 hj=>get_list h0 (by omega) (get_nth (ds:=[]) (by omega))) hs0 hsum (by omega) (by omega)) (evl_cons (ev_name rfl) (evl_cons ?_ (evl_cons (ev_name rfl) evl_nil)))) (.inl rfl)) h
  have e:(orowOf p cs).map Dat.int=(turnedOf p cs).toList.flatMap fun c=>[Dat.int (Builtin.bitXor (c.toNat:Int) 1)]:=by
    rw [flat_single]; unfold orowOf bInts; rw [List.map_map,List.map_map]; rfl
  show Ev _ _ _ _ _ _ _ _ (.dat (.list ((orowOf p cs).map Dat.int)))
  rw [e]
  refine ev_lc1 _ (by decide) (eit_bytes (ev_name rfl) rfl) (fun x hx=>?_) (by rw [flat_single,List.length_map,Array.length_toList]; omega)
  exact ⟨_,true,asg_name (.inl rfl),keep_cons rfl,evt_nil,fun _=>emitL_leaf (ev_fn ok sp_xor (evl_cons (ev_name rfl) (evl_cons ev_int evl_nil))),fun h=>nomatch h⟩
end Mine
namespace Mine
variable {w:World} {W:Wd} {k:Nat} {c:Nat}
def othOf (p:Nat) (x:Str):Str:=⟨((lettersOf p).cps.toList.filter fun c=>!decide (c ∈ x.cps.toList)).toArray⟩
def msgI:Str:="sequence.index(x): x not in sequence"
structure Lvs (p:Nat) (lv:List (List Str)):Prop where
  len:lv.length=5 + p
  sz:∀ l ∈ lv,l.length≤100
  nd:∀ l ∈ lv,l.Nodup
  short:∀ l ∈ lv,∀ x ∈ l,x.length≤5
  mem:∀ k l,lv[k]?=some l→∀ x ∈ l,x ∈ namesOf p∧x.length=k
def pos (x:Str) (l:List Str):Nat:=(idxOf x l).getD 0
theorem idxOf_mem {x:Str}:∀ {l:List Str},x ∈ l→∃ n,idxOf x l=some n
  | a :: r,h=>by
    unfold idxOf
    by_cases e:a=x
    · exact ⟨0,by rw [if_pos e]⟩
    · rw [if_neg e]
      obtain ⟨n,hn⟩:=idxOf_mem (l:=r) ((List.mem_cons.mp h).resolve_left fun q=>e q.symm)
      exact ⟨n + 1,by rw [hn]; rfl⟩
theorem pos_spec {x:Str} {l:List Str} (h:x ∈ l):l[pos x l]?=some x∧∀ i,i < pos x l→l[i]?≠some x:=by
  obtain ⟨n,hn⟩:=idxOf_mem h
  have:pos x l=n:=by unfold pos; rw [hn]; rfl
  rw [this]
  exact idxOf_spec hn
theorem pos_nodup:∀ {l:List Str},l.Nodup→l.map (fun x=>pos x l)=List.range l.length:=fun {l} nd=>by
  apply List.ext_getElem
  · simp
  · intro i h1 h2
    simp only [List.length_map] at h1
    have hm:l[i] ∈ l:=List.getElem_mem h1
    obtain ⟨h3,h4⟩:=pos_spec hm
    simp only [List.getElem_map,List.getElem_range]
    obtain ⟨h5,h6⟩:=List.getElem?_eq_some_iff.mp h3
    rcases Nat.lt_trichotomy (pos l[i] l) i with hlt | he | hgt
    · exact absurd h6 (List.pairwise_iff_getElem.mp nd _ _ h5 h1 hlt)
    · exact he
    · exact absurd (List.getElem?_eq_getElem h1) (h4 i hgt)
theorem str_inj:∀ a b:Str,Dat.str a=Dat.str b→a=b:=fun a b e=>by cases e; rfl
theorem int_inj:∀ a b:Int,Dat.int a=Dat.int b→a=b:=fun a b e=>by cases e; rfl
def gS:Int ⊕ Str→Dat
  | .inl i=>.int i
  | .inr x=>.str x
theorem gS_inj:∀ a b,gS a=gS b→a=b:=fun a b e=>by
  cases a <;> cases b <;> cases e <;> rfl
theorem gS_atom:∀ a,Atom (gS a):=fun a=>by
  cases a
  · exact .int _
  · exact .str _
theorem names_oth {p:Nat} (hp:p=0 ∨ p=1):∀ x ∈ namesOf p,JoinOk ("":Str) (((lettersOf p).cps.toList.filter fun c=>!decide (c ∈ x.cps.toList)).map fun c=>(⟨#[c]⟩:Str))=true ∧
    Txt.join ("":Str) (((lettersOf p).cps.toList.filter fun c=>!decide (c ∈ x.cps.toList)).map fun c=>(⟨#[c]⟩:Str))=othOf p x∧x.length≤4 + p∧(othOf p x).length≤4 + p∧x.length≤5:=by
  rcases hp with rfl | rfl <;> decide +kernel
def Ask (l:List Str) (x:Str) (d:Int ⊕ Str):Prop:=(x ∈ l∧d=.inl (pos x l:Int)) ∨ (x ∉ l∧d=.inr msgI)
theorem evs_askI {φ:Env→Prop} {sc:Scope} {fn:Bool} {Γ:Ctx'} (ok:Wok W) {e₁ e₂:Expr} {l:List Str} {x:Str} {d:Int ⊕ Str} {p p₁ q:Pos} (ha:Ask l x d) (h1:Ev pw w W (k + 2) sc fn Γ e₁ (.dat (strsD l))) (h2:Ev pw w W (k + 2) sc fn Γ e₂ (.dat (.str x)))
    (hk:sc.names.lookup ("_law_asked":Str)=some .globalImplicit) (hkd:sc.names.lookup ("indexOf":Str)=some .globalImplicit)
    (hs:∀ env,starEach [.Name ("indexOf":Str) p₁,e₁,e₂] env=(false,eval (.Name ("indexOf":Str) p₁) env) :: starEach [e₁,e₂] env) (hs1:∀ env,starEach [e₁,e₂] env=(false,eval e₁ env) :: starEach [e₂] env) (hs2:∀ env,starEach [e₂] env=[(false,eval e₂ env)]) :
    EvS w W φ (k + 2) sc fn Γ (.Call (.Name ("_law_asked":Str) p) [.Name ("indexOf":Str) p₁,e₁,e₂] [] q) (.dat (gS d)):=by
  rcases ha with ⟨hm,rfl⟩ | ⟨hm,rfl⟩
  · obtain ⟨h3,h4⟩:=pos_spec hm
    exact evs_asked (k:=k + 1) (y:="") ok (sp_indexOf (k:=k) str_inj (fun a=>.str a) h3 h4 ok) (evs_of h1) (evs_of h2) hk hkd (by decide) rfl (by decide) hs hs1 hs2
  · exact evs_askedX (k:=k + 1) ok (fun a fn=>rs_indexOf (k:=k) str_inj (fun a=>.str a) (fun i e=>hm (List.mem_of_getElem? e)) ok fn) (evs_of h1) (evs_of h2) hk hkd (by decide) rfl (by decide) hs hs1 hs2
theorem law_s3 (T:WokT W) {ns cs:List Int} {p:Nat} (hp:p=0 ∨ p=1) {lv ox:List (List Str)} (hl:lvOf p cs=lv) (ho:oxOf p cs=ox) (l1:Lvs p lv) (l2:Lvs p ox)
    (hpl:∀ x ∈ namesOf p,(x ∈ lv.getD x.length []∧othOf p x ∉ ox.getD (othOf p x).length []) ∨ (x ∉ lv.getD x.length []∧othOf p x ∈ ox.getD (othOf p x).length []))
    (h:ExCS w W (lawPh c) (k + 8) (dRec 36).scope true (G2 ns cs p) ((dRec 36).body.drop 14) (.ret (.dat (.bool true)))) :
    ExCS w W (lawPh c) (k + 8) (dRec 36).scope true (G2 ns cs p) ((dRec 36).body.drop 13) (.ret (.dat (.bool true))):=by
  have ok:=T.ok
  have hz2:sizeLine=16777216:=rfl
  refine cs_S (ex1s_for (Γ₁:=fun x=>("name",.val x) :: G2 ns cs p) (eit_listm (h:=Dat.str) (l:=namesOf p) (ev_name rfl)) fun v hv=>?_) h
  obtain ⟨x,hx,rfl⟩:=List.mem_map.mp hv
  obtain ⟨j1,j2,x1,x2,x5⟩:=names_oth hp x hx
  refine ⟨asg_name (.inr ⟨rfl,rfl⟩),?_⟩
  have key:∃ d1 d2,Ask (lv.getD x.length []) x d1∧Ask (ox.getD (othOf p x).length []) (othOf p x) d2∧cntD [d1,d2] (.inr msgI) 2=1:=by
    rcases hpl x hx with ⟨a,b⟩ | ⟨a,b⟩
    · exact ⟨_,_,.inl ⟨a,rfl⟩,.inr ⟨b,rfl⟩,by simp [cntD]⟩
    · exact ⟨_,_,.inr ⟨a,rfl⟩,.inl ⟨b,rfl⟩,by simp [cntD]⟩
  obtain ⟨d1,d2,ha1,ha2,hcn⟩:=key
  have hlv:((lvOf p cs).map strsD)[x.length]?=some (strsD (lv.getD x.length [])):=by rw [hl]; exact get_nth (ds:=[]) (by have:=l1.len; omega)
  have hox:((oxOf p cs).map strsD)[(othOf p x).length]?=some (strsD (ox.getD (othOf p x).length [])):=by rw [ho]; exact get_nth (ds:=[]) (by have:=l2.len; omega)
  have x3:(othOf p x).length≤5:=by rcases hp with rfl | rfl <;> omega
  refine exs_out (Γ':=("places",.val (.dat (.list ([d1,d2].map gS)))) :: ("other",.val (.dat (.str (othOf p x)))) :: ("name",.val (.dat (.str x))) :: G2 ns cs p) (exs_seq (ex1s_of (ex1_assign (x:=.dat (.str (othOf p x))) ?_ (.inl rfl))) (exs_seq (ex1s_assign (evs_list (ds:=[gS d1,gS d2]) (evls_cons (evs_askI (k:=k + 6) ok ha1 ?_ (ev_name rfl) rfl rfl (fun _=>rfl) (fun _=>rfl) (fun _=>rfl)) (evls_cons (evs_askI (k:=k + 6) ok ha2 ?_ (ev_name rfl) rfl rfl (fun _=>rfl) (fun _=>rfl) (fun _=>rfl)) evls_nil))) (.inl rfl)) (exs_seq ?_ (exs_of ex_nil)))) fun y b hy=>?_
  · rw [← j2]
    have e:((((lettersOf p).cps.toList.filter fun c=>!decide (c ∈ x.cps.toList)).map fun c=>(⟨#[c]⟩:Str)).map Dat.str)=(lettersOf p).cps.toList.flatMap fun c=>if decide (c ∈ x.cps.toList)=true then [] else [chr1 c]:=by
      rw [List.map_map]
      generalize (lettersOf p).cps.toList=l
      induction l with
      | nil=>rfl
      | cons a r ih =>
        rw [List.flatMap_cons,← ih,List.filter_cons]
        by_cases hc:a ∈ x.cps.toList <;> simp [hc,chr1]
    refine ev_join ev_str ?_ j1
    rw [e]
    refine ev_lc1 _ (by decide) (eit_str (ev_name rfl) rfl (by rcases hp with rfl | rfl <;> decide +kernel)) (fun a ha=>?_) ?_
    · refine ⟨_,!decide (a ∈ x.cps.toList),asg_name (.inl rfl),keep_cons rfl,evt_one (evb_cmp (ev_name rfl) (ev_name rfl) cmp_chr_notIn tr_bool),fun hb=>?_,fun hb=>?_⟩
      · have:decide (a ∈ x.cps.toList)=false:=by simpa using hb
        rw [this]
        exact emitL_leaf (ev_name rfl)
      · have:decide (a ∈ x.cps.toList)=true:=by simpa using hb
        rw [this]; rfl
    · rw [← e,List.length_map,List.length_map]
      refine Nat.le_trans (List.length_filter_le _ _) ?_
      rcases hp with rfl | rfl <;> decide +kernel
  · exact ev_sub (ev_name rfl) (ev_b (bname ok (by decide) rfl (by decide +kernel)) (evl_cons (ev_name rfl) evl_nil) (c_len_str (by omega))) (get_list (by omega) (by omega) (by rw [Int.toNat_natCast]; exact hlv))
  · exact ev_sub (ev_name rfl) (ev_b (bname ok (by decide) rfl (by decide +kernel)) (evl_cons (ev_name rfl) evl_nil) (c_len_str (by omega))) (get_list (by omega) (by omega) (by rw [Int.toNat_natCast]; exact hox))
  · have:=sp_countOf (w:=w) (W:=W) (k:=k + 7) (l:=[d1,d2]) (e:=.inr msgI) gS_inj gS_atom
    rw [show cntD [d1,d2] (.inr msgI) [d1,d2].length=1 from hcn] at this
    exact ex1s_if (b:=false) (evbs_of (evb_cmp (ev_fn ok this (evl_cons (ev_name rfl) (evl_cons ev_str evl_nil))) ev_int cmp_ne tr_bool)) (fun h=>nomatch h) fun _=>exs_of ex_nil
  · exact keep_cons (z:="places") rfl y b (keep_cons (z:="other") rfl y b (keep_cons (z:="name") rfl y b hy))
end Mine
namespace Mine
variable {w:World} {W:Wd} {k:Nat} {c:Nat}
theorem flatMap_cg {α β:Type} {f g:α→List β}:∀ {l:List α},(∀ x ∈ l,f x=g x)→l.flatMap f=l.flatMap g
  | [],_=>rfl
  | a :: r,h=>by rw [List.flatMap_cons,List.flatMap_cons,h a (.head _),flatMap_cg fun x hx=>h x (.tail _ hx)]
theorem sizes_idx {p:Nat} (hp:p=0 ∨ p=1):(∀ s ∈ sizesOf p,(sizesOf p)[(sizesOf p).idxOf s]?=some s∧∀ i,i < (sizesOf p).idxOf s→(sizesOf p)[i]?≠some s) ∧
    (sizesOf p).map (fun s=>(((sizesOf p).idxOf s:Nat):Int))=(List.range (sizesOf p).length).map fun j:Nat=>if ((4 + p:Nat):Int) - (j:Int) < (j:Int) then ((4 + p:Nat):Int) - (j:Int) else (j:Int):=by
  rcases hp with rfl | rfl <;> decide +kernel
def aheadOf (p:Nat) (cs:List Int):List Dat:=((lvOf p cs ++ oxOf p cs).flatMap fun l=>l.flatMap fun x=>[Dat.int (pos x l:Int)]) ++ (sizesOf p).flatMap fun s=>[Dat.int (((sizesOf p).idxOf s:Nat):Int)]
theorem law_s4 (T:WokT W) {ns cs:List Int} {p:Nat} (hp:p=0 ∨ p=1) (l1:Lvs p (lvOf p cs)) (l2:Lvs p (oxOf p cs))
    (h:ExCS w W (lawPh c) (k + 8) (dRec 36).scope true (("ahead",.val (.dat (.list (aheadOf p cs)))) :: G2 ns cs p) ((dRec 36).body.drop 16) (.ret (.dat (.bool true)))) :
    ExCS w W (lawPh c) (k + 8) (dRec 36).scope true (G2 ns cs p) ((dRec 36).body.drop 14) (.ret (.dat (.bool true))):=by
  have ok:=T.ok
  have hz2:sizeLine=16777216:=rfl
  have hL:(lvOf p cs ++ oxOf p cs).length≤12:=by rw [List.length_append,l1.len,l2.len]; rcases hp with rfl | rfl <;> omega
  have hmem:∀ l ∈ lvOf p cs ++ oxOf p cs,l.length≤100∧l.Nodup:=fun l hl=>by
    rcases List.mem_append.mp hl with h | h
    · exact ⟨l1.sz l h,l1.nd l h⟩
    · exact ⟨l2.sz l h,l2.nd l h⟩
  have hs6:(sizesOf p).length≤6:=by rcases hp with rfl | rfl <;> decide
  obtain ⟨si,se⟩:=sizes_idx hp
  have hlo:∀ {Γ:Ctx'} {a b q},Γ.lookup ("levels":Str)=some (.val (.dat (LV (lvOf p cs))))→Γ.lookup ("others":Str)=some (.val (.dat (LV (oxOf p cs))))→Ev pw w W (k + 8) (dRec 36).scope true Γ (.BinOp (.Name "levels" a) .Add (.Name "others" b) q) (.dat (.list ((lvOf p cs ++ oxOf p cs).map strsD))):=fun h1 h2=>by
    rw [List.map_append]
    exact ev_bin (ev_name h1) (ev_name h2) (bin_add_list (by simp only [List.length_map]; rw [List.length_append] at hL; omega))
  have a1:((lvOf p cs ++ oxOf p cs).flatMap fun l=>l.flatMap fun x=>[Dat.int (pos x l:Int)]).length≤1200:=by
    refine Nat.le_trans (flat_le (n:=100) fun l hl=>?_) (by omega)
    rw [flat_single,List.length_map]; exact (hmem l hl).1
  have a2:((sizesOf p).flatMap fun s=>[Dat.int (((sizesOf p).idxOf s:Nat):Int)]).length≤6:=by rw [flat_single,List.length_map]; exact hs6
  refine cs_1 (ex1_assign (x:=.dat (.list (aheadOf p cs))) (ev_bin (ev_lc2 (l:=lvOf p cs ++ oxOf p cs) (g:=fun l=>V.dat (strsD l)) (fun l=>l.flatMap fun x=>[Dat.int (pos x l:Int)]) (by decide) (eit_listm (h:=strsD) (hlo rfl rfl)) (fun l hl=>?_) (by omega))
    (ev_lc1 (fun s=>[Dat.int (((sizesOf p).idxOf s:Nat):Int)]) (by decide) (eit_listm (h:=Dat.int) (l:=sizesOf p) (ev_name rfl)) (fun s hs=>?_) (by omega)) (bin_add_list (by omega))) (.inl rfl)) ?_
  · refine ⟨_,true,asg_name (.inl rfl),keep_cons rfl,evt_nil,fun _=>emitL_node (l:=l) (g:=fun x=>V.dat (.str x)) (f:=fun x=>[Dat.int (pos x l:Int)]) (eit_listm (h:=Dat.str) (ev_name rfl)) (fun x hx=>?_),fun h=>nomatch h⟩
    obtain ⟨h3,h4⟩:=pos_spec hx
    exact ⟨_,true,asg_name (.inl rfl),keep_cons rfl,evt_nil,fun _=>emitL_leaf (ev_fn ok (sp_indexOf (k:=k + 7) str_inj (fun a=>.str a) h3 h4 ok) (evl_cons (ev_name rfl) (evl_cons (ev_name rfl) evl_nil))),fun h=>nomatch h⟩
  · obtain ⟨h3,h4⟩:=si s hs
    exact ⟨_,true,asg_name (.inl rfl),keep_cons rfl,evt_nil,fun _=>emitL_leaf (ev_fn ok (sp_indexOf (k:=k + 7) int_inj (fun a=>.int a) h3 h4 ok) (evl_cons (ev_name rfl) (evl_cons (ev_name rfl) evl_nil))),fun h=>nomatch h⟩
  have b1:((lvOf p cs ++ oxOf p cs).flatMap fun l=>(List.range l.length).flatMap fun j:Nat=>[Dat.int (j:Int)]).length≤1200:=by
    refine Nat.le_trans (flat_le (n:=100) fun l hl=>?_) (by omega)
    rw [flat_single,List.length_map,List.length_range]; exact (hmem l hl).1
  have b2:((List.range (sizesOf p).length).flatMap fun j:Nat=>[Dat.int (if ((4 + p:Nat):Int) - (j:Int) < (j:Int) then ((4 + p:Nat):Int) - (j:Int) else (j:Int))]).length≤6:=by rw [flat_single,List.length_map,List.length_range]; exact hs6
  refine cs_if (evbs_of (evb_cmp (ev_name rfl) (ev_bin (ev_lc2 (l:=lvOf p cs ++ oxOf p cs) (g:=fun l=>V.dat (strsD l)) (fun l=>(List.range l.length).flatMap fun j:Nat=>[Dat.int (j:Int)]) (by decide) (eit_listm (h:=strsD) (hlo rfl rfl)) (fun l hl=>?_) (by omega))
    (ev_lc1 (l:=List.range (sizesOf p).length) (g:=fun j:Nat=>V.dat (.int (j:Int))) (fun j:Nat=>[Dat.int (if ((4 + p:Nat):Int) - (j:Int) < (j:Int) then ((4 + p:Nat):Int) - (j:Int) else (j:Int))]) (by decide) (eit_rangeN (bname ok (by decide) rfl (by decide +kernel)) ?_ rfl (by omega)) (fun j hj=>?_) (by omega)) (bin_add_list (by omega))) (cmp_ne_list (c:=true) ?_ ?_ ?_) tr_bool)) h
  · refine ⟨_,true,asg_name (.inl rfl),keep_cons rfl,evt_nil,fun _=>emitL_node (l:=List.range l.length) (g:=fun j:Nat=>V.dat (.int (j:Int))) (f:=fun j:Nat=>[Dat.int (j:Int)]) (eit_rangeN (bname ok (by decide) rfl (by decide +kernel)) ?_ rfl (by have:=(hmem l hl).1; omega)) (fun j hj=>?_),fun h=>nomatch h⟩
    · have:=c_len_list (prog:=pw) (w:=w) (W:=W) (k:=k + 8) (ds:=l.map Dat.str) (by have:=(hmem l hl).1; simp; omega)
      rw [List.length_map] at this
      exact ev_b (bname ok (by decide) rfl (by decide +kernel)) (evl_cons (ev_name rfl) evl_nil) this
    · exact ⟨_,true,asg_name (.inl rfl),keep_cons rfl,evt_nil,fun _=>emitL_leaf (ev_name rfl),fun h=>nomatch h⟩
  · have:=c_len_list (prog:=pw) (w:=w) (W:=W) (k:=k + 8) (ds:=(sizesOf p).map Dat.int) (by simp; omega)
    rw [List.length_map] at this
    exact ev_b (bname ok (by decide) rfl (by decide +kernel)) (evl_cons (ev_name rfl) evl_nil) this
  · refine ⟨_,true,asg_name (.inl rfl),keep_cons rfl,evt_nil,fun _=>emitL_leaf (ev_b (bname ok (by decide) rfl (by decide +kernel)) (evl_cons (ev_name rfl) (evl_cons (ev_bin ?_ (ev_name rfl) bin_sub) evl_nil)) c_min2),fun h=>nomatch h⟩
    have:=c_len_str (prog:=pw) (w:=w) (W:=W) (k:=k + 8) (x:=lettersOf p) (by rcases hp with rfl | rfl <;> decide)
    rw [show (lettersOf p).length=4 + p by rcases hp with rfl | rfl <;> decide] at this
    exact ev_b (bname ok (by decide) rfl (by decide +kernel)) (evl_cons (ev_name rfl) evl_nil) this
  · refine ⟨fun _=>?_,fun _=>rfl⟩
    unfold aheadOf
    congr 1
    · refine flatMap_cg fun l hl=>?_
      rw [flat_single,flat_single,← pos_nodup (hmem l hl).2,List.map_map]; rfl
    · rw [flat_single,flat_single]
      have:=congrArg (List.map Dat.int) se
      rw [List.map_map,List.map_map] at this
      exact this
  · intro d hd
    unfold aheadOf at hd
    rcases List.mem_append.mp hd with h | h
    · obtain ⟨l,_,h⟩:=List.mem_flatMap.mp h
      obtain ⟨x,_,h⟩:=List.mem_flatMap.mp h
      cases List.mem_singleton.mp h; rfl
    · obtain ⟨x,_,h⟩:=List.mem_flatMap.mp h
      cases List.mem_singleton.mp h; rfl
  · intro d hd
    rcases List.mem_append.mp hd with h | h
    · obtain ⟨l,_,h⟩:=List.mem_flatMap.mp h
      obtain ⟨x,_,h⟩:=List.mem_flatMap.mp h
      cases List.mem_singleton.mp h; rfl
    · obtain ⟨x,_,h⟩:=List.mem_flatMap.mp h
      cases List.mem_singleton.mp h; rfl
end Mine
namespace Mine
theorem getD_set (b:Array UInt8) (i q:Nat) (v:UInt8) (hi:i < b.size):(b.setIfInBounds i v).getD q 0=if q=i then v else b.getD q 0:=by
  rw [Array.getD_eq_getD_getElem?,Array.getD_eq_getD_getElem?,Array.getElem?_setIfInBounds]
  by_cases h:i=q
  · subst h; rw [if_pos rfl,if_pos rfl,if_pos hi]; rfl
  · rw [if_neg h,if_neg fun e=>h e.symm]
theorem swIn_at (x:Array UInt8) (c i d:Nat) (hd:i * c=d) (q:Nat):∀ (l:List Nat) (b:Array UInt8),(∀ j ∈ l,j < c)→d + c≤b.size →
    (swIn x b c i l).getD q 0=if d≤q∧q < d + c∧d + c - 1 - q ∈ l then x.getD (d + (d + c - 1 - q)) 0 else b.getD q 0
  | [],b,_,_=>by rw [if_neg (by simp)]; rfl
  | j :: l,b,hl,hb=>by
    have hj:=hl j (.head _)
    have e:swIn x b c i (j :: l)=swIn x (b.setIfInBounds (d + c - 1 - j) (x.getD (d + j) 0)) c i l:=by subst hd; rfl
    rw [e,swIn_at x c i d hd q l _ (fun j hj=>hl j (.tail _ hj)) (by simpa using hb),getD_set _ _ _ _ (by omega)]
    by_cases h1:d≤q∧q < d + c∧d + c - 1 - q ∈ l
    · rw [if_pos h1,if_pos ⟨h1.1,h1.2.1,.tail _ h1.2.2⟩]
    · rw [if_neg h1]
      by_cases h2:q=d + c - 1 - j
      · have h3:d + c - 1 - q=j:=by omega
        rw [if_pos h2,if_pos ⟨by omega,by omega,by rw [h3]; exact .head _⟩,h3]
      · rw [if_neg h2,if_neg]
        rintro ⟨h3,h4,h5⟩
        rcases List.mem_cons.mp h5 with h6 | h6
        · omega
        · exact h1 ⟨h3,h4,h6⟩
theorem swOut_at (x:Array UInt8) (c:Nat) (hc:0 < c) (q:Nat):∀ (l:List Nat) (b:Array UInt8),(∀ i ∈ l,i * c + c≤b.size) →
    (swOut x b c l).getD q 0=if q / c ∈ l then x.getD (q / c * c + (c - 1 - q % c)) 0 else b.getD q 0
  | [],b,_=>by rw [if_neg (by simp)]; rfl
  | i :: l,b,hl=>by
    have hi:=hl i (.head _)
    have e:swOut x b c (i :: l)=swOut x (swIn x b c i (List.range c)) c l:=rfl
    rw [e,swOut_at x c hc q l _ (fun i hi=>by rw [swIn_size]; exact hl i (.tail _ hi)),swIn_at x c i _ rfl q (List.range c) b (fun j hj=>List.mem_range.mp hj) hi]
    have hq:=Nat.div_add_mod q c
    have hm:=Nat.mod_lt q hc
    by_cases h1:q / c ∈ l
    · rw [if_pos h1,if_pos (.tail _ h1)]
    · rw [if_neg h1]
      by_cases h2:q / c=i
      · rw [Nat.mul_comm,h2] at hq
        have h4:i * c + c - 1 - q=c - 1 - q % c:=by omega
        rw [if_pos ⟨by omega,by omega,List.mem_range.mpr (by omega)⟩,if_pos (by rw [h2]; exact .head _),h2,h4]
      · rw [if_neg,if_neg]
        · intro h
          rcases List.mem_cons.mp h with h | h
          · exact h2 h
          · exact h1 h
        · rintro ⟨h3,h4,_⟩
          exact h2 (Nat.div_eq_of_lt_le h3 (by rw [Nat.succ_mul]; exact h4))
theorem swap_get {x:Array UInt8} {m c q:Nat} (hx:x.size=m * c) (hc:0 < c) (hq:q < m * c):(swapOf x c).getD q 0=x.getD (q / c * c + (c - 1 - q % c)) 0:=by
  have hs:x.size / c=m:=by rw [hx]; exact Nat.mul_div_cancel _ hc
  unfold swapOf
  rw [hs,swOut_at x c hc q _ _ (fun i hi=>?_),if_pos]
  · exact List.mem_range.mpr ((Nat.div_lt_iff_lt_mul hc).mpr hq)
  · have hi:=List.mem_range.mp hi
    rw [Array.size_replicate,hx,← Nat.succ_mul]
    exact Nat.mul_le_mul_right _ hi
theorem byte_get {l:List Int} (h:∀ n ∈ l,0≤n∧n < 256) (q:Nat):(((byteArr l).getD q 0).toNat:Int)=l.getD q 0:=by
  have e:byteArr l=(l.map fun n=>UInt8.ofNat n.toNat).toArray:=by unfold byteArr; rfl
  rw [e,Array.getD_eq_getD_getElem?,List.getElem?_toArray,List.getElem?_map,List.getD_eq_getElem?_getD]
  cases e:l[q]? with
  | none=>rfl
  | some n =>
    obtain ⟨h1,h2⟩:=h n (List.mem_of_getElem? e)
    show ((UInt8.ofNat n.toNat).toNat:Int)=n
    rw [UInt8.toNat_ofNat']
    omega
theorem byte_size (l:List Int):(byteArr l).size=l.length:=by unfold byteArr; simp
theorem swap_ints {l:List Int} {m c:Nat} (h:∀ n ∈ l,0≤n∧n < 256) (hl:l.length=m * c) (hc:0 < c):bInts (swapOf (byteArr l) c)=(List.range (m * c)).map fun q=>l.getD (q / c * c + (c - 1 - q % c)) 0:=by
  have hx:(byteArr l).size=m * c:=by rw [byte_size,hl]
  have hs:(swapOf (byteArr l) c).size=m * c:=by unfold swapOf; rw [swOut_size,Array.size_replicate,hx]
  rw [bInts_range,hs]
  apply List.map_congr_left
  intro q hq
  rw [swap_get hx hc (List.mem_range.mp hq),byte_get h]
theorem swap_one {l:List Int} (h:∀ n ∈ l,0≤n∧n < 256) (h0:0 < l.length):bInts (swapOf (byteArr l) l.length)=l.reverse:=by
  rw [swap_ints (m:=1) h (by omega) h0]
  apply List.ext_getElem
  · simp
  · intro i h1 h2
    simp at h1
    simp only [List.getElem_map,List.getElem_range,List.getElem_reverse]
    rw [Nat.div_eq_of_lt h1,Nat.mod_eq_of_lt h1,List.getD_eq_getElem?_getD,Nat.zero_mul,Nat.zero_add,List.getElem?_eq_getElem (by omega)]
    rfl
theorem swap_three {a b d:List Int} {c:Nat} (h:∀ n ∈ a ++ b ++ d,0≤n∧n < 256) (ha:a.length=c) (hb:b.length=c) (hd:d.length=c) (hc:0 < c):bInts (swapOf (byteArr (a ++ b ++ d)) c)=a.reverse ++ b.reverse ++ d.reverse:=by
  rw [swap_ints (m:=3) h (by simp; omega) hc]
  apply List.ext_getElem
  · simp; omega
  · intro i h1 h2
    simp at h1
    simp only [List.getElem_map,List.getElem_range]
    rw [List.getD_eq_getElem?_getD]
    by_cases i1:i < c
    · rw [Nat.div_eq_of_lt i1,Nat.mod_eq_of_lt i1,Nat.zero_mul,Nat.zero_add,List.append_assoc,List.getElem?_append_left (by omega),List.getElem?_eq_getElem (by omega)]
      rw [List.getElem_append_left (by simp; omega),List.getElem_append_left (by simp; omega),List.getElem_reverse]
      simp only [Option.getD_some,ha]
    · by_cases i2:i < 2 * c
      · have e1:i / c=1:=by rw [Nat.div_eq_of_lt_le] <;> omega
        have e2:i % c=i - c:=by rw [Nat.mod_eq_sub_mod (by omega),Nat.mod_eq_of_lt (by omega)]
        rw [e1,e2,Nat.one_mul,List.append_assoc,List.getElem?_append_right (by omega),List.getElem?_append_left (by omega),List.getElem?_eq_getElem (by omega)]
        rw [List.getElem_append_left (by simp; omega),List.getElem_append_right (by simp; omega),List.getElem_reverse]
        simp only [Option.getD_some,List.length_reverse,ha,hb]
        congr 1; omega
      · have e1:i / c=2:=by rw [Nat.div_eq_of_lt_le] <;> omega
        have e2:i % c=i - 2 * c:=by rw [Nat.mod_eq_sub_mod (by omega),Nat.mod_eq_sub_mod (by omega),Nat.mod_eq_of_lt (by omega)]; omega
        rw [e1,e2,List.getElem?_append_right (by simp; omega),List.getElem?_eq_getElem (by simp; omega)]
        rw [List.getElem_append_right (by simp; omega),List.getElem_reverse]
        simp only [Option.getD_some,List.length_append,List.length_reverse,ha,hb,hd]
        congr 1; omega
end Mine
namespace Mine
def ctsOf (p:Nat) (lv:List (List Str)):List Int:=(List.range (5 + p)).map fun j=>((lv.getD j []).length:Int)
def conv (prev:Nat):List Nat→List Nat→List Int
  | h :: hs,r :: rs=>((h + r + prev:Nat):Int) :: conv r hs rs
  | _,_=>[(prev:Int)]
abbrev ni (l:List Nat):List Int:=l.map fun d:Nat=>(d:Int)
theorem dv_conv (n:Nat):∀ (hs rs:List Nat) (prev:Nat),hs.length=rs.length→dv n (conv prev hs rs)=dv n (ni hs) + BB n * (dvN n rs:Int) + prev
  | [],[],prev,_=>by simp [conv,dv,dvN]
  | h :: hs,r :: rs,prev,e=>by
    rw [conv,dv,dv_conv n hs rs r (by simpa using e),show ni (h :: hs)=(h:Int) :: ni hs from rfl,dv,dvN]
    show _=_ + (2 ^ n + 1) * _ + _
    show _ + 2 ^ n * (_ + (2 ^ n + 1) * _ + _)=_
    push_cast
    generalize (2:Int) ^ n=x
    generalize dv n (ni hs)=y
    generalize (dvN n rs:Int)=z
    grind
  | [],_ :: _,_,e=>by simp at e
  | _ :: _,[],_,e=>by simp at e
theorem dv_bound (n:Nat):∀ (l:List Int),(∀ d ∈ l,0≤d∧d < 128)→0≤dv n l∧dv n l < 2 ^ ((n + 1) * l.length + 7)
  | [],_=>by simp [dv]
  | d :: r,h=>by
    obtain ⟨h1,h2⟩:=h d (.head _)
    obtain ⟨h3,h4⟩:=dv_bound n r fun d hd=>h d (.tail _ hd)
    have ha:(1:Int)≤2 ^ n:=by have:(0:Int) < 2 ^ n:=Int.pow_pos (by decide); omega
    have hb:(128:Int)≤2 ^ ((n + 1) * r.length + 7):=by
      have:(2:Nat) ^ 7≤2 ^ ((n + 1) * r.length + 7):=Nat.pow_le_pow_right (by decide) (by omega)
      exact_mod_cast this
    have e:(2:Int) ^ ((n + 1) * (d :: r).length + 7)=2 * (2 ^ n * 2 ^ ((n + 1) * r.length + 7)):=by
      rw [List.length_cons,← Int.pow_add,← Int.pow_succ']
      congr 1
      rw [Nat.mul_add]; omega
    rw [dv,e]
    have m1:0≤2 ^ n * dv n r:=Int.mul_nonneg (by omega) h3
    have m2:2 ^ n * dv n r≤2 ^ n * (2 ^ ((n + 1) * r.length + 7) - 1):=Int.mul_le_mul_of_nonneg_left (by omega) (by omega)
    have m3:(2:Int) ^ n * (2 ^ ((n + 1) * r.length + 7) - 1)=2 ^ n * 2 ^ ((n + 1) * r.length + 7) - 2 ^ n:=by rw [Int.mul_sub,Int.mul_one]
    have m4:1 * 128≤(2:Int) ^ n * 2 ^ ((n + 1) * r.length + 7):=Int.mul_le_mul ha hb (by decide) (by omega)
    omega
theorem bits_le {x b:Nat} (h:x < 2 ^ b):bitsN x≤b:=by
  unfold bitsN
  split
  · omega
  · rename_i h0
    have:=(Nat.log2_lt h0).mpr h
    omega
theorem bits_width (n:Nat):bitsN (2 ^ n + 1)=n + 1 ∨ (n=0∧bitsN (2 ^ n + 1)=2):=by
  cases n with
  | zero=>exact .inr ⟨rfl,by decide⟩
  | succ n =>
    left
    have h0:(2:Nat) ^ (n + 1) + 1≠0:=by omega
    have h1:2 ^ (n + 1) + 1 < 2 ^ (n + 2):=by
      have:2 ^ (n + 2)=2 * 2 ^ (n + 1):=by rw [Nat.pow_succ,Nat.mul_comm]
      have:2≤2 ^ (n + 1):=by rw [Nat.pow_succ]; have:=Nat.one_le_two_pow (n:=n); omega
      omega
    have h2:=(Nat.log2_lt h0).mpr h1
    have h3:n + 1≤(2 ^ (n + 1) + 1).log2:=(Nat.le_log2 h0).mpr (by omega)
    unfold bitsN
    rw [if_neg h0]; omega
theorem dv_fits {wd:Nat} {a b:List Int} (ha:∀ d ∈ a,0≤d∧d < 128) (hb:∀ d ∈ b,0≤d∧d < 128) (la:a.length≤6) (lb:b.length≤6) (h0:0 < wd) (hw:wd≤42) :
    nDig (bitsN (2 ^ wd + 1)) (dv wd a - dv wd b).natAbs≤14∧(dv wd a - dv wd b).natAbs < 2 ^ 1000:=by
  have up:∀ l:List Int,l.length≤6→(2:Int) ^ ((wd + 1) * l.length + 7)≤2 ^ ((wd + 1) * 6 + 7):=fun l hl=>by
    have:(2:Nat) ^ ((wd + 1) * l.length + 7)≤2 ^ ((wd + 1) * 6 + 7):=Nat.pow_le_pow_right (by decide) (by have:=Nat.mul_le_mul_left (wd + 1) hl; omega)
    exact_mod_cast this
  obtain ⟨a1,a2⟩:=dv_bound wd a ha
  obtain ⟨b1,b2⟩:=dv_bound wd b hb
  have a3:=up a la
  have b3:=up b lb
  have hlt:(dv wd a - dv wd b).natAbs < 2 ^ ((wd + 1) * 6 + 7):=by
    have:((dv wd a - dv wd b).natAbs:Int) < 2 ^ ((wd + 1) * 6 + 7):=by omega
    exact_mod_cast this
  refine ⟨?_,Nat.lt_of_lt_of_le hlt (Nat.pow_le_pow_right (by decide) (by omega))⟩
  have h1:=bits_le hlt
  rcases bits_width wd with h2 | ⟨h2,_⟩
  · rw [h2]
    unfold nDig
    refine Nat.le_of_lt_succ ((Nat.div_lt_iff_lt_mul (by omega)).mpr ?_)
    omega
  · omega
def hols (p a0 a1 mid b1 b0:Nat):List Nat:=[a0,a1] ++ List.replicate p mid ++ [b1,b0]
structure Duo (p:Nat) (lv ox:List (List Str)) (rs rs':List Nat) (a0 a1 mid b1 b0:Nat):Prop where
  low:lowOf (lv.getD 0 []) (lv.getD 1 []) (lv.getD 2 [])=[(a0:Int),(a1:Int)]
  high:lowOf (ox.getD 0 []) (ox.getD 1 []) (ox.getD 2 [])=[(b0:Int),(b1:Int)]
  rk:ranksOf lv=some rs
  rk':ranksOf ox=some rs'
  lr:rs.length=4 + p
  lr':rs'.length=4 + p
  br:∀ d ∈ rs,d < 8
  br':∀ d ∈ rs',d < 8
  eq:ctsOf p lv=conv 0 (hols p a0 a1 mid b1 b0) rs
  eq':ctsOf p ox=conv 0 (hols p a0 a1 mid b1 b0).reverse rs'
  few:((sizesOf p).zip (ctsOf p lv).reverse).map (fun q=>q.1 - q.2)=ctsOf p ox
  bh:∀ d ∈ hols p a0 a1 mid b1 b0,d < 8
section
variable {p:Nat} {lv ox:List (List Str)} {rs rs':List Nat} {a0 a1 mid b1 b0:Nat}
theorem hols_len:(hols p a0 a1 mid b1 b0).length=4 + p:=by unfold hols; simp; omega
theorem Duo.told (D:Duo p lv ox rs rs' a0 a1 mid b1 b0) (wd:Nat):dv wd (ctsOf p lv) - dv wd (ni (hols p a0 a1 mid b1 b0))=BB wd * (dvN wd rs:Int):=by
  rw [D.eq,dv_conv wd _ _ _ (by rw [hols_len,D.lr])]; simp; omega
theorem dv_zero (n:Nat):∀ l:List Int,dv n (l ++ [0])=dv n l
  | []=>by simp [dv]
  | d :: r=>by rw [List.cons_append,dv,dv_zero n r,dv]
theorem Duo.told' (D:Duo p lv ox rs rs' a0 a1 mid b1 b0) (wd:Nat):dv wd (ctsOf p ox) - dv wd (ni (hols p a0 a1 mid b1 b0).reverse ++ [0])=BB wd * (dvN wd rs':Int):=by
  rw [dv_zero,D.eq',dv_conv wd _ _ _ (by rw [List.length_reverse,hols_len,D.lr'])]; simp; omega
theorem Duo.middle (D:Duo p lv ox rs rs' a0 a1 mid b1 b0) (hp:p=1) {wd:Nat} (hw:3≤wd):(dv wd (ctsOf p lv) - dv wd (ni (hols p a0 a1 0 b1 b0))).fmod (BB wd)=mid:=by
  have h:=D.told wd
  have hm:mid < 8:=D.bh mid (by subst hp; unfold hols; simp)
  have hx:(8:Int)≤2 ^ wd:=by
    have:(2:Nat) ^ 3≤2 ^ wd:=Nat.pow_le_pow_right (by decide) hw
    exact_mod_cast this
  subst hp
  have e:dv wd (ctsOf 1 lv) - dv wd (ni (hols 1 a0 a1 0 b1 b0))=mid + BB wd * ((dvN wd rs:Int) + (2 ^ wd - 1) * mid):=by
    simp only [hols,ni,List.replicate,List.cons_append,List.nil_append,List.map_cons,List.map_nil,dv,BB] at h ⊢
    clear hx hm D
    generalize (2:Int) ^ wd=x at h ⊢
    grind
  rw [e,Int.fmod_eq_emod_of_nonneg _ (Int.le_of_lt (BB_pos wd)),Int.add_mul_emod_self_left,Int.emod_eq_of_lt (by omega)]
  show (mid:Int) < 2 ^ wd + 1
  omega
end
end Mine
namespace Mine
theorem chkA_ok {rf size:Nat} (f:Nat→Bool):∀ (l:List Row) (k:Kept) (o:List Nat) (n:Nat),chkA rf size l k o n=true →
    ∃ kk,((l.filter fun t=>f t.1).map (·.2.1)).foldlM stp k=some kk∧Rk (((l.filter fun t=>!f t.1).map (·.2.2.1)).reverse ++ o) + rf + (n + (l.filter fun t=>f t.1).length)=size + kk.length∧kk.length < 8∧Rk (((l.filter fun t=>!f t.1).map (·.2.2.1)).reverse ++ o) < 8
  | [],k,o,n,h=>by
    unfold chkA at h
    simp only [Bool.and_eq_true,beq_iff_eq,decide_eq_true_eq] at h
    exact ⟨k,rfl,by simpa using h.1.1,h.1.2,by simpa using h.2⟩
  | t :: r,k,o,n,h=>by
    unfold chkA at h
    simp only [Bool.and_eq_true] at h
    obtain ⟨h1,h2⟩:=h
    cases hf:f t.1 with
    | false =>
      obtain ⟨kk,e1,e2,e3,e4⟩:=chkA_ok f r _ _ _ h1
      refine ⟨kk,?_,?_,e3,?_⟩
      · rw [List.filter_cons_of_neg (by simp [hf])]; exact e1
      · rw [List.filter_cons_of_pos (by simp [hf]),List.filter_cons_of_neg (by simp [hf]),List.map_cons,List.reverse_cons,List.append_assoc]; exact e2
      · rw [List.filter_cons_of_pos (by simp [hf]),List.map_cons,List.reverse_cons,List.append_assoc]; exact e4
    | true =>
      cases hs:stp k t.2.1 with
      | none=>rw [hs] at h2; cases h2
      | some k' =>
        rw [hs] at h2
        obtain ⟨kk,e1,e2,e3,e4⟩:=chkA_ok f r _ _ _ h2
        refine ⟨kk,?_,?_,e3,?_⟩
        · rw [List.filter_cons_of_pos (by simp [hf]),List.map_cons,List.foldlM_cons,hs]; exact e1
        · rw [List.filter_cons_of_neg (by simp [hf]),List.filter_cons_of_pos (by simp [hf]),List.length_cons]; omega
        · rw [List.filter_cons_of_neg (by simp [hf])]; exact e4
theorem chkB2_ok (f:Nat→Bool):∀ (l:List Row) (k:Kept) (k1 n:Nat),chkB2 l k k1 n=true→∃ kk,((l.filter fun t=>f t.1).map (·.2.1)).foldlM stp k=some kk∧k1 + kk.length≤n∧n≤k1 + kk.length + 7
  | [],k,k1,n,h=>by
    unfold chkB2 at h
    simp only [Bool.and_eq_true,decide_eq_true_eq] at h
    exact ⟨k,rfl,h.1,h.2⟩
  | t :: r,k,k1,n,h=>by
    unfold chkB2 at h
    simp only [Bool.and_eq_true] at h
    obtain ⟨h1,h2⟩:=h
    cases hf:f t.1 with
    | false=>rw [List.filter_cons_of_neg (by simp [hf])]; exact chkB2_ok f r _ _ _ h1
    | true =>
      cases hs:stp k t.2.1 with
      | none=>rw [hs] at h2; cases h2
      | some k' =>
        rw [hs] at h2
        obtain ⟨kk,e1,e2⟩:=chkB2_ok f r _ _ _ h2
        exact ⟨kk,by rw [List.filter_cons_of_pos (by simp [hf]),List.map_cons,List.foldlM_cons,hs]; exact e1,e2⟩
theorem chkB1_ok (T:List Row) (f:Nat→Bool):∀ (l:List Row) (k:Kept) (E:List Nat) (n:Nat),chkB1 T l k E n=true →
    ∃ kk,((l.filter fun t=>f t.1).map (·.2.1)).foldlM stp k=some kk∧chkB2 (T.filter fun t=>t.2.2.2.all fun e=>(((l.filter fun t=>f t.1).map (·.1)).reverse ++ E).contains e) [] kk.length (n + (l.filter fun t=>f t.1).length)=true
  | [],k,E,n,h=>⟨k,rfl,h⟩
  | t :: r,k,E,n,h=>by
    unfold chkB1 at h
    simp only [Bool.and_eq_true] at h
    obtain ⟨h1,h2⟩:=h
    cases hf:f t.1 with
    | false=>rw [List.filter_cons_of_neg (by simp [hf])]; exact chkB1_ok T f r _ _ _ h1
    | true =>
      cases hs:stp k t.2.1 with
      | none=>rw [hs] at h2; cases h2
      | some k' =>
        rw [hs] at h2
        obtain ⟨kk,e1,e2⟩:=chkB1_ok T f r _ _ _ h2
        refine ⟨kk,by rw [List.filter_cons_of_pos (by simp [hf]),List.map_cons,List.foldlM_cons,hs]; exact e1,?_⟩
        rw [List.filter_cons_of_pos (by simp [hf]),List.map_cons,List.reverse_cons,List.length_cons,List.append_assoc,← Nat.add_assoc,Nat.add_right_comm]
        exact e2
theorem chkC2_ok (f:Nat→Bool) {v:Nat}:∀ (l:List (Row × Str)) (k:Kept) (ps:List Str),chkC2 v l k ps=true→∃ kk ps',((l.filter fun t=>f t.1.1).map (·.1.2.1)).foldlM stp k=some kk∧((l.filter fun t=>f t.1.1).map (·.2)).foldl lowStep ps=ps' ∧
    v=(max 1 ps'.length - 1) + kk.length + (if v=0 then 0 else 1)∧(ps'.length=0 ↔ v=0)∧ps'.length≤5
  | [],k,ps,h=>by
    unfold chkC2 at h
    simp only [Bool.and_eq_true,beq_iff_eq,decide_eq_true_eq] at h
    refine ⟨k,ps,rfl,rfl,h.1.1,?_,h.2⟩
    have h2:=h.1.2
    rw [← beq_iff_eq (a:=ps.length),← beq_iff_eq (a:=v),h2]
  | t :: r,k,ps,h=>by
    unfold chkC2 at h
    simp only [Bool.and_eq_true] at h
    obtain ⟨h1,h2⟩:=h
    cases hf:f t.1.1 with
    | false=>rw [List.filter_cons_of_neg (by simp [hf])]; exact chkC2_ok f r _ _ h1
    | true =>
      cases hs:stp k t.1.2.1 with
      | none=>rw [hs] at h2; cases h2
      | some k' =>
        rw [hs] at h2
        obtain ⟨kk,ps',e1,e2,e3⟩:=chkC2_ok f r _ _ h2
        rw [List.filter_cons_of_pos (by simp [hf])]
        exact ⟨kk,ps',by rw [List.map_cons,List.foldlM_cons,hs]; exact e1,by rw [List.map_cons,List.foldl_cons]; exact e2,e3⟩
theorem chkC1_ok (T:List (Row × Str)) (f:Nat→Bool):∀ (l:List Row) (V:List Nat),chkC1 T l V=true →
    chkC2 (V ++ (l.filter fun t=>f t.1).map (·.1)).length (T.filter fun t=>t.1.2.2.2.all fun e=>(V ++ (l.filter fun t=>f t.1).map (·.1)).contains e) [] ((V ++ (l.filter fun t=>f t.1).map (·.1)).map nm)=true
  | [],V,h=>by rw [List.filter_nil,List.map_nil,List.append_nil]; exact h
  | t :: r,V,h=>by
    unfold chkC1 at h
    simp only [Bool.and_eq_true] at h
    obtain ⟨h1,h2⟩:=h
    cases hf:f t.1 with
    | false=>rw [List.filter_cons_of_neg (by simp [hf])]; exact chkC1_ok T f r _ h1
    | true =>
      have:=chkC1_ok T f r _ h2
      rw [List.append_assoc] at this
      rw [List.filter_cons_of_pos (by simp [hf]),List.map_cons]; exact this
theorem tb_col:∀ p,p < 2→∀ j,j < 4 + p→∀ t ∈ TB p (j + 1),colOf ((TB p j).map fun t=>nm t.1) (nm t.1)=some t.2.1:=by decide +kernel
theorem tb_dual:∀ p,p < 2→∀ j,j≤4 + p→(TB p (4 + p - j)).map (fun t=>(t.1,t.2.1))=((TB p j).map fun t=>(t.1 ^^^ fmOf p,t.2.2.1)).reverse:=by decide +kernel
theorem tb_fac:∀ p,p < 2→∀ j,j < 4 + p→∀ t ∈ TB p (j + 1),∀ e ∈ t.2.2.2,e &&& t.1=e∧e < 2 ^ (4 + p)∧e ∈ (TB p j).map (·.1):=by decide +kernel
theorem tb_small:∀ p,p < 2→∀ j,j≤4 + p→∀ t ∈ TB p j,t.1 < 2 ^ (4 + p)∧t.1 ^^^ fmOf p < 2 ^ (4 + p)∧(t.1 ^^^ fmOf p) ^^^ fmOf p=t.1:=by decide +kernel
theorem tb_nodup:∀ p,p < 2→∀ j,j≤4 + p→((TB p j).map fun t=>nm t.1).Nodup:=by decide +kernel
theorem tb_name:∀ p,p < 2→∀ j,j≤4 + p→∀ t ∈ TB p j,nm t.1 ∈ namesOf p∧(nm t.1).length=j∧(nm t.1).length≤5:=by decide +kernel
theorem tb_without:∀ p,p < 2→∀ j,j < 4 + p→∀ t ∈ TB p (j + 1),∀ i,i < (nm t.1).length→∃ e ∈ t.2.2.2,without (nm t.1) i=nm e:=by decide +kernel
theorem tb_sub:∀ p,p < 2→∀ m,m < 2 ^ (4 + p)→∀ m',m' < 2 ^ (4 + p)→m' &&& m=m'→(m ^^^ fmOf p) &&& (m' ^^^ fmOf p)=m ^^^ fmOf p:=by decide +kernel
theorem tb_len:∀ p,p < 2→∀ j,j≤4 + p→(TB p j).length≤10:=by decide +kernel
end Mine
namespace Mine
def SS (p:Nat) (F:Nat→Bool) (j:Nat):List Row:=(TB p j).filter fun t=>F t.1
def SN (p:Nat) (F:Nat→Bool) (j:Nat):List Str:=(SS p F j).map fun t=>nm t.1
def LL (p:Nat) (F:Nat→Bool):List (List Str):=(List.range (5 + p)).map (SN p F)
def RR (p:Nat) (F:Nat→Bool) (j:Nat):Nat:=Rk ((SS p F j).map (·.2.1))
def GG (p:Nat) (F:Nat→Bool) (m:Nat):Bool:=!F (m ^^^ fmOf p)
def Closed (p:Nat) (F:Nat→Bool):Prop:=∀ m,m < 2 ^ (4 + p)→F m=true→∀ m',m' < 2 ^ (4 + p)→m' &&& m=m'→F m'=true
section
variable {p:Nat} {F:Nat→Bool}
theorem closed_dual (hp:p < 2) (h:Closed p F):Closed p (GG p F):=fun m hm hG m' hm' hs=>by
  unfold GG at hG ⊢
  have hx:∀ p,p < 2→∀ m,m < 2 ^ (4 + p)→m ^^^ fmOf p < 2 ^ (4 + p):=by decide +kernel
  cases hf:F (m' ^^^ fmOf p) with
  | false=>rfl
  | true =>
    have:=h _ (hx p hp m' hm') hf _ (hx p hp m hm) (tb_sub p hp m hm m' hm' hs)
    rw [this] at hG; cases hG
theorem mem_SS {j:Nat} {t:Row}:t ∈ SS p F j ↔ t ∈ TB p j∧F t.1=true:=List.mem_filter
theorem rk_of {cs:List Nat} {kk:Kept} (h:cs.foldlM stp []=some kk):Rk cs=kk.length:=by unfold Rk; rw [h]
theorem rkA (hp:p < 2) {j:Nat} (hj:j≤4 + p):∃ kk,((SS p F j).map (·.2.1)).foldlM stp []=some kk∧RR p F j=kk.length∧RR p F j < 8:=by
  obtain ⟨kk,e1,e2,e3,e4⟩:=chkA_ok F _ _ _ _ (chkA_all p hp j hj)
  exact ⟨kk,e1,rk_of e1,by rw [show RR p F j=kk.length from rk_of e1]; exact e3⟩
theorem dual_eq (hp:p < 2) {j:Nat} (hj:j≤4 + p):RR p (GG p F) (4 + p - j) + RF p j + (SS p F j).length=(TB p j).length + RR p F j∧(SS p (GG p F) (4 + p - j)).length + (SS p F j).length=(TB p j).length:=by
  obtain ⟨kk,e1,e2,e3,e4⟩:=chkA_ok F _ _ _ _ (chkA_all p hp j hj)
  have hd:=tb_dual p hp j hj
  have key:(SS p (GG p F) (4 + p - j)).map (fun t=>(t.1,t.2.1))=(((TB p j).filter fun t=>!F t.1).map fun t=>(t.1 ^^^ fmOf p,t.2.2.1)).reverse:=by
    unfold SS
    have h1:((TB p (4 + p - j)).filter fun t=>GG p F t.1).map (fun t=>(t.1,t.2.1))=((TB p (4 + p - j)).map (fun t=>(t.1,t.2.1))).filter fun q=>GG p F q.1:=by rw [List.filter_map]; rfl
    rw [h1,hd,List.filter_reverse,List.filter_map]
    congr 2
    refine List.filter_congr fun t ht=>?_
    show GG p F (t.1 ^^^ fmOf p)=_
    unfold GG
    rw [(tb_small p hp j hj t ht).2.2]
  have k1:(SS p (GG p F) (4 + p - j)).map (·.2.1)=(((TB p j).filter fun t=>!F t.1).map (·.2.2.1)).reverse:=by
    have:=congrArg (List.map Prod.snd) key
    rw [List.map_map,List.map_reverse,List.map_map] at this
    exact this
  have k2:(SS p (GG p F) (4 + p - j)).length=((TB p j).filter fun t=>!F t.1).length:=by
    have:=congrArg List.length key
    simpa using this
  refine ⟨?_,?_⟩
  · have hk:RR p F j=kk.length:=rk_of e1
    rw [hk]
    unfold RR
    rw [k1,← List.append_nil (List.reverse _)]
    simp only [Nat.zero_add] at e2
    exact e2
  · rw [k2]
    unfold SS
    have:∀ l:List Row,(l.filter fun t=>!F t.1).length + (l.filter fun t=>F t.1).length=l.length:=by
      intro l
      induction l with
      | nil=>rfl
      | cons a r ih =>
        cases hf:F a.1
        · rw [List.filter_cons_of_pos (by simp [hf]),List.filter_cons_of_neg (by simp [hf])]; simp only [List.length_cons]; omega
        · rw [List.filter_cons_of_neg (by simp [hf]),List.filter_cons_of_pos (by simp [hf])]; simp only [List.length_cons]; omega
    exact this _
theorem kept_cols {full:List Str}:∀ (rows:List Row) (k:Kept),(∀ t ∈ rows,colOf full (nm t.1)=some t.2.1)→(rows.map fun t=>nm t.1).foldlM (rankStep full) k=(rows.map (·.2.1)).foldlM stp k
  | [],k,_=>rfl
  | t :: r,k,h=>by
    rw [List.map_cons,List.map_cons,List.foldlM_cons,List.foldlM_cons]
    have e:rankStep full k (nm t.1)=stp k t.2.1:=by unfold rankStep; rw [h t (.head _)]; rfl
    rw [e]
    cases stp k t.2.1 with
    | none=>rfl
    | some k'=>exact kept_cols r k' fun t ht=>h t (.tail _ ht)
theorem kept_LL (hp:p < 2) (hF:Closed p F) {j:Nat} (hj:j < 4 + p):∃ kp,keptOf (SN p F j) (SN p F (j + 1))=some kp∧kp.length=RR p F (j + 1):=by
  obtain ⟨kk,e1,e2,_⟩:=rkA (F:=F) hp (show j + 1≤4 + p by omega)
  have hfull:keptOf ((TB p j).map fun t=>nm t.1) (SN p F (j + 1))=some kk:=by
    unfold keptOf SN
    rw [kept_cols _ _ fun t ht=>tb_col p hp j hj t (mem_SS.mp ht).1]
    exact e1
  have hsub:(SN p F j).Sublist ((TB p j).map fun t=>nm t.1):=by unfold SN SS; exact List.filter_sublist.map _
  have hcl:∀ x ∈ SN p F (j + 1),∀ i,i < x.length→∃ n,idxOf (without x i) (SN p F j)=some n:=fun x hx i hi=>by
    obtain ⟨t,ht,rfl⟩:=List.mem_map.mp hx
    obtain ⟨ht1,ht2⟩:=mem_SS.mp ht
    obtain ⟨e,he,hw⟩:=tb_without p hp j hj t ht1 i hi
    obtain ⟨f1,f2,f3⟩:=tb_fac p hp j hj t ht1 e he
    obtain ⟨t',ht',rfl⟩:=List.mem_map.mp f3
    rw [hw]
    have hm:nm t'.1 ∈ SN p F j:=List.mem_map.mpr ⟨t',mem_SS.mpr ⟨ht',hF t.1 (tb_small p hp (j + 1) (by omega) t ht1).1 ht2 t'.1 f2 f1⟩,rfl⟩
    exact idxOf_mem hm
  obtain ⟨kp,h1,h2⟩:=kept_full hsub (tb_nodup p hp j (by omega)) hcl hfull
  exact ⟨kp,h1,by rw [h2,e2]⟩
theorem tb_ones:∀ p,p < 2→∀ t ∈ TB p 1,t.2.1=1:=by decide +kernel
theorem rk_ones:∀ n,n < 6→Rk (List.replicate n 1)=if n=0 then 0 else 1:=by decide +kernel
theorem tb_one_len:∀ p,p < 2→(TB p 1).length < 6:=by decide +kernel
theorem RR_one (hp:p < 2):RR p F 1=if (SS p F 1).length=0 then 0 else 1:=by
  have h1:(SS p F 1).map (·.2.1)=List.replicate (SS p F 1).length 1:=by
    apply List.ext_getElem
    · simp
    · intro i a b
      simp only [List.length_map] at a
      rw [List.getElem_map,List.getElem_replicate]
      exact tb_ones p hp _ (mem_SS.mp (List.getElem_mem a)).1
  have h2:(SS p F 1).length < 6:=Nat.lt_of_le_of_lt (List.length_filter_le _ _) (tb_one_len p hp)
  unfold RR
  rw [h1,rk_ones _ h2]
theorem filter_twice {α:Type} {f g:α→Bool}:∀ {l:List α},(∀ t ∈ l,f t=true→g t=true)→(l.filter g).filter f=l.filter f
  | [],_=>rfl
  | a :: r,h=>by
    have ih:=filter_twice (f:=f) (g:=g) (l:=r) fun t ht=>h t (.tail _ ht)
    cases hf:f a with
    | true=>rw [List.filter_cons_of_pos (h a (.head _) hf),List.filter_cons_of_pos hf,List.filter_cons_of_pos hf,ih]
    | false =>
      rw [List.filter_cons_of_neg (p:=f) (by simp [hf])]
      cases hg:g a with
      | true=>rw [List.filter_cons_of_pos hg,List.filter_cons_of_neg (by simp [hf]),ih]
      | false=>rw [List.filter_cons_of_neg (by simp [hg]),ih]
theorem facets_in (hp:p < 2) (hF:Closed p F) {j:Nat} (hj:j < 4 + p) {t:Row} (ht:t ∈ TB p (j + 1)) (hf:F t.1=true):∀ e ∈ t.2.2.2,e ∈ (SS p F j).map (·.1):=fun e he=>by
  obtain ⟨f1,f2,f3⟩:=tb_fac p hp j hj t ht e he
  obtain ⟨t',ht',rfl⟩:=List.mem_map.mp f3
  exact List.mem_map.mpr ⟨t',mem_SS.mpr ⟨ht',hF t.1 (tb_small p hp (j + 1) (by omega) t ht).1 hf t'.1 f2 f1⟩,rfl⟩
theorem chkC_all (hp:p < 2):chkC1 ((TB p 2).map fun t=>(t,nm t.1)) (TB p 1) []=true:=by
  match p,hp with
  | 0,_=>exact chkC_0
  | 1,_=>exact chkC_1
theorem low_eq (hp:p < 2) (hF:Closed p F):∃ a0 a1:Nat,lowOf (SN p F 0) (SN p F 1) (SN p F 2)=[(a0:Int),(a1:Int)]∧(SS p F 0).length=a0 + RR p F 1∧(SS p F 1).length=a1 + RR p F 2 + RR p F 1∧a0 < 8∧a1 < 8:=by
  have h:=chkC1_ok ((TB p 2).map fun t=>(t,nm t.1)) F _ _ (chkC_all hp)
  rw [List.nil_append] at h
  obtain ⟨kk,ps,e1,e2,e3,e4,e5⟩:=chkC2_ok F _ _ _ h
  have hflt:(((TB p 2).map fun t=>(t,nm t.1)).filter fun t=>t.1.2.2.2.all fun e=>((SS p F 1).map (·.1)).contains e).filter (fun t=>F t.1.1)=(SS p F 2).map fun t=>(t,nm t.1):=by
    rw [filter_twice,List.filter_map]
    · rfl
    · intro t ht hf
      obtain ⟨t',ht',rfl⟩:=List.mem_map.mp ht
      simp only [List.all_eq_true,List.contains_iff_mem]
      exact facets_in hp hF (j:=1) (by omega) ht' hf
  have e1':((SS p F 2).map (·.2.1)).foldlM stp []=some kk:=by
    have:=e1
    unfold SS at hflt
    rw [hflt,List.map_map] at this
    exact this
  have e2':partsOf (SN p F 1) (SN p F 2)=ps:=by
    have:=e2
    unfold SS at hflt
    rw [hflt,List.map_map,List.map_map] at this
    exact this
  have hr2:RR p F 2=kk.length:=rk_of e1'
  have hr1:=RR_one (F:=F) hp
  have hl:((TB p 1).filter fun t=>F t.1).length=(SS p F 1).length:=rfl
  rw [List.length_map,hl] at e3 e4
  have hc0:(SS p F 1).length≠0→(SS p F 0).length=1:=fun hne=>by
    obtain ⟨t,ht⟩:=List.exists_mem_of_length_pos (Nat.pos_of_ne_zero hne)
    obtain ⟨ht1,ht2⟩:=mem_SS.mp ht
    have h0:F 0=true:=hF t.1 (tb_small p hp 1 (by omega) t ht1).1 ht2 0 (Nat.two_pow_pos _) (by simp)
    unfold SS
    match p,hp with
    | 0,_=>simp [TB,h0]
    | 1,_=>simp [TB,h0]
  have hc1:(SS p F 0).length≤1:=by
    refine Nat.le_trans (List.length_filter_le _ _) ?_
    match p,hp with
    | 0,_=>decide
    | 1,_=>decide
  have hpe:partsOf (SN p F 1) (SN p F 2)=[] ↔ (SS p F 1).length=0:=by rw [e2',← List.length_eq_zero_iff]; exact e4
  unfold lowOf
  by_cases hz:(SS p F 1).length=0
  · rw [if_pos hz] at hr1 e3
    have hps:ps.length=0:=e4.mpr hz
    refine ⟨(SS p F 0).length,0,?_,by omega,by omega,by omega,by omega⟩
    rw [if_pos (hpe.mpr hz),e2',hps]
    simp only [SN,List.length_map]; rfl
  · rw [if_neg hz] at hr1 e3
    have hps:ps.length≠0:=fun q=>hz (e4.mp q)
    refine ⟨0,ps.length - 1,?_,by have:=hc0 hz; omega,by omega,by omega,by omega⟩
    rw [if_neg (fun q=>hz (hpe.mp q)),e2']
    congr 2
    omega
theorem mid_eq (hF:Closed 1 F):RR 1 F 2 + RR 1 F 3≤(SS 1 F 2).length∧(SS 1 F 2).length≤RR 1 F 2 + RR 1 F 3 + 7:=by
  obtain ⟨k1,e1,e2⟩:=chkB1_ok (TB 1 3) F _ _ _ _ chkB_all
  obtain ⟨k2,e3,e4,e5⟩:=chkB2_ok F _ _ _ _ e2
  rw [filter_twice] at e3
  · have h1:RR 1 F 2=k1.length:=rk_of e1
    have h2:RR 1 F 3=k2.length:=rk_of e3
    have h3:((TB 1 2).filter fun t=>F t.1).length=(SS 1 F 2).length:=rfl
    rw [h3] at e4 e5
    omega
  · intro t ht hf
    simp only [List.all_eq_true,List.contains_iff_mem,List.append_nil,List.mem_reverse]
    exact facets_in (by decide) hF (j:=2) (by decide) ht hf
end
end Mine
namespace Mine
variable {w:World} {W:Wd} {k:Nat} {c:Nat}
def lensI (lv:List (List Str)):List Int:=lv.flatMap fun l=>l.map fun x=>(x.length:Int)
theorem cntD_take {l:List Int} {e:Int}:∀ n,n≤l.length→cntD l e n=((l.take n).count e:Int)
  | 0,_=>rfl
  | n + 1,h=>by
    have hn:n < l.length:=h
    rw [cntD,cntD_take n (by omega),List.take_add_one,List.getElem?_eq_getElem hn,List.count_append]
    show _=(((l.take n).count e + List.count e [l[n]]:Nat):Int)
    rw [List.count_singleton]
    by_cases he:l[n]=e
    · subst he; simp
    · rw [if_neg (by simpa using he),if_neg (by simpa using he)]; simp
theorem count_lens:∀ (lv:List (List Str)) (off j:Nat),(∀ k l,lv[k]?=some l→∀ x ∈ l,x.length=k + off)→(lensI lv).count (j:Int)=if off≤j then (lv.getD (j - off) []).length else 0
  | [],off,j,_=>by simp [lensI]
  | a :: r,off,j,h=>by
    have h0:∀ x ∈ a,x.length=off:=fun x hx=>by have:=h 0 a rfl x hx; omega
    have hr:=count_lens r (off + 1) j fun k l hk x hx=>by have:=h (k + 1) l (by simpa using hk) x hx; omega
    have e:lensI (a :: r)=(a.map fun x=>(x.length:Int)) ++ lensI r:=rfl
    rw [e,List.count_append,hr]
    have ha:(a.map fun x=>(x.length:Int)).count (j:Int)=if off=j then a.length else 0:=by
      have e2:(a.map fun x=>(x.length:Int))=List.replicate a.length (off:Int):=by
        apply List.ext_getElem
        · simp
        · intro i h1 h2
          simp only [List.length_map] at h1
          simp [h0 _ (List.getElem_mem h1)]
      rw [e2,List.count_replicate]
      by_cases hj:off=j
      · subst hj; simp
      · rw [if_neg hj,if_neg]; simpa using fun e:(off:Int)=(j:Int)=>hj (by exact_mod_cast e)
    rw [ha]
    by_cases h1:off=j
    · subst h1
      rw [if_pos rfl,if_neg (by omega),if_pos (Nat.le_refl _),Nat.sub_self]; simp
    · by_cases h2:off≤j
      · rw [if_neg h1,if_pos (by omega),if_pos h2,show j - off=(j - (off + 1)) + 1 by omega]; simp
      · rw [if_neg h1,if_neg (by omega),if_neg h2]
theorem Lvs.count {p:Nat} {lv:List (List Str)} (L:Lvs p lv) (j:Nat):cntD (lensI lv) (j:Int) (lensI lv).length=((lv.getD j []).length:Int):=by
  rw [cntD_take _ (Nat.le_refl _),List.take_length,count_lens lv 0 j fun k l hk x hx=>(L.mem k l hk x hx).2]
  rfl
def wdOf (cs:List Int):Nat:=(3 + (cs.sum.fdiv 32).fmod 40).toNat
theorem wd_eq (cs:List Int):3 + (cs.sum.fdiv 32).fmod 40=(wdOf cs:Int)∧3≤wdOf cs∧wdOf cs≤42:=by
  have h1:=Int.fmod_nonneg_of_pos (cs.sum.fdiv 32) (show (0:Int) < 40 by decide)
  have h2:=Int.fmod_lt_of_pos (cs.sum.fdiv 32) (show (0:Int) < 40 by decide)
  unfold wdOf; omega
def sgOf (cs:List Int) (part:Int):Int:=1 - 2 * (cs.sum.fdiv part).fmod 2
theorem sg_sign (cs:List Int) (part:Int):Sign (sgOf cs part):=by
  have h1:=Int.fmod_nonneg_of_pos (cs.sum.fdiv part) (show (0:Int) < 2 by decide)
  have h2:=Int.fmod_lt_of_pos (cs.sum.fdiv part) (show (0:Int) < 2 by decide)
  unfold sgOf Sign; omega
def octOf (p:Nat) (cs:List Int):List Int:=(cs.take (sizesOf p).length).map fun x=>255 - x.fmod 256
def midOf (p:Nat) (cs:List Int) (a0 a1 b1 b0:Nat):Int:=(dv (wdOf cs) (ctsOf p (lvOf p cs)) - dv (wdOf cs) (ni (hols p a0 a1 0 b1 b0))).fmod (BB (wdOf cs))
def G3 (ns cs:List Int) (p:Nat):Ctx':=("ahead",.val (.dat (.list (aheadOf p cs)))) :: G2 ns cs p
def G4 (ns cs:List Int) (p:Nat) (a0 a1 b1 b0:Nat):Ctx':=("signs",.val (.dat (il ([2,4,8,16].map (sgOf cs))))) :: ("width",.val (.dat (.int (wdOf cs)))) ::
  ("low",.val (.dat (il (ni [a0,a1])))) :: ("high",.val (.dat (il (ni [b0,b1])))) :: ("counts",.val (.dat (il (ctsOf p (lvOf p cs))))) :: ("lengths",.val (.dat (il (lensI (lvOf p cs))))) :: G3 ns cs p
theorem lens_dat (lv:List (List Str)):(lensI lv).map Dat.int=lv.flatMap fun l=>l.flatMap fun x=>[Dat.int (x.length:Int)]:=by
  unfold lensI
  rw [List.map_flatMap]
  refine flatMap_cg fun l _=>?_
  rw [flat_single,List.map_map]; rfl
theorem ev_lenL {sc:Scope} {fn:Bool} {Γ:Ctx'} (ok:Wok W) {α:Type} {l:List α} {h:α→Dat} {y:Str} {a b q:Pos} (hy:Γ.lookup y=some (.val (.dat (.list (l.map h))))) (hz:l.length≤10000) (hk:List.lookup ("len":Str) sc.names=some .globalImplicit)
    (hd:(y == ("__debug__":Str))=false:=by decide) (hn:(y == ("__classdict__":Str))=false:=by decide) :
    Ev pw w W k sc fn Γ (.Call (.Name "len" a) [.Name y b] [] q) (.dat (.int (l.length:Int))):=by
  have hz2:sizeLine=16777216:=rfl
  have:=c_len_list (prog:=pw) (w:=w) (W:=W) (k:=k) (ds:=l.map h) (by rw [List.length_map]; omega)
  rw [List.length_map] at this
  exact ev_b (bname ok (by decide) hk (by decide +kernel)) (evl_cons (ev_name hy hd hn) evl_nil) this
theorem law_s5 (T:WokT W) {ns cs:List Int} {p:Nat} (hp:p=0 ∨ p=1) (l1:Lvs p (lvOf p cs)) (l2:Lvs p (oxOf p cs)) {rs rs':List Nat} {a0 a1 mid b1 b0:Nat} (D:Duo p (lvOf p cs) (oxOf p cs) rs rs' a0 a1 mid b1 b0)
    (h:ExCS w W (lawPh c) (k + 23) (dRec 36).scope true (G4 ns cs p a0 a1 b1 b0) ((dRec 36).body.drop 21) (.ret (.dat (.bool true)))) :
    ExCS w W (lawPh c) (k + 23) (dRec 36).scope true (G3 ns cs p) ((dRec 36).body.drop 16) (.ret (.dat (.bool true))):=by
  have ok:=T.ok
  have hz2:sizeLine=16777216:=rfl
  have hL:(lvOf p cs).length≤6:=by rw [l1.len]; rcases hp with rfl | rfl <;> omega
  have hlen:(sizesOf p).length=5 + p:=by rcases hp with rfl | rfl <;> decide
  have hll:(lensI (lvOf p cs)).length≤600:=by
    refine Nat.le_trans (flat_le (n:=100) fun l hl=>?_) (by omega)
    rw [List.length_map]; exact l1.sz l hl
  refine cs_1 (Γ':=("lengths",.val (.dat (il (lensI (lvOf p cs))))) :: G3 ns cs p) (ex1_assign (x:=.dat (il (lensI (lvOf p cs)))) ?_ (.inr ⟨rfl,rfl⟩) (fun env he=>swaps_cell rfl env he)) ?_
  · show Ev _ _ _ _ _ _ _ _ (.dat (.list _))
    rw [lens_dat]
    refine ev_lc2 (l:=lvOf p cs) (g:=fun l=>V.dat (strsD l)) _ (by decide) (eit_listm (h:=strsD) (ev_name rfl)) (fun l hl=>?_) (by rw [← lens_dat,List.length_map]; omega)
    refine ⟨_,true,asg_name (.inl rfl),keep_cons rfl,evt_nil,fun _=>emitL_node (l:=l) (g:=fun x=>V.dat (.str x)) (f:=fun x=>[Dat.int (x.length:Int)]) (eit_listm (h:=Dat.str) (ev_name rfl)) (fun x hx=>?_),fun h=>nomatch h⟩
    exact ⟨_,true,asg_name (.inl rfl),keep_cons rfl,evt_nil,fun _=>emitL_leaf (ev_b (bname ok (by decide) rfl (by decide +kernel)) (evl_cons (ev_name rfl) evl_nil) (c_len_str (by have:=l1.short l hl x hx; omega))),fun h=>nomatch h⟩
  refine cs_1 (Γ':=("counts",.val (.dat (il (ctsOf p (lvOf p cs))))) :: ("lengths",.val (.dat (il (lensI (lvOf p cs))))) :: G3 ns cs p) (ex1_assignComp (by decide) (eit_rangeN (n:=5 + p) (bname ok (by decide) rfl (by decide +kernel)) (by rw [← hlen]; exact ev_lenL ok rfl (by omega) rfl) rfl (by omega)) ?_ rfl (by decide)) ?_
  · have e:(ctsOf p (lvOf p cs)).map Dat.int=[] ++ (List.range (5 + p)).flatMap fun j:Nat=>[Dat.int (((lvOf p cs).getD j []).length:Int)]:=by
      rw [flat_single]; unfold ctsOf; rw [List.map_map]; rfl
    rw [e]
    refine cl1 (by rw [flat_single]; simp; omega) fun j hj=>?_
    refine ⟨_,true,asg_name (.inl rfl),keep_cons rfl,evt_nil,fun _=>emitL_leaf ?_,fun h=>nomatch h⟩
    rw [← l1.count j]
    exact ev_fn ok (sp_countOf (k:=k + 22) int_inj fun a=>.int a) (evl_cons (ev_name rfl) (evl_cons (ev_name rfl) evl_nil))
  have lows:∀ {lv:List (List Str)} {u v:Nat},Lvs p lv→lowOf (lv.getD 0 []) (lv.getD 1 []) (lv.getD 2 [])=[(u:Int),(v:Int)]→Spec w W (k + 23) 32 [.dat (LV lv)] (.dat (il (ni [u,v]))):=fun {lv u v} L e=>by
    obtain ⟨x0,x1,x2,r,rfl⟩:∃ x0 x1 x2 r,lv=x0 :: x1 :: x2 :: r:=by
      have:=L.len
      match lv,this with
      | [],h=>simp at h; omega
      | [_],h=>simp at h; omega
      | [_,_],h=>simp at h; omega
      | x0 :: x1 :: x2 :: r,_=>exact ⟨_,_,_,_,rfl⟩
    have hz:∀ {l},l ∈ x0 :: x1 :: x2 :: r→l.length≤1000:=fun h=>by have:=L.sz _ h; omega
    have:=sp_low (w:=w) (W:=W) (k:=k + 22) (l0:=x0) (l1:=x1) (l2:=x2) (rest:=r) ok (fun q hq=>?_) (fun q hq=>?_) (hz (.head _)) (hz (.tail _ (.head _))) (hz (.tail _ (.tail _ (.head _)))) ?_
    · rw [show lowOf x0 x1 x2=ni [u,v] from e] at this; exact this
    · have:=(names_ok hp q (L.mem 1 x1 rfl q hq).1).1
      intro ch hch
      have:=Array.all_eq_true_iff_forall_mem.mp this ch (by simpa using hch)
      simpa using this
    · have h1:=(L.mem 2 x2 rfl q hq).2
      omega
    · unfold totalLen
      have h3:∀ (l:List Str),(∀ x ∈ l,x.length≤5)→(l.map fun s=>s.length).sum≤5 * l.length:=by
        intro l
        induction l with
        | nil=>simp
        | cons a r ih =>
          intro h
          have h1:=h a (.head _)
          have h2:=ih fun x hx=>h x (.tail _ hx)
          simp only [List.map_cons,List.sum_cons,List.length_cons]; omega
      have:=h3 x1 fun x hx=>L.short x1 (.tail _ (.head _)) x hx
      have h4:=L.sz x1 (.tail _ (.head _))
      omega
  refine cs_1 (ex1_assignSw (d:=il (ni [a0,a1])) (e:=il (ni [b0,b1])) (ev_tuple (ds:=[il (ni [a0,a1]),il (ni [b0,b1])]) (evl_cons (ev_fn ok (lows l1 D.low) (evl_cons (ev_name rfl) evl_nil)) (evl_cons (ev_fn ok (lows l2 D.high) (evl_cons (ev_name rfl) evl_nil)) evl_nil))) (.inl rfl) (.inl rfl) (fun _ _=>rfl) (fun env he=>?_)) ?_
  · have e:env={ env with scope:=(dRec 36).scope }:=by rw [← he]
    rw [e]; rfl
  obtain ⟨w1,w2,w3⟩:=wd_eq cs
  refine cs_1 (ex1_assign (x:=.dat (.int (wdOf cs))) (by
    rw [← w1]
    exact ev_bin ev_int (ev_bin (ev_bin (ev_name rfl) ev_int (bin_floordiv (by decide) (pylong_small (by decide)))) ev_int (bin_mod (by decide))) bin_add) (.inl rfl)) ?_
  refine cs_1 (Γ':=G4 ns cs p a0 a1 b1 b0) (ex1_assignComp (by decide) (eit_tuple (ds:=([2,4,8,16]:List Int).map Dat.int) (ev_tuple (ds:=[.int 2,.int 4,.int 8,.int 16]) (evl_cons ev_int (evl_cons ev_int (evl_cons ev_int (evl_cons ev_int evl_nil))))) rfl) ?_ rfl (by decide)) h
  have e:([2,4,8,16].map (sgOf cs)).map Dat.int=[] ++ ([2,4,8,16]:List Int).flatMap fun q=>[Dat.int (sgOf cs q)]:=by rw [flat_single,List.map_map]; rfl
  rw [e,List.map_map]
  refine cl1 (by rw [flat_single]; show 0 + 4≤sizeLine; omega) fun q hq=>?_
  have hq':q=2 ∨ q=4 ∨ q=8 ∨ q=16:=by simpa using hq
  exact ⟨_,true,asg_name (.inl rfl),keep_cons rfl,evt_nil,fun _=>emitL_leaf (ev_bin ev_int (ev_bin ev_int (ev_bin (ev_bin (ev_name rfl) (ev_name rfl) (bin_floordiv (by rcases hq' with rfl | rfl | rfl | rfl <;> decide) (pylong_small (by rcases hq' with rfl | rfl | rfl | rfl <;> decide)))) ev_int (bin_mod (by decide))) (bin_mul (IntMulOk.of_left (by decide)))) bin_sub),fun h=>nomatch h⟩
end Mine
namespace Mine
variable {w:World} {W:Wd} {k:Nat} {c:Nat}
theorem zip_left {α β:Type}:∀ {l:List α} {a b:List β},l.length=a.length→l.zip (a ++ b)=l.zip a
  | [],a,b,h=>by simp
  | x :: l,y :: a,b,h=>by rw [List.cons_append,List.zip_cons_cons,List.zip_cons_cons,zip_left (by simpa using h)]
  | x :: l,[],b,h=>by simp at h
theorem cts_map {p:Nat} {lv:List (List Str)} (h:lv.length=5 + p):ctsOf p lv=lv.map fun l=>(l.length:Int):=by
  unfold ctsOf
  apply List.ext_getElem
  · simp [h]
  · intro i h1 h2
    simp at h1
    simp [List.getD_eq_getElem?_getD,h1,h]
theorem cts_len (p:Nat) (lv:List (List Str)):(ctsOf p lv).length=5 + p:=by unfold ctsOf; simp
theorem cts_bd {p:Nat} {lv:List (List Str)} (L:Lvs p lv):∀ d ∈ ctsOf p lv,0≤d∧d < 128:=fun d hd=>by
  rw [cts_map L.len] at hd
  obtain ⟨l,hl,rfl⟩:=List.mem_map.mp hd
  have:=L.sz l hl
  omega
theorem ni_bd {l:List Nat} (h:∀ d ∈ l,d < 8):∀ d ∈ ni l,0≤d∧d < 128:=fun d hd=>by
  obtain ⟨x,hx,rfl⟩:=List.mem_map.mp hd
  have:=h x hx
  omega
def mirOf (p:Nat) (cs:List Int) (a0 a1 mid b1 b0:Nat):List Int:=(ctsOf p (lvOf p cs)).reverse ++ (octOf p cs).reverse ++ (ni (hols p a0 a1 mid b1 b0).reverse ++ [0])
theorem law_s6 (T:WokT W) {ns cs:List Int} {p:Nat} (hp:p=0 ∨ p=1) (hT:cs.sum.fmod 2=p) (h7:cs.length=7) (l1:Lvs p (lvOf p cs)) (l2:Lvs p (oxOf p cs)) {rs rs':List Nat} {a0 a1 mid b1 b0:Nat} (D:Duo p (lvOf p cs) (oxOf p cs) rs rs' a0 a1 mid b1 b0) :
    ExCS w W (lawPh c) (k + 23) (dRec 36).scope true (G4 ns cs p a0 a1 b1 b0) ((dRec 36).body.drop 21) (.ret (.dat (.bool true))):=by
  have ok:=T.ok
  have hz2:sizeLine=16777216:=rfl
  have hlen:(sizesOf p).length=5 + p:=by rcases hp with rfl | rfl <;> decide
  have hp1:p≤1:=by omega
  obtain ⟨w1,w2,w3⟩:=wd_eq cs
  have lc:=cts_len p (lvOf p cs)
  have lo:=cts_len p (oxOf p cs)
  have bc:=cts_bd l1
  have bo:=cts_bd l2
  have hb8:=D.bh
  have hb:=ni_bd D.bh
  have lh:(ni (hols p a0 a1 mid b1 b0)).length=4 + p:=by rw [List.length_map]; exact hols_len
  have lh0:(ni (hols p a0 a1 0 b1 b0)).length=4 + p:=by rw [List.length_map]; exact hols_len
  have hb0:∀ d ∈ ni (hols p a0 a1 0 b1 b0),0≤d∧d < 128:=ni_bd fun d hd=>by
    unfold hols at hd hb8
    simp only [List.mem_append,List.mem_cons,List.mem_replicate,List.not_mem_nil,or_false] at hd hb8
    rcases hd with (hd | hd) | hd
    · exact hb8 d (.inl (.inl hd))
    · omega
    · exact hb8 d (.inr hd)
  have ms:∀ {l:List Int},(∀ d ∈ l,0≤d∧d < 128)→∀ d ∈ l,d.natAbs < 2 ^ 7:=fun h d hd=>by have:=h d hd; omega
  have hm:∀ {Γ:Ctx'},Γ.lookup ("total":Str)=some (.val (.dat (.int cs.sum)))→∀ {a b d n},Ev pw w W (k + 23) (dRec 36).scope true Γ (.BinOp (.Name "total" a) .Mod (.Constant (.int (Int.ofNat 2)) n b) d) (.dat (.int p)):=fun hl=>by
    intro a b d n
    rw [← hT]; exact ev_bin (ev_name hl) ev_int (bin_mod (by decide))
  have hhol:∀ {Γ:Ctx'} {e:Expr} {z:Nat},Ev pw w W (k + 23) (dRec 36).scope true Γ e (.dat (.int z))→Γ.lookup ("total":Str)=some (.val (.dat (.int cs.sum)))→Γ.lookup ("low":Str)=some (.val (.dat (il (ni [a0,a1]))))→Γ.lookup ("high":Str)=some (.val (.dat (il (ni [b0,b1]))))→(∀ env,starEach [e] env=[(false,eval e env)]) →
      ∀ {q1 q2 q3 q4 q5 q6 q7 q8 q9 r1 r2 r3 r4 r5 r6 n1 n2 n3},Ev pw w W (k + 23) (dRec 36).scope true Γ (.BinOp (.BinOp (.Name "low" q1) .Add (.BinOp (.List [e] q2) .Mult (.BinOp (.Name "total" q3) .Mod (.Constant (.int (Int.ofNat 2)) n1 q4) q5) q6) q7) .Add
        (.List [.Subscript (.Name "high" q8) (.Constant (.int (Int.ofNat 1)) n2 q9) r1,.Subscript (.Name "high" r2) (.Constant (.int (Int.ofNat 0)) n3 r3) r4] r5) r6) (.dat (il (ni (hols p a0 a1 z b1 b0)))):=fun {Γ e z} he ht hlo hhi hs=>by
    intro q1 q2 q3 q4 q5 q6 q7 q8 q9 r1 r2 r3 r4 r5 r6 n1 n2 n3
    have e1:il (ni (hols p a0 a1 z b1 b0))=.list (((ni [a0,a1]).map Dat.int ++ (List.replicate (p:Int).toNat [Dat.int (z:Int)]).flatten) ++ [.int (b1:Int),.int (b0:Int)]):=by
      rcases hp with rfl | rfl <;> rfl
    rw [e1]
    refine ev_bin (ev_bin (ev_name hlo) (ev_bin (ev_list (ds:=[Dat.int (z:Int)]) (evl_cons he evl_nil (fun env=>by rw [hs]; rfl))) (hm ht) (bin_mul_list (by omega) (by simp only [List.length_cons,List.length_nil]; omega) (by omega))) (bin_add_list ?_)) (ev_list (ds:=[.int (b1:Int),.int (b0:Int)]) (evl_cons (ev_sub (ev_name hhi) ev_int (get_list (by decide) (by decide) rfl)) (evl_cons (ev_sub (ev_name hhi) ev_int (get_list (by decide) (by decide) rfl)) evl_nil))) (bin_add_list ?_)
    · rcases hp with rfl | rfl <;> (show _≤sizeLine) <;> simp <;> omega
    · rcases hp with rfl | rfl <;> (show _≤sizeLine) <;> simp <;> omega
  have sgn:∀ {Γ:Ctx'} (i:Nat) (q:Int),Γ.lookup ("signs":Str)=some (.val (.dat (il ([2,4,8,16].map (sgOf cs)))))→(([2,4,8,16].map (sgOf cs)).map Dat.int)[i]?=some (Dat.int (sgOf cs q))→i < 4→∀ {p1 p2 p3 n},Ev pw w W (k + 23) (dRec 36).scope true Γ (.Subscript (.Name "signs" p1) (.Constant (.int (Int.ofNat i)) n p2) p3) (.dat (.int (sgOf cs q))):=fun i q hl hi h4=>by
    intro p1 p2 p3 n
    exact ev_sub (ev_name hl) ev_int (get_list (show (0:Int)≤Int.ofNat i by exact Int.natCast_nonneg i) (by show ((i:Nat):Int) < _; omega) hi)
  obtain ⟨f1,f2⟩:=dv_fits bc hb0 (by omega) (by omega) (show 0 < wdOf cs by omega) w3
  refine cs_1 (ex1_assign (x:=.dat (.int (midOf p cs a0 a1 b1 b0))) (ev_sub (ev_fn ok (sp_division (k:=k + 2) T (cs:=ctsOf p (lvOf p cs)) (hs:=ni (hols p a0 a1 0 b1 b0)) (wd:=wdOf cs) (M:=7) (sg_sign cs 8) (sg_sign cs 16) (by omega) (by decide) (by omega) (by omega) (ms bc) (ms hb0) f1 f2)
    (evl_cons (ev_name rfl) (evl_cons (hhol (z:=0) ev_int rfl rfl rfl (fun _=>rfl)) (evl_cons (ev_name rfl) (evl_cons (sgn 2 8 rfl rfl (by decide)) (evl_cons (sgn 3 16 rfl rfl (by decide)) evl_nil)))))) ev_int (get_tuple (by decide) (by decide) rfl)) (.inl rfl)) ?_
  have hm0:decide (midOf p cs a0 a1 b1 b0 < 0)=false:=decide_eq_false (Int.not_lt.mpr (Int.fmod_nonneg_of_pos _ (BB_pos _)))
  refine cs_if (evbs_of (evb_cmp (ev_name rfl) ev_int cmp_lt (by
    show TrG pw w W _ (.dat (.bool (decide (midOf p cs a0 a1 b1 b0 < 0)))) false
    rw [hm0]; exact tr_bool))) ?_
  refine cs_1 (ex1_assign (x:=.dat (il (ni (hols p a0 a1 mid b1 b0)))) ?_ (.inl rfl)) ?_
  · rcases hp with rfl | rfl
    · have hz:midOf 0 cs a0 a1 b1 b0=((midOf 0 cs a0 a1 b1 b0).toNat:Int):=by
        have:0≤midOf 0 cs a0 a1 b1 b0:=Int.fmod_nonneg_of_pos _ (BB_pos _)
        omega
      show Ev _ _ _ _ _ _ _ _ (.dat (il (ni (hols 0 a0 a1 (midOf 0 cs a0 a1 b1 b0).toNat b1 b0))))
      exact hhol (by rw [← hz]; exact ev_name rfl) rfl rfl rfl (fun _=>rfl)
    · have hz:midOf 1 cs a0 a1 b1 b0=(mid:Int):=D.middle rfl w2
      exact hhol (by rw [← hz]; exact ev_name rfl) rfl rfl rfl (fun _=>rfl)
  have hoc:(octOf p cs).length=5 + p:=by unfold octOf; simp; omega
  have hob:∀ d ∈ octOf p cs,0≤d∧d < 256:=fun d hd=>by
    obtain ⟨x,_,rfl⟩:=List.mem_map.mp hd
    have h1:=Int.fmod_nonneg_of_pos x (show (0:Int) < 256 by decide)
    have h2:=Int.fmod_lt_of_pos x (show (0:Int) < 256 by decide)
    omega
  refine cs_1 (Γ':=("octets",.val (.dat (il (octOf p cs)))) :: _) (ex1_assignComp (by decide) (eit_listm (h:=Dat.int) (ev_upto (n:=(sizesOf p).length) (ev_name rfl) (evp_some (ev_lenL ok rfl (by omega) rfl)) (by omega))) ?_ rfl (by decide)) ?_
  · have e:(octOf p cs).map Dat.int=[] ++ (cs.take (sizesOf p).length).flatMap fun x=>[Dat.int (255 - x.fmod 256)]:=by
      rw [flat_single]; unfold octOf; rw [List.map_map]; rfl
    rw [e]
    refine cl1 (by rw [flat_single]; simp; omega) fun x hx=>?_
    exact ⟨_,true,asg_name (.inl rfl),keep_cons rfl,evt_nil,fun _=>emitL_leaf (ev_bin ev_int (ev_bin (ev_name rfl) ev_int (bin_mod (by decide))) bin_sub),fun h=>nomatch h⟩
  have hmir:bInts (swapOf (byteArr ((ctsOf p (lvOf p cs)) ++ octOf p cs ++ (0 :: ni (hols p a0 a1 mid b1 b0)))) (5 + p))=mirOf p cs a0 a1 mid b1 b0:=by
    rw [swap_three (fun n hn=>?_) lc hoc (by rw [List.length_cons,lh]; omega) (by omega),List.reverse_cons]
    · unfold mirOf ni
      rw [List.map_reverse]
    · simp only [List.mem_append,List.mem_cons] at hn
      rcases hn with (h | h) | h | h
      · have:=bc n h; omega
      · exact hob n h
      · omega
      · have:=hb n h; omega
  have hbl:((ctsOf p (lvOf p cs)) ++ octOf p cs ++ (0 :: ni (hols p a0 a1 mid b1 b0))).length=3 * (5 + p):=by
    simp only [List.length_append,List.length_cons]; omega
  refine cs_C (Γ':=("mirrored",.val (.dat (il (mirOf p cs a0 a1 mid b1 b0)))) :: _) (ex1C_assign (evC_type1 (T:="list") (bname ok (by decide) rfl (by decide +kernel)) (evC_fn ok (sp_byteswap (k:=k + 22) (x:=byteArr ((ctsOf p (lvOf p cs)) ++ octOf p cs ++ (0 :: ni (hols p a0 a1 mid b1 b0)))) (m:=3) (c:=5 + p) ok (by rw [byte_size,hbl]) (by omega) (by omega) (by omega)) (evl_cons ?_ (evl_cons ?_ evl_nil)))
    (by
      have:=c_list_bytes (w:=w) (W:=W) (k:=k + 23) (prog:=pw) (x:=swapOf (byteArr ((ctsOf p (lvOf p cs)) ++ octOf p cs ++ (0 :: ni (hols p a0 a1 mid b1 b0)))) (5 + p)) (by rw [swap_size,byte_size,hbl]; omega)
      rw [hmir] at this
      exact this)) (.inl rfl)) ?_
  · refine ev_b (bname ok (by decide) rfl (by decide +kernel)) (evl_cons ?_ evl_nil) (c_bytes (fun n hn=>?_) (by omega))
    · have e:((ctsOf p (lvOf p cs)) ++ octOf p cs ++ (0 :: ni (hols p a0 a1 mid b1 b0))).map Dat.int=((((ctsOf p (lvOf p cs)).map Dat.int ++ (octOf p cs).map Dat.int) ++ [Dat.int 0]) ++ (ni (hols p a0 a1 mid b1 b0)).map Dat.int):=by
        simp
      rw [e]
      refine ev_bin (ev_bin (ev_bin (ev_name rfl) (ev_name rfl) (bin_add_list ?_)) (ev_list (ds:=[Dat.int 0]) (evl_cons ev_int evl_nil)) (bin_add_list ?_)) (ev_name rfl) (bin_add_list ?_)
      · rw [List.length_map,List.length_map]; omega
      · rw [List.length_append,List.length_map,List.length_map]; show _ + 1≤_; omega
      · rw [List.length_append,List.length_append,List.length_map,List.length_map,List.length_map (as:=ni _)]; show _ + 1 + _≤_; omega
    · simp only [List.mem_append,List.mem_cons] at hn
      rcases hn with (h | h) | h | h
      · have:=bc n h; omega
      · exact hob n h
      · omega
      · have:=hb n h; omega
  · rw [← hlen]; exact ev_lenL ok rfl (by omega) rfl
  have hml:(mirOf p cs a0 a1 mid b1 b0).length=3 * (5 + p):=by
    unfold mirOf
    rw [List.length_append,List.length_append,List.length_append,List.length_reverse,List.length_reverse,List.length_map,List.length_reverse,hols_len]
    simp only [List.length_cons,List.length_nil]; omega
  have hzip:(sizesOf p).zip (mirOf p cs a0 a1 mid b1 b0)=(sizesOf p).zip (ctsOf p (lvOf p cs)).reverse:=by
    unfold mirOf
    rw [List.append_assoc]
    exact zip_left (by rw [List.length_reverse]; omega)
  refine cs_1 (Γ':=("fewer",.val (.dat (il (ctsOf p (oxOf p cs))))) :: _) (ex1_assignComp (by decide) (eit_zipm (l:=sizesOf p) (r:=mirOf p cs a0 a1 mid b1 b0) (f:=Dat.int) (g:=Dat.int) (bname ok (by decide) rfl (by decide +kernel)) (ev_name rfl) (ev_name rfl)) ?_ rfl (by decide)) ?_
  · have e:(ctsOf p (oxOf p cs)).map Dat.int=[] ++ ((sizesOf p).zip (mirOf p cs a0 a1 mid b1 b0)).flatMap fun q=>[Dat.int (q.1 - q.2)]:=by
      rw [flat_single,hzip,← D.few,List.map_map]; rfl
    rw [e]
    refine cl1 (by rw [flat_single]; simp; omega) fun q hq=>?_
    exact ⟨_,true,asg_tuple2 (.inl rfl) (.inl rfl),keep_cons2 rfl rfl,evt_nil,fun _=>emitL_leaf (ev_fn ok sp_sub (evl_cons (ev_name rfl) (evl_cons (ev_name rfl) evl_nil))),fun h=>nomatch h⟩
  have hox:(oxOf p cs).map (fun l=>Dat.int (l.length:Int))=(ctsOf p (oxOf p cs)).map Dat.int:=by rw [cts_map l2.len,List.map_map]; rfl
  have hlo6:(oxOf p cs).length≤6:=by rw [l2.len]; omega
  have hmid:pickD ((mirOf p cs a0 a1 mid b1 b0).map Dat.int) (some ((5 + p:Nat):Int)) (some (-((5 + p:Nat):Int))) none=(octOf p cs).reverse.map Dat.int:=by
    rw [pick_mid (by omega) (by rw [List.length_map]; omega),← List.map_drop,← List.map_take,List.length_map,hml]
    congr 1
    unfold mirOf
    rw [List.append_assoc,List.drop_left' (by rw [List.length_reverse]; omega),List.take_left' (by rw [List.length_reverse]; omega)]
  have hlenE:∀ {Γ:Ctx'} {a b d:Pos},Γ.lookup ("sizes":Str)=some (.val (.dat (il (sizesOf p))))→Ev pw w W (k + 23) (dRec 36).scope true Γ (.Call (.Name "len" a) [.Name "sizes" b] [] d) (.dat (.int ((5 + p:Nat):Int))):=fun hl=>by
    rw [← hlen]; exact ev_lenL ok hl (by omega) rfl
  have kqi:∀ {l:List Int},∀ d ∈ l.map Dat.int,kqdOk 8 d=true:=fun {l} d hd=>by
    obtain ⟨x,_,rfl⟩:=List.mem_map.mp hd; rfl
  refine cs_if (evbs_of (evb_boolop (eva_or_cons (a:=false) (evb_cmp (ev_name rfl) (ev_lc1 (l:=oxOf p cs) (g:=fun l=>V.dat (strsD l)) (fun l=>[Dat.int (l.length:Int)]) (by decide) (eit_listm (h:=strsD) (ev_name rfl)) (fun l hl=>?_) (by rw [flat_single,List.length_map]; omega)) (cmp_ne_list (c:=true) ?_ kqi ?_) tr_bool)
    fun _=>eva_or_cons (a:=false) (evb_cmp (z:=.dat (.bool (!true))) (ev_slice_list (ev_name rfl) (evp_some (hlenE rfl)) (evp_some (ev_un (hlenE rfl) un_neg)) (by rw [List.length_map]; omega)) (ev_slice_step (ev_name rfl) evp_none evp_none (ev_un ev_int un_neg) (by decide) (by rw [List.length_map]; omega)) ?_ tr_bool) fun _=>eva_or_nil))) ?_
  · exact ⟨_,true,asg_name (.inl rfl),keep_cons rfl,evt_nil,fun _=>emitL_leaf (ev_lenL ok rfl (by have:=l2.sz l hl; omega) rfl),fun h=>nomatch h⟩
  · rw [flat_single,hox]; exact ⟨fun _=>rfl,fun _=>rfl⟩
  · rw [flat_single,hox]; exact kqi
  · rw [hmid,pick_rev,← List.map_reverse]
    exact cmp_ne_list (c:=true) ⟨fun _=>rfl,fun _=>rfl⟩ kqi kqi
  have lsz:∀ {lv:List (List Str)},Lvs p lv→∀ l ∈ lv,l.length≤1000∧∀ x ∈ l,x.length≤8:=fun L l hl=>⟨by have:=L.sz l hl; omega,fun x hx=>by have:=L.short l hl x hx; omega⟩
  have bh':∀ d ∈ ni (hols p a0 a1 mid b1 b0).reverse ++ [0],0≤d∧d < 128:=fun d hd=>by
    rcases List.mem_append.mp hd with h | h
    · exact hb d (by rw [ni,List.map_reverse] at h; exact List.mem_reverse.mp h)
    · rw [List.mem_singleton.mp h]; decide
  have lh':(ni (hols p a0 a1 mid b1 b0).reverse ++ [0]).length=5 + p:=by rw [List.length_append,List.length_map,List.length_reverse,hols_len]; simp only [List.length_cons,List.length_nil]; omega
  have pw3:∀ {l:List Nat},(∀ d ∈ l,d < 8)→∀ d ∈ l,d < 2 ^ wdOf cs:=fun h d hd=>Nat.lt_of_lt_of_le (h d hd) (Nat.le_trans (show 8≤2 ^ 3 by decide) (Nat.pow_le_pow_right (by decide) w2))
  obtain ⟨g1,g2⟩:=dv_fits bo bh' (by omega) (by omega) (show 0 < wdOf cs by omega) w3
  obtain ⟨e1,e2⟩:=dv_fits bc hb (by omega) (by omega) (show 0 < wdOf cs by omega) w3
  have hdr:(mirOf p cs a0 a1 mid b1 b0).drop (2 * (5 + p))=ni (hols p a0 a1 mid b1 b0).reverse ++ [0]:=by
    unfold mirOf
    rw [List.drop_left' (by rw [List.length_append,List.length_reverse,List.length_reverse]; omega)]
  refine cs_1 (ex1_assign (x:=.dat (.bool true)) (ev_fn ok (sp_told (k:=k + 1) T (cs:=ctsOf p (oxOf p cs)) (hs:=ni (hols p a0 a1 mid b1 b0).reverse ++ [0]) (rs:=rs') (wd:=wdOf cs) (M:=7) (sg_sign cs 4) (sg_sign cs 2) (by omega) (by omega) (by decide) (by omega) (by omega) (by rw [D.lr']; omega) (ms bo) (ms bh') (pw3 D.br') (D.told' _) g1 g2)
    (evl_cons (ev_name rfl) (evl_cons ?_ (evl_cons (ev_fn ok (sp_ranks (k:=k + 21) ok D.rk' (lsz l2) (by omega)) (evl_cons (ev_name rfl) evl_nil)) (evl_cons (ev_name rfl) (evl_cons (sgn 1 4 rfl rfl (by decide)) (evl_cons (sgn 0 2 rfl rfl (by decide)) evl_nil))))))) (.inl rfl)) ?_
  · rw [← hdr]
    refine ev_from (n:=2 * (5 + p)) (ev_name rfl) (evp_some ?_) (by omega)
    have:=ev_bin (W:=W) (w:=w) (prog:=pw) (k:=k + 23) (sc:=(dRec 36).scope) (fn:=true) (op:=.Mult) (z:=.dat (.int ((2 * (5 + p):Nat):Int))) (pos:=⟨224,37,224,51⟩) (ev_int (i:=2) (n:=0) (pos:=⟨224,37,224,38⟩)) (hlenE (a:=⟨224,41,224,44⟩) (b:=⟨224,45,224,50⟩) (d:=⟨224,41,224,51⟩) (Γ:=("fewer",.val (.dat (il (ctsOf p (oxOf p cs))))) :: ("mirrored",.val (.dat (il (mirOf p cs a0 a1 mid b1 b0)))) :: ("octets",.val (.dat (il (octOf p cs)))) :: ("holes",.val (.dat (il (ni (hols p a0 a1 mid b1 b0))))) :: ("middle",.val (.dat (.int (midOf p cs a0 a1 b1 b0)))) :: G4 ns cs p a0 a1 b1 b0) rfl) (by rw [show ((2 * (5 + p):Nat):Int)=2 * ((5 + p:Nat):Int) by push_cast; rfl]; exact bin_mul (IntMulOk.of_left (by decide)))
    exact this
  exact cs_end (ex1_return (ev_and (x:=.dat (.bool true)) (c:=true) (ev_name rfl) tr_bool (fun _=>ev_fn ok (sp_told (k:=k + 1) T (cs:=ctsOf p (lvOf p cs)) (hs:=ni (hols p a0 a1 mid b1 b0)) (rs:=rs) (wd:=wdOf cs) (M:=7) (sg_sign cs 2) (sg_sign cs 4) (by omega) (by omega) (by decide) (by omega) (by omega) (by rw [D.lr]; omega) (ms bc) (ms hb) (pw3 D.br) (D.told _) e1 e2)
    (evl_cons (ev_name rfl) (evl_cons (ev_name rfl) (evl_cons (ev_fn ok (sp_ranks (k:=k + 21) ok D.rk (lsz l1) (by have:=l1.len; omega)) (evl_cons (ev_name rfl) evl_nil)) (evl_cons (ev_name rfl) (evl_cons (sgn 0 2 rfl rfl (by decide)) (evl_cons (sgn 1 4 rfl rfl (by decide)) evl_nil))))))) fun h=>nomatch h))
end Mine
namespace Mine
section
variable {p:Nat} {F:Nat→Bool}
theorem ranks5 {l0 l1 l2 l3 l4:List Str} {k0 k1 k2 k3:Kept} (h0:keptOf l0 l1=some k0) (h1:keptOf l1 l2=some k1) (h2:keptOf l2 l3=some k2) (h3:keptOf l3 l4=some k3):ranksOf [l0,l1,l2,l3,l4]=some [k0.length,k1.length,k2.length,k3.length]:=by
  simp [ranksOf,ranksStep,h0,h1,h2,h3]
theorem ranks6 {l0 l1 l2 l3 l4 l5:List Str} {k0 k1 k2 k3 k4:Kept} (h0:keptOf l0 l1=some k0) (h1:keptOf l1 l2=some k1) (h2:keptOf l2 l3=some k2) (h3:keptOf l3 l4=some k3) (h4:keptOf l4 l5=some k4):ranksOf [l0,l1,l2,l3,l4,l5]=some [k0.length,k1.length,k2.length,k3.length,k4.length]:=by
  simp [ranksOf,ranksStep,h0,h1,h2,h3,h4]
theorem rk_LL0 (hF:Closed 0 F):ranksOf (LL 0 F)=some [RR 0 F 1,RR 0 F 2,RR 0 F 3,RR 0 F 4]:=by
  obtain ⟨k0,e0,f0⟩:=kept_LL (by decide) hF (show 0 < 4 + 0 by decide)
  obtain ⟨k1,e1,f1⟩:=kept_LL (by decide) hF (show 1 < 4 + 0 by decide)
  obtain ⟨k2,e2,f2⟩:=kept_LL (by decide) hF (show 2 < 4 + 0 by decide)
  obtain ⟨k3,e3,f3⟩:=kept_LL (by decide) hF (show 3 < 4 + 0 by decide)
  rw [← f0,← f1,← f2,← f3]
  exact ranks5 e0 e1 e2 e3
theorem rk_LL1 (hF:Closed 1 F):ranksOf (LL 1 F)=some [RR 1 F 1,RR 1 F 2,RR 1 F 3,RR 1 F 4,RR 1 F 5]:=by
  obtain ⟨k0,e0,f0⟩:=kept_LL (by decide) hF (show 0 < 4 + 1 by decide)
  obtain ⟨k1,e1,f1⟩:=kept_LL (by decide) hF (show 1 < 4 + 1 by decide)
  obtain ⟨k2,e2,f2⟩:=kept_LL (by decide) hF (show 2 < 4 + 1 by decide)
  obtain ⟨k3,e3,f3⟩:=kept_LL (by decide) hF (show 3 < 4 + 1 by decide)
  obtain ⟨k4,e4,f4⟩:=kept_LL (by decide) hF (show 4 < 4 + 1 by decide)
  rw [← f0,← f1,← f2,← f3,← f4]
  exact ranks6 e0 e1 e2 e3 e4
theorem sn_len (j:Nat):(SN p F j).length=(SS p F j).length:=List.length_map ..
theorem cts0:ctsOf 0 (LL 0 F)=[((SS 0 F 0).length:Int),((SS 0 F 1).length:Int),((SS 0 F 2).length:Int),((SS 0 F 3).length:Int),((SS 0 F 4).length:Int)]:=by
  rw [← sn_len,← sn_len,← sn_len,← sn_len,← sn_len]; rfl
theorem cts1:ctsOf 1 (LL 1 F)=[((SS 1 F 0).length:Int),((SS 1 F 1).length:Int),((SS 1 F 2).length:Int),((SS 1 F 3).length:Int),((SS 1 F 4).length:Int),((SS 1 F 5).length:Int)]:=by
  rw [← sn_len,← sn_len,← sn_len,← sn_len,← sn_len,← sn_len]; rfl
theorem rf0:RF 0 0=0∧RF 0 1=1∧RF 0 2=3∧RF 0 3=3∧RF 0 4=1:=by decide +kernel
theorem rf1:RF 1 0=0∧RF 1 1=1∧RF 1 2=4∧RF 1 3=6∧RF 1 4=4∧RF 1 5=1:=by decide +kernel
theorem RR_zero (hp:p < 2):RR p F 0=0:=by
  unfold RR SS
  match p,hp with
  | 0,_=>cases h:F 0 <;> simp [TB,h] <;> decide +kernel
  | 1,_=>cases h:F 0 <;> simp [TB,h] <;> decide +kernel
theorem duo0 (hF:Closed 0 F):∃ rs rs' a0 a1 mid b1 b0,Duo 0 (LL 0 F) (LL 0 (GG 0 F)) rs rs' a0 a1 mid b1 b0:=by
  have hG:=closed_dual (by decide) hF
  obtain ⟨a0,a1,la,x0,x1,x2,x3⟩:=low_eq (by decide) hF
  obtain ⟨b0,b1,lb,y0,y1,y2,y3⟩:=low_eq (by decide) hG
  obtain ⟨d0,e0⟩:=dual_eq (F:=F) (p:=0) (by decide) (show 0≤4 + 0 by decide)
  obtain ⟨d1,e1⟩:=dual_eq (F:=F) (p:=0) (by decide) (show 1≤4 + 0 by decide)
  obtain ⟨d2,e2⟩:=dual_eq (F:=F) (p:=0) (by decide) (show 2≤4 + 0 by decide)
  obtain ⟨d3,e3⟩:=dual_eq (F:=F) (p:=0) (by decide) (show 3≤4 + 0 by decide)
  obtain ⟨d4,e4⟩:=dual_eq (F:=F) (p:=0) (by decide) (show 4≤4 + 0 by decide)
  obtain ⟨r0,r1,r2,r3,r4⟩:=rf0
  have z:=RR_zero (F:=F) (p:=0) (by decide)
  have z':=RR_zero (F:=GG 0 F) (p:=0) (by decide)
  have t0:(TB 0 0).length=1:=rfl
  have t1:(TB 0 1).length=4:=rfl
  have t2:(TB 0 2).length=6:=rfl
  have t3:(TB 0 3).length=4:=rfl
  have t4:(TB 0 4).length=1:=rfl
  simp only [Nat.reduceAdd,Nat.reduceSub] at d0 d1 d2 d3 d4 e0 e1 e2 e3 e4
  have bR:∀ (H:Nat→Bool) j,j≤4 + 0→RR 0 H j < 8:=fun H j hj=>(rkA (by decide) hj).choose_spec.2.2
  refine ⟨_,_,a0,a1,0,b1,b0,la,lb,rk_LL0 hF,rk_LL0 hG,rfl,rfl,?_,?_,?_,?_,?_,?_⟩
  · intro d hd
    simp only [List.mem_cons,List.not_mem_nil,or_false] at hd
    rcases hd with rfl | rfl | rfl | rfl <;> exact bR _ _ (by decide)
  · intro d hd
    simp only [List.mem_cons,List.not_mem_nil,or_false] at hd
    rcases hd with rfl | rfl | rfl | rfl <;> exact bR _ _ (by decide)
  · rw [cts0]
    simp only [hols,List.replicate,List.cons_append,List.nil_append,conv]
    congr 1
    · omega
    congr 1
    · omega
    congr 1
    · omega
    congr 1
    · omega
    congr 1
    omega
  · rw [cts0]
    simp only [hols,List.replicate,List.cons_append,List.nil_append,List.reverse_cons,List.reverse_nil,conv]
    congr 1
    · omega
    congr 1
    · omega
    congr 1
    · omega
    congr 1
    · omega
    congr 1
    omega
  · rw [cts0,cts0]
    simp only [sizesOf,if_true,List.reverse_cons,List.reverse_nil,List.cons_append,List.nil_append,List.zip_cons_cons,List.zip_nil_left,List.map_cons,List.map_nil]
    congr 1
    · omega
    congr 1
    · omega
    congr 1
    · omega
    congr 1
    · omega
    congr 1
    omega
  · intro d hd
    simp only [hols,List.replicate,List.cons_append,List.nil_append,List.mem_cons,List.not_mem_nil,or_false] at hd
    rcases hd with rfl | rfl | rfl | rfl <;> assumption
theorem duo1 (hF:Closed 1 F):∃ rs rs' a0 a1 mid b1 b0,Duo 1 (LL 1 F) (LL 1 (GG 1 F)) rs rs' a0 a1 mid b1 b0:=by
  have hG:=closed_dual (by decide) hF
  obtain ⟨a0,a1,la,x0,x1,x2,x3⟩:=low_eq (by decide) hF
  obtain ⟨b0,b1,lb,y0,y1,y2,y3⟩:=low_eq (by decide) hG
  obtain ⟨m1,m2⟩:=mid_eq hF
  obtain ⟨d0,e0⟩:=dual_eq (F:=F) (p:=1) (by decide) (show 0≤4 + 1 by decide)
  obtain ⟨d1,e1⟩:=dual_eq (F:=F) (p:=1) (by decide) (show 1≤4 + 1 by decide)
  obtain ⟨d2,e2⟩:=dual_eq (F:=F) (p:=1) (by decide) (show 2≤4 + 1 by decide)
  obtain ⟨d3,e3⟩:=dual_eq (F:=F) (p:=1) (by decide) (show 3≤4 + 1 by decide)
  obtain ⟨d4,e4⟩:=dual_eq (F:=F) (p:=1) (by decide) (show 4≤4 + 1 by decide)
  obtain ⟨d5,e5⟩:=dual_eq (F:=F) (p:=1) (by decide) (show 5≤4 + 1 by decide)
  obtain ⟨r0,r1,r2,r3,r4,r5⟩:=rf1
  have z:=RR_zero (F:=F) (p:=1) (by decide)
  have z':=RR_zero (F:=GG 1 F) (p:=1) (by decide)
  have t0:(TB 1 0).length=1:=rfl
  have t1:(TB 1 1).length=5:=rfl
  have t2:(TB 1 2).length=10:=rfl
  have t3:(TB 1 3).length=10:=rfl
  have t4:(TB 1 4).length=5:=rfl
  have t5:(TB 1 5).length=1:=rfl
  simp only [Nat.reduceAdd,Nat.reduceSub] at d0 d1 d2 d3 d4 d5 e0 e1 e2 e3 e4 e5
  have bR:∀ (H:Nat→Bool) j,j≤4 + 1→RR 1 H j < 8:=fun H j hj=>(rkA (by decide) hj).choose_spec.2.2
  obtain ⟨mid,hm⟩:∃ mid,mid + RR 1 F 2 + RR 1 F 3=(SS 1 F 2).length:=⟨(SS 1 F 2).length - RR 1 F 2 - RR 1 F 3,by omega⟩
  have hm8:mid < 8:=by omega
  refine ⟨_,_,a0,a1,mid,b1,b0,la,lb,rk_LL1 hF,rk_LL1 hG,rfl,rfl,?_,?_,?_,?_,?_,?_⟩
  · intro d hd
    simp only [List.mem_cons,List.not_mem_nil,or_false] at hd
    rcases hd with rfl | rfl | rfl | rfl | rfl <;> exact bR _ _ (by decide)
  · intro d hd
    simp only [List.mem_cons,List.not_mem_nil,or_false] at hd
    rcases hd with rfl | rfl | rfl | rfl | rfl <;> exact bR _ _ (by decide)
  · rw [cts1]
    simp only [hols,List.replicate,List.cons_append,List.nil_append,conv]
    congr 1
    · omega
    congr 1
    · omega
    congr 1
    · omega
    congr 1
    · omega
    congr 1
    · omega
    congr 1
    omega
  · rw [cts1]
    simp only [hols,List.replicate,List.cons_append,List.nil_append,List.reverse_cons,List.reverse_nil,conv]
    congr 1
    · omega
    congr 1
    · omega
    congr 1
    · omega
    congr 1
    · omega
    congr 1
    · omega
    congr 1
    omega
  · rw [cts1,cts1]
    simp only [sizesOf,Nat.one_ne_zero,if_false,List.reverse_cons,List.reverse_nil,List.cons_append,List.nil_append,List.zip_cons_cons,List.zip_nil_left,List.map_cons,List.map_nil]
    congr 1
    · omega
    congr 1
    · omega
    congr 1
    · omega
    congr 1
    · omega
    congr 1
    · omega
    congr 1
    omega
  · intro d hd
    simp only [hols,List.replicate,List.cons_append,List.nil_append,List.mem_cons,List.not_mem_nil,or_false] at hd
    rcases hd with rfl | rfl | rfl | rfl | rfl <;> assumption
end
end Mine
namespace Mine
section
variable {p:Nat} {H:Nat→Bool}
theorem LL_get {j:Nat} (hj:j < 5 + p):(LL p H)[j]?=some (SN p H j):=by
  unfold LL; rw [List.getElem?_map,List.getElem?_range hj]; rfl
theorem LL_mem {l:List Str} (h:l ∈ LL p H):∃ j,j < 5 + p∧l=SN p H j:=by
  obtain ⟨j,hj,rfl⟩:=List.mem_map.mp h
  exact ⟨j,List.mem_range.mp hj,rfl⟩
theorem SN_sub (j:Nat):(SN p H j).Sublist ((TB p j).map fun t=>nm t.1):=by unfold SN SS; exact List.filter_sublist.map _
theorem lvs_LL (hp:p < 2):Lvs p (LL p H) where
  len:=by unfold LL; simp
  sz:=fun l hl=>by
    obtain ⟨j,hj,rfl⟩:=LL_mem hl
    have h1:=(SN_sub (p:=p) (H:=H) j).length_le
    have h2:=tb_len p hp j (by omega)
    rw [List.length_map] at h1
    omega
  nd:=fun l hl=>by
    obtain ⟨j,hj,rfl⟩:=LL_mem hl
    exact (SN_sub j).nodup (tb_nodup p hp j (by omega))
  short:=fun l hl x hx=>by
    obtain ⟨j,hj,rfl⟩:=LL_mem hl
    obtain ⟨t,ht,rfl⟩:=List.mem_map.mp hx
    exact (tb_name p hp j (by omega) t (mem_SS.mp ht).1).2.2
  mem:=fun k l hl x hx=>by
    have hk:k < 5 + p:=by
      have:=(List.getElem?_eq_some_iff.mp hl).1
      unfold LL at this; simpa using this
    rw [LL_get hk] at hl
    cases hl
    obtain ⟨t,ht,rfl⟩:=List.mem_map.mp hx
    obtain ⟨h1,h2,_⟩:=tb_name p hp k (by omega) t (mem_SS.mp ht).1
    exact ⟨h1,h2⟩
theorem nm_inj:∀ m,m < 32→∀ m',m' < 32→nm m=nm m'→m=m':=by decide +kernel
theorem mem_SN (hp:p < 2) {j m:Nat} (hj:j≤4 + p) (hm:m ∈ (TB p j).map (·.1)):nm m ∈ SN p H j ↔ H m=true:=by
  have hN:2 ^ (4 + p)≤32:=by
    match p,hp with
    | 0,_=>decide
    | 1,_=>decide
  obtain ⟨t,ht,rfl⟩:=List.mem_map.mp hm
  have ht32:=(tb_small p hp j hj t ht).1
  constructor
  · intro h
    obtain ⟨t',ht',e⟩:=List.mem_map.mp h
    obtain ⟨h1,h2⟩:=mem_SS.mp ht'
    have:=nm_inj _ (Nat.lt_of_lt_of_le (tb_small p hp j hj t' h1).1 hN) _ (Nat.lt_of_lt_of_le ht32 hN) e
    rw [← this]; exact h2
  · intro h
    exact List.mem_map.mpr ⟨t,mem_SS.mpr ⟨ht,h⟩,rfl⟩
theorem msk_facts:∀ p,p < 2→∀ m ∈ mskOf p,(nm m).length≤4 + p∧m ∈ (TB p (nm m).length).map (·.1)∧othOf p (nm m)=nm (m ^^^ fmOf p)∧(m ^^^ fmOf p) ∈ (TB p (nm (m ^^^ fmOf p)).length).map (·.1)∧(nm (m ^^^ fmOf p)).length≤4 + p∧(m ^^^ fmOf p) ^^^ fmOf p=m:=by decide +kernel
theorem either (hp:p < 2):∀ x ∈ namesOf p,(x ∈ (LL p H).getD x.length []∧othOf p x ∉ (LL p (GG p H)).getD (othOf p x).length []) ∨ (x ∉ (LL p H).getD x.length []∧othOf p x ∈ (LL p (GG p H)).getD (othOf p x).length []):=fun x hx=>by
  obtain ⟨m,hm,rfl⟩:=List.mem_map.mp hx
  obtain ⟨h1,h2,h3,h4,h5,h6⟩:=msk_facts p hp m hm
  rw [h3,List.getD_eq_getElem?_getD,List.getD_eq_getElem?_getD,LL_get (by omega),LL_get (by omega),Option.getD_some,Option.getD_some,mem_SN hp h1 h2,mem_SN hp h5 h4]
  unfold GG
  rw [h6]
  cases H m <;> simp
theorem step_facts:∀ p,p < 2→((endsOf (sizesOf p)).zip ((endsOf (sizesOf p)).drop 1)).map (fun q=>(stepFrom q.1 1 (q.2 - q.1).toNat).map fun j=>(mskOf p).getD j.toNat 0)=(List.range (5 + p)).map fun j=>(TB p j).map (·.1):=by decide +kernel
theorem step_in:∀ p,p < 2→∀ q ∈ (endsOf (sizesOf p)).zip ((endsOf (sizesOf p)).drop 1),∀ j ∈ stepFrom q.1 1 (q.2 - q.1).toNat,0≤j∧j.toNat < (mskOf p).length:=by decide +kernel
theorem getD_map {α β:Type} {l:List α} {f:α→β} {j:Nat} {d:α} {e:β} (h:j < l.length):(l.map f).getD j e=f (l.getD j d):=by
  rw [List.getD_eq_getElem?_getD,List.getD_eq_getElem?_getD,List.getElem?_map,List.getElem?_eq_getElem h]; rfl
theorem levels_row (hp:p < 2) {r:Int→Int} (hr:∀ j:Int,0≤j→j.toNat < (mskOf p).length→r j=if H ((mskOf p).getD j.toNat 0)=true then 1 else 0):levelsOf (namesOf p) r (sizesOf p)=LL p H:=by
  have e1:levelsOf (namesOf p) r (sizesOf p)=(((endsOf (sizesOf p)).zip ((endsOf (sizesOf p)).drop 1)).map (fun q=>(stepFrom q.1 1 (q.2 - q.1).toNat).map fun j=>(mskOf p).getD j.toNat 0)).map fun l=>(l.filter H).map nm:=by
    unfold levelsOf
    rw [List.map_map]
    refine List.map_congr_left fun q hq=>?_
    show levelOf _ _ _ _=((((stepFrom q.1 1 (q.2 - q.1).toNat).map fun j=>(mskOf p).getD j.toNat 0)).filter H).map nm
    unfold levelOf
    rw [List.filter_map,List.map_map]
    have hf:(stepFrom q.1 1 (q.2 - q.1).toNat).filter (fun j=>r j == 1)=(stepFrom q.1 1 (q.2 - q.1).toNat).filter (H ∘ fun j=>(mskOf p).getD j.toNat 0):=by
      refine List.filter_congr fun j hj=>?_
      obtain ⟨h1,h2⟩:=step_in p hp q hq j hj
      rw [hr j h1 h2]
      show _=H _
      cases H ((mskOf p).getD j.toNat 0) <;> rfl
    rw [hf]
    refine List.map_congr_left fun j hj=>?_
    obtain ⟨h1,h2⟩:=step_in p hp q hq j (List.mem_filter.mp hj).1
    exact getD_map h2
  rw [e1,step_facts p hp]
  unfold LL
  rw [List.map_map]
  refine List.map_congr_left fun j _=>?_
  show (((TB p j).map (·.1)).filter H).map nm=SN p H j
  rw [List.filter_map,List.map_map]
  rfl
end
def tmOf (p:Nat) (cs:List Int):List Nat:=(cs.take ((cs.getD 6 0).fmod 7).toNat).map fun x=>(mskOf p).getD (x.fmod ((namesOf p).length:Int)).toNat 0
def FF (p:Nat) (cs:List Int) (m:Nat):Bool:=(tmOf p cs).any fun t=>m &&& t == m
section
variable {p:Nat} {cs:List Int}
theorem FF_closed:Closed p (FF p cs):=fun m _ h m' _ hs=>by
  unfold FF at h ⊢
  rw [List.any_eq_true] at h ⊢
  obtain ⟨t,ht,e⟩:=h
  refine ⟨t,ht,?_⟩
  rw [beq_iff_eq] at e ⊢
  calc m' &&& t=(m' &&& m) &&& t:=by rw [hs]
    _=m' &&& (m &&& t):=Nat.and_assoc ..
    _=m':=by rw [e,hs]
theorem tops_tm:topsOf p cs=(tmOf p cs).map nm:=by
  unfold topsOf tmOf
  rw [List.map_map]
  refine List.map_congr_left fun x _=>?_
  show ((mskOf p).map nm).getD _ Str.empty=nm ((mskOf p).getD _ 0)
  rw [List.getD_eq_getElem?_getD,List.getD_eq_getElem?_getD,List.getElem?_map]
  cases (mskOf p)[(x.fmod _).toNat]? <;> rfl
theorem tm_in (p:Nat) (cs:List Int):∀ t ∈ tmOf p cs,t ∈ mskOf p:=fun t ht=>by
  obtain ⟨x,_,rfl⟩:=List.mem_map.mp ht
  rw [List.getD_eq_getElem?_getD]
  cases e:(mskOf p)[(x.fmod ((namesOf p).length:Int)).toNat]? with
  | none =>
    show 0 ∈ mskOf p
    unfold mskOf; split <;> decide
  | some y=>exact List.mem_of_getElem? e
theorem within_iff:∀ p,p < 2→∀ m ∈ mskOf p,∀ t ∈ mskOf p,(nm m ∈ setsOf (nm t).cps.toList ↔ m &&& t=m):=by decide +kernel
theorem row_eq (hp:p < 2):rowOf (namesOf p) (topsOf p cs)=(mskOf p).map fun m=>if FF p cs m=true then 1 else 0:=by
  unfold rowOf namesOf
  rw [List.map_map]
  refine List.map_congr_left fun m hm=>?_
  show (if nm m ∈ unionOf (topsOf p cs) then (1:Int) else 0)=_
  have:nm m ∈ unionOf (topsOf p cs) ↔ FF p cs m=true:=by
    unfold unionOf FF
    rw [tops_tm,List.mem_flatMap,List.any_eq_true]
    constructor
    · rintro ⟨t',ht',h⟩
      obtain ⟨t,ht,rfl⟩:=List.mem_map.mp ht'
      exact ⟨t,ht,beq_iff_eq.mpr ((within_iff p hp m hm t (tm_in p cs t ht)).mp h)⟩
    · rintro ⟨t,ht,h⟩
      exact ⟨nm t,List.mem_map_of_mem ht,(within_iff p hp m hm t (tm_in p cs t ht)).mpr (beq_iff_eq.mp h)⟩
  by_cases h:FF p cs m=true
  · rw [if_pos h,if_pos (this.mpr h)]
  · rw [if_neg h,if_neg fun q=>h (this.mp q)]
theorem row_bd (hp:p < 2):∀ n ∈ rowOf (namesOf p) (topsOf p cs),0≤n∧n < 256:=fun n hn=>by
  rw [row_eq hp] at hn
  obtain ⟨m,_,rfl⟩:=List.mem_map.mp hn
  split <;> decide
theorem msk_rev:∀ p,p < 2→(mskOf p).reverse=(mskOf p).map fun m=>m ^^^ fmOf p:=by decide +kernel
theorem msk_len:∀ p,p < 2→0 < (mskOf p).length:=by decide +kernel
theorem orow_eq (hp:p < 2):orowOf p cs=(mskOf p).map fun m=>if GG p (FF p cs) m=true then 1 else 0:=by
  have hl:(rbOf p cs).size=(rowOf (namesOf p) (topsOf p cs)).length:=byte_size _
  have h0:0 < (rowOf (namesOf p) (topsOf p cs)).length:=by rw [row_eq hp,List.length_map]; exact msk_len p hp
  unfold orowOf turnedOf
  rw [hl]
  unfold rbOf
  rw [swap_one (row_bd hp) h0,row_eq hp,← List.map_reverse,msk_rev p hp,List.map_map,List.map_map]
  refine List.map_congr_left fun m _=>?_
  show Builtin.bitXor (if FF p cs (m ^^^ fmOf p)=true then 1 else 0) 1=_
  unfold GG
  cases FF p cs (m ^^^ fmOf p) <;> decide +kernel
theorem lv_eq (hp:p < 2):lvOf p cs=LL p (FF p cs):=levels_row hp fun j h0 hj=>by
  show (((rbOf p cs).getD j.toNat 0).toNat:Int)=_
  unfold rbOf
  rw [byte_get (row_bd hp),row_eq hp]
  exact getD_map hj
theorem ox_eq (hp:p < 2):oxOf p cs=LL p (GG p (FF p cs)):=levels_row hp fun j h0 hj=>by
  show (orowOf p cs).getD j.toNat 0=_
  rw [orow_eq hp]
  exact getD_map hj
theorem duo_of (hp:p < 2) (cs:List Int):∃ rs rs' a0 a1 mid b1 b0,Duo p (lvOf p cs) (oxOf p cs) rs rs' a0 a1 mid b1 b0:=by
  rw [lv_eq hp,ox_eq hp]
  match p,hp with
  | 0,_=>exact duo0 FF_closed
  | 1,_=>exact duo1 FF_closed
end
end Mine
namespace Mine
variable {w:World} {W:Wd} {k:Nat}
theorem cells_bd:∀ (l:List (Int × Nat)) (a:List Int) (B:Int),(∀ c ∈ a,0≤c∧c≤B)→∀ c ∈ l.foldl cellStep a,0≤c∧c≤B + 1000003 * l.length
  | [],a,B,h,c,hc=>by have:=h c hc; simp; omega
  | q :: l,a,B,h,c,hc=>by
    have h1:=Int.fmod_nonneg_of_pos q.1 (show (0:Int) < 1000003 by decide)
    have h2:=Int.fmod_lt_of_pos q.1 (show (0:Int) < 1000003 by decide)
    have:=cells_bd l (cellStep a q) (B + 1000003) (fun d hd=>by
      unfold cellStep at hd
      rcases List.mem_or_eq_of_mem_set hd with hd | rfl
      · have:=h d hd; omega
      · rw [List.getD_eq_getElem?_getD]
        cases e:a[q.2 % 7]? with
        | none =>
          have hlt:=List.getElem?_eq_none_iff.mp e
          rw [List.set_eq_of_length_le hlt] at hd
          have h3:=h _ hd
          rw [List.getD_eq_getElem?_getD,e] at h3
          simp only [Option.getD_none] at h3 ⊢
          omega
        | some x =>
          have:=h x (List.mem_of_getElem? e)
          simp only [Option.getD_some]; omega) c hc
    rw [List.length_cons]
    omega
theorem sum_bd {B:Int}:∀ (l:List Int),(∀ c ∈ l,0≤c∧c≤B)→0≤l.sum∧l.sum≤B * l.length
  | [],_=>by simp
  | a :: r,h=>by
    have h1:=h a (.head _)
    have h2:=sum_bd r fun c hc=>h c (.tail _ hc)
    rw [List.sum_cons,List.length_cons]
    push_cast
    rw [Int.mul_add,Int.mul_one]
    omega
theorem cells_fit (ns:List Int):(cellsOf ns).length=7∧∀ i,i < (cellsOf ns).length→InLong ((cellsOf ns).getD i 0)∧InLong (((cellsOf ns).take (i + 1)).sum):=by
  have hl:(cellsOf ns).length=7:=cells_len _ _
  have hb:∀ c ∈ cellsOf ns,0≤c∧c≤100000000:=fun c hc=>by
    have h1:=cells_bd (ns.take 60).zipIdx [5,8,10,7,6,14,4] 14 (by decide) c hc
    have h2:(ns.take 60).zipIdx.length≤60:=by simp; omega
    omega
  refine ⟨hl,fun i hi=>⟨?_,?_⟩⟩
  · rw [List.getD_eq_getElem?_getD,List.getElem?_eq_getElem hi]
    have:=hb _ (List.getElem_mem hi)
    simp only [Option.getD_some,InLong]; omega
  · have h1:=sum_bd (B:=100000000) ((cellsOf ns).take (i + 1)) fun c hc=>hb c (List.mem_of_mem_take hc)
    have h2:((cellsOf ns).take (i + 1)).length≤7:=by rw [List.length_take]; omega
    unfold InLong; omega
theorem sp_law (T:WokT W) {ns:List Int} (hn:ns.length≤1000):SpecL w W (k + 24) [.dat (.list (ns.map Dat.int))] (.dat (.bool true)):=by
  obtain ⟨c,Pt,t36⟩:=T.t36
  obtain ⟨h7,hfit⟩:=cells_fit ns
  obtain ⟨p,hT,hp⟩:∃ p:Nat,(cellsOf ns).sum.fmod 2=p∧(p=0 ∨ p=1):=by
    have h1:=Int.fmod_nonneg_of_pos (cellsOf ns).sum (show (0:Int) < 2 by decide)
    have h2:=Int.fmod_lt_of_pos (cellsOf ns).sum (show (0:Int) < 2 by decide)
    exact ⟨((cellsOf ns).sum.fmod 2).toNat,by omega,by omega⟩
  have hp2:p < 2:=by omega
  obtain ⟨rs,rs',a0,a1,mid,b1,b0,D⟩:=duo_of hp2 (cellsOf ns)
  have l1:Lvs p (lvOf p (cellsOf ns)):=by rw [lv_eq hp2]; exact lvs_LL hp2
  have l2:Lvs p (oxOf p (cellsOf ns)):=by rw [ox_eq hp2]; exact lvs_LL hp2
  have hei:∀ x ∈ namesOf p,(x ∈ (lvOf p (cellsOf ns)).getD x.length []∧othOf p x ∉ (oxOf p (cellsOf ns)).getD (othOf p x).length []) ∨ (x ∉ (lvOf p (cellsOf ns)).getD x.length []∧othOf p x ∈ (oxOf p (cellsOf ns)).getD (othOf p x).length []):=by
    rw [lv_eq hp2,ox_eq hp2]; exact either hp2
  exact law_of (k:=k + 23) t36 (law_s1 (k:=k + 15) T rfl hn hp hT hfit (law_s2 (k:=k + 15) T t36 hp h7 (law_s3 (k:=k + 15) T hp rfl rfl l1 l2 hei (law_s4 (k:=k + 15) T hp l1 l2 (law_s5 (k:=k) T hp l1 l2 D (law_s6 (k:=k) T hp hT h7 l1 l2 D))))))
end Mine
namespace Mine
theorem wp_of_wpC_done {M:Model} {A:Around} {Γ:Ctx} {t:Sem Fin} {R:Result→Shared→Prop} {s:Shared} (hin:Γ.In A) (hc:Clean Γ)
    (h:wpC M A t (fun fin s'=>∃ f,fin=.done f∧R (.ok f) s') (fun e s'=>R (.error e) s') s) (p:Pos) :
    Sem.wp M Γ t (Sem.finPost M Γ R) (fun e _ s'=>R (.error e) s') p s:=by
  refine Sem.wp_mono M Γ t (fun fin p' s' h'=>?_) (fun _ _ _ h'=>h') p s (h Γ p hin hc)
  obtain ⟨f,rfl,hf⟩:=h'
  exact hf
theorem caller_clean:Clean (⟨.builtin "claim.caller" {},none,none,[],none⟩:Ctx):=⟨by decide +kernel,fun _ h=>nomatch h⟩
theorem thread_ends_bothC {prog:Program} {w:World} {t:Sem Fin} {s:Shared} {R:Result→Shared→Prop} (hreg:s.asleep)
    (h:wpC (model prog w) callerA t (fun fin s'=>∃ f,fin=.done f∧(R (.ok f) s'∧leftWithCleanup s'.gens=false)) (fun e s'=>R (.error e) s'∧leftWithCleanup s'.gens=false) s) :
    ∃ n r s' s'',runN (denote table) prog w n s ⟨t,.builtin "claim.caller" {},default,[]⟩=.halted (outcomeOf r) s' ∧
      schedN (denote table) prog w n (.single s ⟨t,.builtin "claim.caller" {},default,[]⟩)=.halted (outcomeOf r) s'∧s'.forget=s''.forget∧R r s'':=by
  obtain ⟨n,r,s₁,s₂,hs,hn,hfo,hR⟩:=wp_halts_full (M:=model prog w) (R:=R) hreg (wp_of_wpC_done (R:=fun r s'=>R r s'∧leftWithCleanup s'.gens=false) caller_in caller_clean h default)
  exact ⟨n,r,s₂,s₁,hn,hs,hfo,hR⟩
end Mine
namespace Mine
theorem callFrom_of_specC {c:ClaimW} {tree:List Value→Sem Fin} {w:World} {s:Shared} {free:Addr→Prop} {gens:Prop} {kept:Heap→Prop} (hz:s.asleep) (hgens:s.gens=#[])
    (hspec:∀ args,c.pre args=true→WData.layableAll args=true →
      ∀ ord:List DictEntry→List DictEntry,(∀ l,(ord l).Perm l) →
      ∃ vs s₁,layAllW c.records (classAt s.heap) w.params ord args s=some (vs,s₁) ∧
        wpC (model c.prog w) callerA (tree vs) (fun fin s'=>∃ f,fin=.done f∧(c.Ends s args vs s₁ (.ok f) s'∧s'.os=s.os∧AllBare s'.gens∧kept s'.heap))
          (fun e s'=>c.Ends s args vs s₁ (.error e) s'∧s'.os=s.os∧AllBare s'.gens∧kept s'.heap) s₁) :
    c.CallFrom (fun vs=>⟨tree vs,.builtin "claim.caller" {},default,[]⟩) w free gens kept s:=by
  intro args hpre hlay ord hord
  obtain ⟨vs,s₁,hlaid,hcode⟩:=hspec args hpre hlay ord hord
  have hal:=layAllW_rest _ _ _ hlaid
  obtain ⟨k,r,s',s'',hrun,hsched,hfo,hcase,hos,hkp⟩:=thread_ends_bothC (prog:=c.prog) (w:=w) (t:=tree vs) (s:=s₁)
    (R:=fun r s'=>c.Ends s args vs s₁ r s'∧s'.os=s.os∧kept s'.heap)
    (Shared.asleep_of_life hal.2.2.2 hz)
    (wpC_mono hcode (by
      rintro fin s' ⟨f,e,h1,h2,h3,h4⟩
      exact ⟨f,e,⟨h1,h2,h4⟩,leftWithCleanup_false_of_bare h3⟩) (by
      rintro e s' ⟨h1,h2,h3,h4⟩
      exact ⟨⟨h1,h2,h4⟩,leftWithCleanup_false_of_bare h3⟩))
  obtain ⟨eh,_,_,eo,_⟩:=Shared.forget_eq hfo
  have hcase:=ClaimW.Ends.congr eh hcase
  have hkp:kept s'.heap:=by first | exact eh ▸ hkp | (rw [eh] at hkp; exact hkp) | (rw [← eh] at hkp; exact hkp)
  rw [← eo] at hos
  have hlife:s'.heap.life=s.heap.life:=(runN_life _ _ _ hrun).trans hal.2.2.2
  refine ⟨vs,s₁,hlaid,k,_,s',hsched,?_,(fun _ i x hx=>by rw [hgens] at hx; simp at hx),hkp,by rw [hlife],Shared.rest_eq hos⟩
  rcases hcase with ⟨v,rfl,d1,d2,d3,d4,d5⟩ | ⟨e,ob,cls,rfl,d1,d2,d3,d4,d5⟩
  · exact .inl ⟨v,rfl,d1,d2,d3,fun b o y _=>d4 b o y,d5⟩
  · exact .inr ⟨e,ob,cls,rfl,d1,d2,d3,d4,fun b o y _=>d5 b o y⟩
end Mine
namespace Mine
theorem open_anyXC {r:RowW} {run:Value→List Value→Sem Value} {tree:List Value→Sem Fin} {q:Program} {loose defs kps:List Str} {writes:Bool} {Xt:Shared→Bool} {XP:(Str→Option Value)→Heap→Prop} {α:Type} {Yf:Shared→α} {Ya:World→α} {N:Nat}
    (left:LeftO r.prog q loose Xt Yf Ya N) (hX:∀ s,Xt s=true→XP (s.heap.nsMap mainGlobals) s.heap) (hXk:∀ mg h h',XP mg h→(∀ b o,h.get? b=some o→h'.get? b=some o)→XP mg h')
    (hRf:∀ s,Xt s=true→RecFacts r.records s.heap) (hwr:(!writes || r.records.isEmpty)=true) (ok:(chainsOk q && opensWell r.prog && (frees r && r.within.isEmpty))=true) (hb:r.prog.bare) (hw:r.promised)
    (ht:∀ vs (w:World) (s:Shared) mg f (Q:Fin→Shared→Prop) (E:Value→Shared→Prop),s.heap.Ns mainGlobals mg→mg r.name=some f→wpC (model r.prog w) callerA (run f vs) (fun v s'=>Q (.done (.ret v)) s') E s→wpC (model r.prog w) callerA (tree vs) Q E s)
    (pin:∀ w s,s.heap.isNs mainGlobals=true→Ground q loose [] XP w s (s.heap.nsMap mainGlobals) (s.heap.nsMap builtinsNs) s.heap→∀ n ∈ defs,isTheDefsW r.prog s.heap n)
    (call:∀ (w:World) (s₀ s₁:Shared) (mg mb:Str→Option Value),Ground q loose r.records XP w s₀ mg mb s₁.heap→Yf s₀=Ya w→∀ (args:List WData) (vs:List Value) (as:List Addr),
      r.claim.pre args=true→WData.layableAll args=true→Laid r.records w s₀ s₁ args vs as→sysModules < s₀.heap.objs.size→∃ f,mg r.name=some f ∧
        wpC (model r.prog w) callerA (run f vs) (fun v s'=>GoodWG r.claim (classAt s₀.heap) (ExcName.means s₀.heap) args s₁ (.ok (.ret v)) s')
          (fun e s'=>GoodWG r.claim (classAt s₀.heap) (ExcName.means s₀.heap) args s₁ (.error e) s') s₁):r.claim.HoldsOpenBy (fun vs=>⟨tree vs,.builtin "claim.caller" {},default,[]⟩) defs kps writes:=by
  obtain ⟨ok,k5⟩:=Bool.and_eq_true_iff.mp ok
  obtain ⟨hch,o1⟩:=Bool.and_eq_true_iff.mp ok
  obtain ⟨k5,k6⟩:=Bool.and_eq_true_iff.mp k5
  obtain ⟨hsame,hu,ha,hap,hm⟩:=frees_parts k5
  refine ⟨⟨hb,o1,by show r.makers.map _=[]; rw [hm]; rfl⟩,hw.witness,fun w=>⟨(left.behind hX hch w).1,fun s' hs'=>?_⟩⟩
  obtain ⟨s₀,hf,hg0,s,hT,hz,hgens,hg,G00,y⟩:=(left.behind (XP:=fun mg h=>XP mg h∧RecFacts r.records h) (fun s hs=>⟨hX s hs,hRf s hs⟩) hch w).2 s' hs'
  have G0:Ground q loose [] XP w s (s.heap.nsMap mainGlobals) (s.heap.nsMap builtinsNs) s.heap:=⟨G00.T,G00.B,G00.D,G00.TE,G00.TD,G00.W,G00.X.1,G00.cls,G00.has,G00.apart,G00.once,G00.K⟩
  have RF:=G00.X.2
  have hT':=hT
  refine ⟨s₀,hf,hg0,s,hT,pin w s hg G0,RF.1,RF.2.1,?_⟩
  have hgens:s.gens=#[]:=Array.eq_empty_of_size_eq_zero (beq_iff_eq.mp hgens)
  have G:Ground q loose r.records XP w s _ _ s.heap:=RF.ground G0
  refine callFrom_of_specC (c:=r.claim) hz hgens fun args hpre hlay ord hord=>?_
  obtain ⟨⟨vs,s₁⟩,hlaid⟩:=Option.isSome_iff_exists.mp (layAllW_isSome (P:=w.params) (ord:=ord) G.has args r.args s (pre_splitW hpre).1)
  have keeps:=layAllW_keeps _ _ _ hlaid
  have hal:=layAllW_rest _ _ _ hlaid
  obtain ⟨as,hrd,hin,hold⟩:=reads_layAllW hord _ _ _ hlaid hlay s₁.heap (fun _ _ e=>e)
  have L:Laid r.records w s s₁ args vs as:=⟨⟨ord,hord,hlaid⟩,hrd,hin,hold,keeps,hal.1.trans hgens,hal.2.2.1⟩
  have G₁:=G.keeps hXk keeps
  obtain ⟨f,hf,h⟩:=call w s s₁ _ _ G₁ y args vs as hpre hlay L G.low
  have hi:=ident_freeW hu ha hap
  have hwi:r.claim.within=[]:=List.isEmpty_iff.mp k6
  exact ⟨vs,s₁,hlaid,ht vs w s₁ _ f _ _ G₁.T.g hf (wpC_mono h (fun v s' g=>⟨_,rfl,have z:=g.laid (c:=r.claim) hsame hwi hi L; ⟨z.1,z.2.1,z.2.2,fun q=>⟨namesKept_of hT' hg kps keeps g.2.1.old,noTable hwr q⟩⟩⟩) fun e s' g=>have z:=g.laid (c:=r.claim) hsame hwi hi L; ⟨z.1,z.2.1,z.2.2,fun q=>⟨namesKept_of hT' hg kps keeps g.2.1.old,noTable hwr q⟩⟩)⟩
abbrev WalkXC (q:Program) (loose:List Str) (XP:(Str→Option Value)→Heap→Prop) {α:Type} (Yf:Shared→α) (Ya:World→α) (r:RowW) (d:DefRec) (kwd:List (Str × Expr)) (run:Value→List Value→Sem Value):Prop :=
  ∀ (w:World) (s₀ s₁:Shared) (mg mb:Str→Option Value),Ground q loose r.records XP w s₀ mg mb s₁.heap→Yf s₀=Ya w→∀ (a:Addr) (o:Obj) (pm cd doc dV kV:Value),s₁.heap.get? a=some o →
    o.data=.func { docDef d.name d.params d.body d.scope pm cd doc with defaults:=dV,kwdefaults:=kV }→s₁.heap.CodeRec cd d.name→Dflts mg s₁.heap d.params kwd dV kV→mg d.name=some (.ref a)→s₁.gens=#[] →
    ∀ (args:List WData) (vals:List Value) (as:List Addr),Laid r.records w s₀ s₁ args vals as→r.claim.pre args=true→WData.layableAll args=true→ReadsAllW r.records (classAt s₀.heap) s₁.heap vals args as→WellAll w.params s₁.heap vals args→(∀ a ∈ as,(a == sysModules)=false) →
      wpC (model r.prog w) callerA (run (.ref a) vals) (fun v s'=>GoodWG r.claim (classAt s₀.heap) (ExcName.means s₀.heap) args s₁ (.ok (.ret v)) s')
        (fun e s'=>GoodWG r.claim (classAt s₀.heap) (ExcName.means s₀.heap) args s₁ (.error e) s') s₁
theorem holds_openXK {r:OpenRow} {q:Program} {loose:List Str} {Xt:Shared→Bool} {XP:(Str→Option Value)→Heap→Prop} {α:Type} {Yf:Shared→α} {Ya:World→α} {d:DefRec} {kwd:List (Str × Expr)} {N:Nat}
    (left:LeftO r.prog q loose Xt Yf Ya N)
    (hX:∀ s,Xt s=true→XP (s.heap.nsMap mainGlobals) s.heap) (hXk:∀ mg h h',XP mg h→(∀ b o,h.get? b=some o→h'.get? b=some o)→XP mg h')
    (hdef:defOf q r.name=some (d,kwd)) (hp:r.prog.theDef r.name=some (d.params,d.body,d.scope)) (hk:kwWritten? d.params.kwonlyargs d.params.kw_defaults=some kwd) (hRf:∀ s,Xt s=true→RecFacts r.records s.heap) (hwr:(!r.writes || r.records.isEmpty)=true)
    (k1:r.wellSaid=true) (ok:(chainsOk q && opensWell r.prog && (frees r.toRowW && r.within.isEmpty))=true) (hb:r.prog.bare) (hw:r.toRowW.promised)
    (call:WalkXC q loose XP Yf Ya r.toRowW d kwd fun f vs=>PySem.call f vs):r.Holds:=by
  refine ⟨k1,hw,open_anyXC (r:=r.toRowW) (run:=fun f vs=>PySem.call f vs) (tree:=fun vs=>do match ← nsGet mainNs r.name with
      | some f=>do ret (← PySem.call f vs)
      | none=>unsupported "claim.caller:no-such-global") left hX hXk hRf hwr ok hb hw
    (fun vs w s mg f Q E hg hf h=>wpC_bindA (wpAny_nsGet hg (by rw [hf]; exact wpC_bind (wpC_mono h (fun _ _ x=>wpC_pure x) fun _ _ x=>x))))
    (fun w s hg G n hn=>?_) fun w s₀ s₁ mg mb G Y args vs as hpre hlay L low=>?_⟩
  · obtain rfl:n=r.name:=by split at hn <;> simp_all
    exact pinned_of_view hg G hdef hp hk
  · obtain ⟨a,o,pm,cd,doc,dV,kV,h1,h2,h3,h4,h5⟩:=G.fn hdef
    exact ⟨.ref a,h1,call w s₀ s₁ mg mb G Y a o pm cd doc dV kV h2 h3 h4 h5 (defOf_name hdef ▸ h1) L.gens args vs as L hpre hlay L.reads L.well (L.low low)⟩
end Mine
namespace Mine
theorem ns_none_of {K:Frag} {h:Heap} {a:Addr} {mm:Str→Option Value} {n:Str} (X:K.In h) (G:h.Ns a mm) (e:nsIn K a n=some none):mm n=none:=by
  obtain ⟨o,es,ep,ho,hd,_,hf⟩:=G
  unfold nsIn at e
  split at e
  · rename_i c d es' n' sl q
    have:=X _ _ q
    rw [ho] at this
    cases this
    cases hd
    split at e
    · cases e
    · rename_i he
      rw [← hf]
      unfold nsFind findBy
      rw [← Array.find?_toList,he]; rfl
  · cases e
def freeNames:List Str:=["len","range","enumerate","zip","reversed","bytearray","bytes","divmod","sum","isinstance","bool","str","list","max","min","int","sorted","ValueError"]
section
variable {q:Program} {loose:List Str} {mean:ExcName→Option Value} {K:Frag} {w:World} {h:Heap} {mg mb:Str→Option Value} {tabs:List (Addr × Addr)}
def mkWd (T:Top q loose mean mg mb h) (hT:TabsAt tabs h) (X:K.In h) (hst:nsIn K cStatics sharingNotToldKey=some none) (qual:Addr→Str):Wd where
  base:=ghostOf h tabs
  mg:=mg
  mb:=mb
  tabs:=tabs
  qual:=qual
  g:=ghost_ns hT T.g
  b:=ghost_ns hT T.b
  nolimit:=let ⟨mc,a,r⟩:=T.nolimit; ⟨mc,ghost_ns hT a,r⟩
  nodigits:=let ⟨mc,a,r⟩:=T.nodigits; ⟨mc,ghost_ns hT a,r⟩
  booked:=let ⟨mc,a,r⟩:=T.nodigits; ⟨mc,ghost_ns hT a,ns_none_of X a hst⟩
  builtins:=T.builtins
  bmain:=let ⟨bm,ob,a1,a2,a3,a4,r⟩:=T.bmain; ⟨bm,ob,a1,a2,ghost_get hT a3 (fun q=>by rw [q] at a4; cases a4),a4,r⟩
  hidden:=fun q hq=>hideAll_none _ (List.mem_map_of_mem hq)
  heads:=fun q hq=>by
    obtain ⟨o,vs,file,tf,flags,tg,inF,text,tt,e1,r1,r2,r3,r4,r5,r6,r7,r8,hne⟩:=(hT q hq).1
    exact ⟨o,vs,file,tf,flags,tg,inF,text,tt,ghost_get hT e1 (fun q=>by rw [q] at r1; cases r1),r1,r2,r3,r4,r5,r6,r7,r8,hne⟩
  low:=fun q hq=>by
    show _ < (ghostOf h tabs).objs.size
    rw [hideAll_size]
    exact Heap.lt_size (hT q hq).2
theorem ghost_rec (hT:TabsAt tabs h) {cd:Value} {n:Str} (x:h.CodeRec cd n):(ghostOf h tabs).CodeRec cd n:=by
  obtain ⟨c,o,vs,t,e,ho,hd,hv⟩:=x
  exact ⟨c,o,vs,t,e,ghost_get hT ho (fun q=>by rw [q] at hd; cases hd; simp at hv),hd,hv⟩
theorem mk_wokt (T:Top q loose mean mg mb h) (hT:TabsAt tabs h) (X:K.In h) (hst:nsIn K cStatics sharingNotToldKey=some none) (hrec:recsOf q=fnIdx.map dRec)
    (hfree:∀ x ∈ freeNames,x ∉ startupNames∧x ∉ loose∧x ∉ (recsOf q).map (·.name)∧x ∉ (litsOf q).map (·.1)∧x ∉ (clssOf q loose).map (·.name))
    (hlim:valOf q "_DIV_LIMIT"=some (.int 4000)) (hcm:valOf q "CHAR_MAX"=some (.int 127)) {c6 P6 c7 P7 c36 P36:Addr} (ht:tabs=[(c6,P6),(c7,P7),(c36,P36)])
    (h6:tabIn K "_int2digits"=some (c6,P6)) (h7:tabIn K "_digits2int"=some (c7,P7)) (h36:tabIn K "law"=some (c36,P36)) (hne:P6≠P7∧P6≠P36∧P7≠P36) :
    WokT (mkWd T hT X hst fun P=>if P=P6 then "_int2digits.<locals>.inner" else if P=P7 then "_digits2int.<locals>.inner" else "law.<locals>.<lambda>") where
  ok:={
    fns:=fun i hi=>by
      obtain ⟨a,o,pm,code,doc,h1,h2,h3,h4⟩:=T.fn (dRec i) (by rw [hrec]; exact List.mem_map_of_mem hi)
      exact ⟨a,h1,o,pm,code,doc,ghost_get hT h2 (fun q=>by rw [q] at h3; cases h3),h3,ghost_rec hT h4⟩
    free:=fun x hx=>by
      obtain ⟨a1,a2,a3,a4,a5⟩:=hfree x hx
      exact T.free x a1 a2 a3 a4 a5
    lim:=by
      obtain ⟨v,h1,h2⟩:=T.const _ _ hlim
      have:=h2 h
      cases this
      exact ⟨_,h1⟩
    cmax:=by
      obtain ⟨v,h1,h2⟩:=T.const _ _ hcm
      have:=h2 h
      cases this
      exact ⟨_,h1⟩ }
  nd:=fun a ha b hb e=>by
    subst ht
    obtain ⟨n1,n2,n3⟩:=hne
    have ha':a ∈ [(c6,P6),(c7,P7),(c36,P36)]:=ha
    have hb':b ∈ [(c6,P6),(c7,P7),(c36,P36)]:=hb
    simp only [List.mem_cons,List.not_mem_nil,or_false] at ha' hb'
    rcases ha' with rfl | rfl | rfl <;> rcases hb' with rfl | rfl | rfl <;> first | rfl | exact absurd e n1 | exact absurd e n2 | exact absurd e n3 | exact absurd e.symm n1 | exact absurd e.symm n2 | exact absurd e.symm n3
  t6:=⟨c6,P6,by show _ ∈ tabs; rw [ht]; exact .head _,if_pos rfl,fun a o pm code doc hm ho hd=>law_code X T.g h6 hm (of_hideAll _ ho) hd⟩
  t7:=⟨c7,P7,by show _ ∈ tabs; rw [ht]; exact .tail _ (.head _),by show (if P7=P6 then _ else _)=_; rw [if_neg hne.1.symm,if_pos rfl],fun a o pm code doc hm ho hd=>law_code X T.g h7 hm (of_hideAll _ ho) hd⟩
  t36:=⟨c36,P36,by show _ ∈ tabs; rw [ht]; exact .tail _ (.tail _ (.head _)),by show (if P36=P6 then _ else _)=_; rw [if_neg hne.2.1.symm,if_neg hne.2.2.symm],fun a o pm code doc hm ho hd=>law_code X T.g h36 hm (of_hideAll _ ho) hd⟩
theorem law_hc {s:Shared} {c6 P6 c7 P7 c36 P36:Addr} (X:K.In s.heap) (T:Top q loose mean mg mb s.heap) (hT:TabsAt [(c6,P6),(c7,P7),(c36,P36)] s.heap) (hst:nsIn K cStatics sharingNotToldKey=some none) (hrec:recsOf q=fnIdx.map dRec)
    (hfree:∀ x ∈ freeNames,x ∉ startupNames∧x ∉ loose∧x ∉ (recsOf q).map (·.name)∧x ∉ (litsOf q).map (·.1)∧x ∉ (clssOf q loose).map (·.name))
    (hlim:valOf q "_DIV_LIMIT"=some (.int 4000)) (hcm:valOf q "CHAR_MAX"=some (.int 127))
    (h6:tabIn K "_int2digits"=some (c6,P6)) (h7:tabIn K "_digits2int"=some (c7,P7)) (h36:tabIn K "law"=some (c36,P36)) (hne:P6≠P7∧P6≠P36∧P7≠P36)
    {ns:List Int} {t₀ a fa:Nat} (hn:ns.length≤1000) (ht0:0 < t₀) (htk:s.toks=t₀ + ns.length) (ha:s.heap.get? a=some (listOf (intsAt t₀ ns).toArray 0)) (hg:s.gens=#[]) (hfa:mg "law"=some (.ref fa))
    {Q:Value→Shared→Prop} {E:Value→Shared→Prop}
    (hq:∀ s',(∀ b o,b ∉ [P6,P7,P36]→s.heap.get? b=some o→s'.heap.get? b=some o)→(∀ b ∈ [P6,P7,P36],∃ ps,s'.heap.get? b=some (tabObj ps))→s'.os=s.os→AllBare s'.gens→Q (.bool true) s') :
    wpC (model pw w) callerA (call (.ref fa) [.ref a]) Q E s:=by
  let W:=mkWd T hT X hst fun P=>if P=P6 then "_int2digits.<locals>.inner" else if P=P7 then "_digits2int.<locals>.inner" else "law.<locals>.<lambda>"
  have wt:WokT W:=mk_wokt T hT X hst hrec hfree hlim hcm rfl h6 h7 h36 hne
  have isTab:∀ b,W.tab b ↔ b ∈ [P6,P7,P36]:=fun b=>by
    constructor
    · rintro ⟨r,hr,rfl⟩
      exact List.mem_map_of_mem (f:=Prod.snd) (show r ∈ [(c6,P6),(c7,P7),(c36,P36)] from hr)
    · intro hb
      obtain ⟨r,hr,e⟩:=List.mem_map.mp (show b ∈ [(c6,P6),(c7,P7),(c36,P36)].map Prod.snd from hb)
      exact ⟨r,hr,e⟩
  have b0:Base W { s with toks:=t₀ } ⟨[(a,listOf (intsAt t₀ ns).toArray 0)],[]⟩:=by
    refine ⟨fun b o e=>of_hideAll _ e,fun p hp=>?_,⟨ht0,fun _ h=>(nomatch h),fun _ h=>(nomatch h)⟩,fun r hr=>?_,fun p hp=>?_,Nat.le_of_eq (hideAll_size _ _)⟩
    · cases List.mem_singleton.mp hp; exact ha
    · exact ⟨#[],(hT r hr).2,trivial,fun pos cv e=>nomatch e⟩
    · cases List.mem_singleton.mp hp
      rintro ⟨r,hr,e⟩
      have h1:=(hT r hr).2
      rw [show r.2=a from e,ha] at h1
      cases h1
  obtain ⟨b1,g1⟩:=tkl_le (W:=W) t₀ (ns.map Dat.int) _ _ b0 rfl
  have es:({ s with toks:=t₀ + (ns.map Dat.int).length }:Shared)=s:=by rw [List.length_map,← htk]
  have b2:Base W s (Fz.tkl ⟨[(a,listOf (intsAt t₀ ns).toArray 0)],[]⟩ t₀ (ns.map Dat.int)):=by rw [← es]; exact b1
  have hv:VsIs pw w (Fz.tkl ⟨[(a,listOf (intsAt t₀ ns).toArray 0)],[]⟩ t₀ (ns.map Dat.int)) [.ref a] [.dat (.list (ns.map Dat.int))] :=
    .cons (Rep.list ((le_tkl _ _ _).obs _ (.head _)) (reps_tkl ns t₀ _)) .nil
  obtain ⟨a',f36⟩:=wt.ok.fns 36 (by decide)
  have e36:a'=fa:=by
    have h1:mg "law"=some (.ref a'):=f36.glob
    rw [hfa] at h1; cases h1; rfl
  subst e36
  refine sp_law (k:=0) wt hn a' f36 s _ [.ref a] b2 hv callerA _ _ ⟨rfl,by decide,by decide⟩ rfl fun v s' F' g hv'=>?_
  have hv'':Rep F' v (.bool true):=hv'
  cases hv''
  refine hq s' (fun b o hb e=>g.keep b o (fun t=>hb ((isTab b).mp t)) e) (fun b hb=>?_) g.os (g.gens.2 (.of_eq hg))
  obtain ⟨r,hr,rfl⟩:=(isTab b).mpr hb
  obtain ⟨ps,h1,_⟩:=g.tabs r hr
  exact ⟨ps,h1⟩
end
end Mine
namespace Mine
theorem lay_intsAt {R:WRecords} {cl:Str→Option Addr} {P:Params} {ord:List DictEntry→List DictEntry}:∀ (ns:List Int) (s:Shared) (r:List Value × Shared),layAllW R cl P ord (ofPys (ns.map PyData.int)) s=some r→r.1=intsAt s.toks ns∧r.2={ s with toks:=s.toks + ns.length }
  | [],s,r,e=>by
    have:layAllW R cl P ord (ofPys (List.map PyData.int [])) s=some ([],s):=by simp [ofPys,layAllW]
    rw [this] at e
    cases e; exact ⟨rfl,rfl⟩
  | n :: ns,s,r,e=>by
    simp only [List.map_cons,ofPys,ofPy,layAllW,layW] at e
    cases q:layAllW R cl P ord (ofPys (List.map PyData.int ns)) { s with toks:=s.toks + 1 } with
    | none=>rw [q] at e; cases e
    | some r' =>
      rw [q] at e
      cases e
      obtain ⟨h1,h2⟩:=lay_intsAt ns { s with toks:=s.toks + 1 } r' q
      refine ⟨by rw [h1]; rfl,?_⟩
      rw [h2,List.length_cons]
      show ({ s with toks:=s.toks + 1 + ns.length }:Shared)=_
      congr 1; omega
theorem script_all {R:WRecords} {w:World} {s₀ s₁:Shared} {ns:List Int} {a:Addr} {as:List Addr} (L:Laid R w s₀ s₁ [ofPy (PyData.list (ns.map PyData.int))] [.ref a] as):s₁.toks=s₀.toks + ns.length∧s₁.heap.get? a=some (listOf (intsAt s₀.toks ns).toArray 0):=by
  obtain ⟨ord,_,e⟩:=L.laid
  simp only [ofPy,layAllW,layW] at e
  cases q:layAllW R (classAt s₀.heap) w.params ord (ofPys (List.map PyData.int ns)) s₀ with
  | none=>rw [q] at e; cases e
  | some r =>
    rw [q] at e
    obtain ⟨h1,h2⟩:=lay_intsAt ns s₀ r q
    simp only [Option.some.injEq,Prod.mk.injEq,List.cons.injEq,Value.ref.injEq] at e
    obtain ⟨⟨ea,_⟩,es⟩:=e
    rw [← es,← ea,h2,h1]
    exact ⟨rfl,Heap.get?_push_size _ rfl⟩
theorem oldK_of {tabs:List (Addr × Addr)} {h h':Heap} (hT:TabsAt tabs h) (k1:∀ b o,b ∉ tabs.map (·.2)→h.get? b=some o→h'.get? b=some o) (k2:∀ b ∈ tabs.map (·.2),∃ ps,h'.get? b=some (tabObj ps)):OldK h h':=by
  have grown:∀ b o,b ∈ tabs.map (·.2)→h.get? b=some o→isCodeTable h b∧o=tabObj #[]∧∃ ps,h'.get? b=some (tabObj ps):=fun b o hb e=>by
    obtain ⟨ps,hP⟩:=k2 b hb
    obtain ⟨q,hq,rfl⟩:=List.mem_map.mp hb
    have e2:=(hT q hq).2
    rw [e] at e2
    exact ⟨((hT q hq).1.tab (hT q hq).2).isCodeTable,Option.some.inj e2,ps,hP⟩
  refine ⟨fun b o e=>?_,fun b o e=>?_⟩
  · by_cases hb:b ∈ tabs.map (·.2)
    · obtain ⟨ht,rfl,ps,hP⟩:=grown b o hb e
      exact .inr (.inl ⟨ht,rfl,#[],ps,rfl,by rw [Array.empty_append]; exact hP⟩)
    · exact .inl (k1 b o hb e)
  · by_cases hb:b ∈ tabs.map (·.2)
    · obtain ⟨_,_,ps,hP⟩:=grown b o hb e
      exact ⟨_,hP⟩
    · exact ⟨o,k1 b o hb e⟩
end Mine
open PySem PySem.W PyProof.Rows
namespace Mine
theorem PySem.W.holds_openX {r:OpenRow} {q:Program} {loose:List Str} {Xt:Shared→Bool} {XP:(Str→Option Value)→Heap→Prop} {α:Type} {Yf:Shared→α} {Ya:World→α} {d:DefRec} {kwd:List (Str × Expr)} {N:Nat}
    (left:LeftO r.prog q loose Xt Yf Ya N)
    (hX:∀ s,Xt s=true→XP (s.heap.nsMap mainGlobals) s.heap) (hXk:∀ mg h h',XP mg h→(∀ b o,h.get? b=some o→h'.get? b=some o)→XP mg h')
    (hdef:defOf q r.name=some (d,kwd)) (hp:r.prog.theDef r.name=some (d.params,d.body,d.scope)) (hk:kwWritten? d.params.kwonlyargs d.params.kw_defaults=some kwd) (hRf:∀ s,Xt s=true→RecFacts r.records s.heap) (hwr:(!r.writes || r.records.isEmpty)=true)
    (k1:r.wellSaid=true) (ok:(chainsOk q && opensWell r.prog && (frees r.toRowW && r.within.isEmpty))=true) (hb:r.prog.bare) (hw:r.toRowW.promised)
    (call:WalkXC q loose XP Yf Ya r.toRowW d kwd fun f vs=>PySem.call f vs):r.Holds:=holds_openXK left hX hXk hdef hp hk hRf hwr k1 ok hb hw call
set_option maxHeartbeats 8000000 in
theorem fin:PySem.Challenge.rw_wy0028_01.Holds:=by
  w_on; o_law; z_head; (case hw=>w_witness2)
  intro w s₀ s₁ mg mb G Y fa o pm cd doc dV kV ho hd hcd hD hmg hg args vals as L hpre hlay hrd hwl hlo
  z_open Y L KX ZH ZN ZT
  have hfa:=hmg
  have hgens:=hg
  clear hd ho Y hcd hD hmg
  refine Ground.open G ?_
  intro T B D TE TW
  clear B D TE TW
  wrow_args hpre hlay hrd hwl hlo
  rename_i ns _ _ _ _ _ _ _ a _ _ _ _ _ _ _ _ hcn _
  obtain ⟨k1,k2⟩:=script_all L
  have hT:TabsAt [(41,37),(48,44),(209,207)] s₁.heap:=List.forall_mem_cons.mpr ⟨⟨codeHd_of_K KX (by kernel_rfl),KX 37 _ (by kernel_rfl)⟩,List.forall_mem_cons.mpr ⟨⟨codeHd_of_K KX (by kernel_rfl),KX 44 _ (by kernel_rfl)⟩,List.forall_mem_cons.mpr ⟨⟨codeHd_of_K KX (by kernel_rfl),KX 207 _ (by kernel_rfl)⟩,fun _ h=>nomatch h⟩⟩⟩
  refine law_hc (ns:=ns) (t₀:=s₀.toks) KX T hT (by kernel_rfl) (by kernel_rfl) (by decide +kernel) (by kernel_rfl) (by kernel_rfl) (by kernel_rfl) (by kernel_rfl) (by kernel_rfl) (by decide) (by omega) (by rw [ZT]; decide) k1 k2 hgens hfa fun s' q1 q2 q3 q4=>?_
  refine ⟨.inl ⟨_,.bool true,[],rfl,fun _=>rfl,ReadsW.bool true,?_,fun _=>⟨List.nodup_nil,fun _ h=>nomatch h⟩⟩,oldK_of hT q1 q2,q3,q4⟩
  first | rfl | wrow_post
end Mine
theorem PySem.Challenge.cw_wy0028_01_holds : PySem.Challenge.rw_wy0028_01.Holds :=
  Mine.fin
