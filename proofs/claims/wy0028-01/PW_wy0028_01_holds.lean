import PyProof.Rows.All
import Wide.All
import OpenK.AllK
import Wide.FinOn
import KE.KLam
import KE.KNest
import KE.KSortTup
import PyProof.GenQ
import PyProof.StationsW
import PySem.Challenge.RW_wy0028_01
set_option Elab.async false
set_option maxRecDepth 100000
set_option linter.unusedVariables false
set_option genInjectivity false
set_option genSizeOf false
set_option compiler.extract_closed false
set_option bootstrap.genMatcherCode false
set_option tactic.hygienic false
open PySem PySem.W PySem.Calls PyProof.Rows
namespace Mine
def qA:=@Nat.le_of_ble_eq_true
def qB:=@Nat.le_trans
def qC:=@wpAny_bind
theorem qF {α:Type _}{a b:α}(h:a∈[b]):a=b:=List.mem_singleton.mp h
theorem qG {α:Type _}{a b:α}{l:List α}(h:a∈b::l):a=b∨a∈l:=List.mem_cons.mp h
def qH:=@Nat.le_refl
def qI:=@wpAny_pure
def qJ:=@Heap.lt_size
def qK:=@Nat.lt_of_lt_of_le
def qL:=@Nat.le_of_eq
def qM:=@Nat.ne_of_lt
def qO:=@Nat.lt_succ_of_le
theorem qP {α:Type _}{a:α}{s t:List α}(h:a∈s++t):a∈s∨a∈t:=List.mem_append.mp h
def qQ:=@Nat.sub_add_cancel
def qR:=@Nat.le_add_right
theorem qS {α:Type _}{β:Type _}{f:α→β}{l:List α}{b:β}(h:b∈l.map f):∃a,a∈l∧f a=b:=List.mem_map.mp h
def qT:=@List.mem_append_left
def qU:=@Nat.le_of_lt
def qV:=@Nat.lt_of_le_of_lt
def qW:=@Nat.le_succ_of_le
def qZ:=@Nat.add_le_add_left
def xA:=@Nat.le_add_right_of_le
theorem xB {a b:Nat}(h:b≤a):¬a<b:=Nat.not_lt.mpr h
def xE:=@Nat.ne_of_gt
def xH:=@List.mem_append_right
def xI:=@Nat.le_succ
def xM:=@Int.natCast_nonneg
def xP:=@wpAny_execs_cons
def xS:=@wpAny_holding
def xT:=@wpAny_mono
def xW:=@Ne.symm
def xZ:=@Nat.pow_le_pow_right
def x7:=@wpAny_of_eq
def zB:=@seg_execs_cons
def zC:=@wpAny_field
def zD:=@Nat.div_mul_le_self
def zE:=@List.mem_map_of_mem
def zF:=@wpAny_newObj_type
def zH:=@Nat.le_of_succ_le
def zI:=@Int.self_le_toNat
def zJ:=@Int.fmod_nonneg_of_pos
def zK:=@Nat.lt_irrefl
def zM:=@Nat.le_add_left_of_le
def zN:=@List.map_congr_left
def zO:=@Int.toNat_of_nonneg
def zP:=@Heap.SameBut.update
def z0:=@List.of_mem_zip
def z2:=@wpAny_isInstance
def z5:=@Nat.succ_le_succ
def z9:=@wpAny_newFunctionEnv_cells
def wA:=@wpAny_standAt
def wE:=@Nat.lt_succ_self
def wF:=@List.getElem_mem
def wI:=@Nat.mul_le_mul_left
def wJ:=@Nat.zero_le
def wK:=@wpAny_isTrue_Compare1
def wP:=@Nat.pos_of_ne_zero
def wQ:=@Int.fmod_lt_of_pos
def wV:=@Nat.le_of_not_lt
def wY:=@wpAny_truthy_bool
def wZ:=@PyProof.Rows.callWith_type
def w0:=@Nat.add_le_add
def w4:=@wpAny_specialOf
def kA:=@wpAny_setField_rec
def kE:=@wpAny_seqItems
def kI:=@wpAny_Assign_Name
def kJ:=@Nat.min_le_left
def kK:=@Nat.le_antisymm
def kT:=@List.ext_getElem
def jJ:=@wpAny_newFunctionEnv
def jN:=@Eq.trans
def jO:=@wpAny_rule
def jV:=@wpAny_call_entry
def yB:=@Nat.add_comm
def yG:=@Nat.div_add_mod
def yJ:=@wpAny_assign_Name
def yL:=@Nat.lt_succ_of_lt
def yM:=@Nat.le_of_lt_succ
def yO:=@seg_wrap
def yV:=@Nat.mul_le_mul_right
def yX:=@F.slot_range_iterator_next
def yY:=@wpAny_pyIter_zip
def yZ:=@IntMulOk.of_left
def vG:=@wpAny_execs_nil
def vH:=@Nat.le_add_left
def vI:=@wpAny_call
def vK:=@Nat.lt_div_mul_add
def vL:=@Nat.add_right_comm
def vO:=@Sem.wp_mono
def vY:=@wpAny_pyNext_list_item
def vZ:=@wpAny_Return_some
def gJ:=@Nat.mul_le_mul
def gK:=@Nat.lt_of_succ_lt_succ
def gM:=@Int.mul_nonneg
def gO:=@Eq.symm
def gV:=@wpAny_allTrue_Or_cons
def pG:=@PySem.F.slot_int_rmul
def pH:=@List.length_filter_le
def pI:=@wpAny_load
def pQ:=@wpAny_loadName_local
def uM:=@Nat.two_pow_pos
def uN:=@Nat.not_lt_zero
def uY:=@Nat.succ_pos
def u0:=@wpAny_isTrue_value
def bE:=@Int.emod_lt_of_pos
def bY:=@wpAny_pyIter_list
def fH:=@Nat.log2_lt
def fI:=@wpAny_onRaise
def fJ:=@wpAny_comprehension_free
def tG:=@Nat.not_lt_of_le
def tH:=@Int.eq_ofNat_of_zero_le
def tI:=@wpAny_Assign_Subscript
def t9:=@Int.le_of_lt
def nV:=@Int.emod_nonneg
def nW:=@F.slot_zip_next
def nY:=@wpAny_storeName_local
def nZ:=@wpAny_pyNext_list_end
def mO:=@wpAny_updateSeq_pair
def mP:=@wpAny_throw
def mQ:=@wpAny_allTrue_Or_nil
def sS:=@Nat.eq_of_testBit_eq
def sT:=@Nat.add_le_add_right
def sV:=@List.mem_of_mem_take
def sW:=@List.mem_of_mem_drop
def s5:=@Around.frames_deeper
def s8:=@wpAny_isTrue_BoolOp
def s9:=@wpAny_Constant_none
def rO:=@seg_execs_nil
def l7:=@wpAny_Name
def eE:=@Nat.mod_lt
def eN:=@AutoListH.list___mul___list_int_3
def o7:=@Int.ne_of_gt
def o8:=@Int.mul_zero
def QE:=@wpAny_ite
def QF:=@wpAny_askSetting
def ZB:=@wpAny_letGo
def WF:=@Int.le_refl
def KZ:=@Nat.min_eq_left
def V4:=@Nat.sub_le
def B2:=@PySem.F.plain_sum_loop
def B5:=@Int.ne_of_lt
def FE:=@Nat.div_lt_iff_lt_mul
def HC:=@Nat.div_eq_of_lt_le
def HD:=@F.plain_extend_loop
end Mine
namespace Mine
def au10:Lean.Syntax:=Lean.Unhygienic.run `(tacticSeq| intro _ _ _;rfl)
def au11:Lean.Syntax:=Lean.Unhygienic.run `(tacticSeq| exact⟨_,fun Z=>rfl⟩)
def au1:Lean.Syntax:=Lean.Unhygienic.run `(tacticSeq| intro _;rfl)
def au2:Lean.Syntax:=Lean.Unhygienic.run `(tacticSeq| decide)
def au4:Lean.Syntax:=Lean.Unhygienic.run `(tacticSeq| rfl)
def au5:Lean.Syntax:=Lean.Unhygienic.run `(tacticSeq| intro _ _;rfl)
def au6:Lean.Syntax:=Lean.Unhygienic.run `(tacticSeq| first | decide | simp[sizeLine])
def au7:Lean.Syntax:=Lean.Unhygienic.run `(tacticSeq| first | exact .inl ⟨_,rfl⟩ | exact .inr ⟨_,rfl⟩)
def au8:Lean.Syntax:=Lean.Unhygienic.run `(tacticSeq| intro _ h;unfold interactive;rw[h];rfl)
def au9:Lean.Syntax:=Lean.Unhygienic.run `(tacticSeq| with_unfolding_all rfl)
inductive NT | v (i:Nat) | n (k:Nat) | p (a b:NT) | m (k:Nat) (a:NT) | w (a:NT) (k:Nat)
inductive IT | z (i:Nat) | n (k:Int) | c (a:NT) | p (a b:IT) | s (a b:IT) | g (a:IT) | m (k:Int) (a:IT) | w (a:IT) (k:Int)
noncomputable def NT.ev (r:List Nat):NT→Nat
  | .v i=>r.getD i 0 | .n k=>k | .p a b=>a.ev r+b.ev r | .m k a=>k*a.ev r | .w a k=>a.ev r*k
noncomputable def IT.ev (r:List Nat)(q:List Int):IT→Int
  | .z i=>q.getD i 0 | .n k=>k | .c a=>(a.ev r:Int) | .p a b=>a.ev r q+b.ev r q | .s a b=>a.ev r q-b.ev r q | .g a=>-a.ev r q | .m k a=>k*a.ev r q | .w a k=>a.ev r q*k
inductive FC | l (a b:NT) | t (a b:NT) | e (a b:NT) | L (a b:IT) | T (a b:IT) | E (a b:IT)
noncomputable def FC.ev (r:List Nat)(q:List Int):FC→Prop
  | .l a b=>a.ev r≤b.ev r | .t a b=>a.ev r<b.ev r | .e a b=>a.ev r=b.ev r
  | .L a b=>a.ev r q≤b.ev r q | .T a b=>a.ev r q<b.ev r q | .E a b=>a.ev r q=b.ev r q
noncomputable def cH:List Int→List Int→List Int
  | [],l=>l | l,[]=>l | a::l,b::m=>(a+b)::cH l m
noncomputable def WS (k:Int)(l:List Int):List Int:=l.map (k*·)
noncomputable def aJ:Nat→List Int | 0=>[1] | i+1=>0::aJ i
structure PL where
  c:Int
  a:List Int
  b:List Int
noncomputable def PL.add (x y:PL):PL:=⟨x.c+y.c,cH x.a y.a,cH x.b y.b⟩
noncomputable def PL.mul (k:Int)(x:PL):PL:=⟨k*x.c,WS k x.a,WS k x.b⟩
noncomputable def NT.po:NT→PL
  | .v i=>⟨0,aJ i,[]⟩ | .n k=>⟨k,[],[]⟩ | .p a b=>a.po.add b.po | .m k a=>PL.mul k a.po | .w a k=>PL.mul k a.po
noncomputable def IT.po:IT→PL
  | .z i=>⟨0,[],aJ i⟩ | .n k=>⟨k,[],[]⟩ | .c a=>a.po | .p a b=>a.po.add b.po | .s a b=>a.po.add (PL.mul (-1) b.po) | .g a=>PL.mul (-1) a.po | .m k a=>PL.mul k a.po | .w a k=>PL.mul k a.po
noncomputable def dN:List Int→List Nat→Int | c::l,x::r=>c*x+dN l r | _,_=>0
noncomputable def dZ:List Int→List Int→Int | c::l,x::r=>c*x+dZ l r | _,_=>0
noncomputable def PL.ev (r:List Nat)(q:List Int)(x:PL):Int:=x.c+dN x.a r+dZ x.b q
theorem VN:∀(l m:List Int) (r:List Nat),dN (cH l m) r=dN l r+dN m r
  | [],m,r=>by dsimp only[cH,dN];simp
  | a::l,[],r=>by dsimp only[cH,dN];simp
  | a::l,b::m,[]=>by exact rfl
  | a::l,b::m,x::r=>by dsimp only[cH,dN];simp only[VN l m r,Int.add_mul];omega
theorem VK:∀(l m:List Int) (r:List Int),dZ (cH l m) r=dZ l r+dZ m r
  | [],m,r=>by dsimp only[cH,dZ];simp
  | a::l,[],r=>by dsimp only[cH,dZ];simp
  | a::l,b::m,[]=>by exact rfl
  | a::l,b::m,x::r=>by dsimp only[cH,dZ];simp only[VK l m r,Int.add_mul];omega
theorem VM (k:Int):∀(l:List Int) (r:List Nat),dN (WS k l) r=k*dN l r
  | [],r=>(o8 k).symm
  | a::l,[]=>(o8 k).symm
  | a::l,x::r=>by
    show k*a*(x:Int)+dN (WS k l) r=k*(a*x+dN l r);rw[VM k l r,Int.mul_add,Int.mul_assoc]
theorem VJ (k:Int):∀(l:List Int) (r:List Int),dZ (WS k l) r=k*dZ l r
  | [],r=>(o8 k).symm
  | a::l,[]=>(o8 k).symm
  | a::l,x::r=>by
    show k*a*x+dZ (WS k l) r=k*(a*x+dZ l r);rw[VJ k l r,Int.mul_add,Int.mul_assoc]
theorem VL:∀(i:Nat)(r:List Nat),dN (aJ i) r=(r.getD i 0:Nat)
  | 0,[]=>rfl
  | 0,x::r=>by show 1*(x:Int)+dN [] r=_;dsimp only[dN];simp
  | i+1,[]=>rfl
  | i+1,x::r=>by show 0*(x:Int)+dN (aJ i) r=_;simp only[VL i r];simp
theorem VI:∀(i:Nat)(r:List Int),dZ (aJ i) r=r.getD i 0
  | 0,[]=>rfl
  | 0,x::r=>by show 1*x+dZ [] r=_;dsimp only[dZ];simp
  | i+1,[]=>rfl
  | i+1,x::r=>by show 0*x+dZ (aJ i) r=_;rw[VI i r];simp
section
variable {r:List Nat}{q:List Int}
theorem PL.ev_add (x y:PL):(x.add y).ev r q=x.ev r q+y.ev r q:=by simp only[PL.ev,PL.add,VN,VK];omega
theorem PL.ev_mul (k:Int)(x:PL):(PL.mul k x).ev r q=k*x.ev r q:=by simp only[PL.ev,PL.mul,VM,VJ,Int.mul_add]
theorem NT.ok:∀a:NT,(a.ev r:Int)=a.po.ev r q
  | .v i=>by show _=(0:Int)+dN (aJ i) r+dZ [] q;rw[VL];dsimp only[dZ,NT.ev];simp
  | .n k=>by exact rfl
  | .p a b=>by dsimp only[NT.po];simp only[PL.ev_add,← a.ok,← b.ok];rfl
  | .m k a=>by dsimp only[NT.po];simp only[PL.ev_mul,← a.ok];rfl
  | .w a k=>by dsimp only[NT.po];rw[PL.ev_mul,← a.ok,Int.mul_comm];rfl
theorem IT.ok:∀a:IT,a.ev r q=a.po.ev r q
  | .z i=>by show _=(0:Int)+dN [] r+dZ (aJ i) q;simp only[VI];dsimp only[dN,IT.ev];simp
  | .n k=>by show k=k+0+0;rw[Int.add_zero,Int.add_zero]
  | .c a=>a.ok
  | .p a b=>by dsimp only[IT.po];simp only[PL.ev_add,← a.ok,← b.ok];rfl
  | .s a b=>by dsimp only[IT.po];simp only[PL.ev_add,PL.ev_mul,← a.ok,← b.ok];show a.ev r q-b.ev r q=_;omega
  | .g a=>by dsimp only[IT.po];simp only[PL.ev_mul,← a.ok];show -a.ev r q=_;omega
  | .m k a=>by dsimp only[IT.po];simp only[PL.ev_mul,← a.ok];rfl
  | .w a k=>by dsimp only[IT.po];rw[PL.ev_mul,← a.ok,Int.mul_comm];rfl
end
noncomputable def FC.po:FC→PL
  | .l a b=>b.po.add (PL.mul (-1) a.po) | .t a b=>(b.po.add (PL.mul (-1) a.po)).add ⟨-1,[],[]⟩ | .e a b=>b.po.add (PL.mul (-1) a.po)
  | .L a b=>b.po.add (PL.mul (-1) a.po) | .T a b=>(b.po.add (PL.mul (-1) a.po)).add ⟨-1,[],[]⟩ | .E a b=>b.po.add (PL.mul (-1) a.po)
noncomputable def FC.isE:FC→Bool | .e ..=>true | .E ..=>true | _=>false
noncomputable def FC.ne:FC→PL
  | .l a b=>(a.po.add (PL.mul (-1) b.po)).add ⟨-1,[],[]⟩ | .t a b=>a.po.add (PL.mul (-1) b.po)
  | .L a b=>(a.po.add (PL.mul (-1) b.po)).add ⟨-1,[],[]⟩ | .T a b=>a.po.add (PL.mul (-1) b.po)
  | .e ..=>⟨0,[],[]⟩ | .E ..=>⟨0,[],[]⟩
theorem FC.po_ok {r:List Nat}{q:List Int}{f:FC}(h:f.ev r q):0≤f.po.ev r q∧(f.isE=true→f.po.ev r q=0):=by
  cases f with
  | l a b=>have h:a.ev r≤b.ev r:=h;refine⟨?_,fun h=>nomatch h⟩;dsimp only[FC.po];simp only[PL.ev_add,PL.ev_mul,← NT.ok,← NT.ok];omega
  | t a b=>have h:a.ev r<b.ev r:=h;refine⟨?_,fun h=>nomatch h⟩;dsimp only[FC.po];simp only[PL.ev_add,PL.ev_add,PL.ev_mul,← NT.ok,← NT.ok];show(0:Int)≤_+(-1+0+0);omega
  | e a b=>have h:a.ev r=b.ev r:=h;suffices e:(FC.e a b).po.ev r q=0 from⟨by omega,fun Z=>e⟩;dsimp only[FC.po];simp only[PL.ev_add,PL.ev_mul,← NT.ok,← NT.ok];omega
  | L a b=>have h:a.ev r q≤b.ev r q:=h;refine⟨?_,fun h=>nomatch h⟩;dsimp only[FC.po];simp only[PL.ev_add,PL.ev_mul,← IT.ok,← IT.ok];omega
  | T a b=>have h:a.ev r q<b.ev r q:=h;refine⟨?_,fun h=>nomatch h⟩;dsimp only[FC.po];simp only[PL.ev_add,PL.ev_add,PL.ev_mul,← IT.ok,← IT.ok];show(0:Int)≤_+(-1+0+0);omega
  | E a b=>have h:a.ev r q=b.ev r q:=h;suffices e:(FC.E a b).po.ev r q=0 from⟨by omega,fun Z=>e⟩;dsimp only[FC.po];simp only[PL.ev_add,PL.ev_mul,← IT.ok,← IT.ok];omega
theorem FC.ne_ok {r:List Nat}{q:List Int}{f:FC}(he:f.isE=false)(h:¬f.ev r q):0≤f.ne.ev r q:=by
  cases f with
  | l a b=>have h:¬a.ev r≤b.ev r:=h;dsimp only[FC.ne];simp only[PL.ev_add,PL.ev_add,PL.ev_mul,← NT.ok,← NT.ok];show(0:Int)≤_+(-1+0+0);omega
  | t a b=>have h:¬a.ev r<b.ev r:=h;dsimp only[FC.ne];simp only[PL.ev_add,PL.ev_mul,← NT.ok,← NT.ok];omega
  | e a b=>cases he
  | L a b=>have h:¬a.ev r q≤b.ev r q:=h;dsimp only[FC.ne];simp only[PL.ev_add,PL.ev_add,PL.ev_mul,← IT.ok,← IT.ok];show(0:Int)≤_+(-1+0+0);omega
  | T a b=>have h:¬a.ev r q<b.ev r q:=h;dsimp only[FC.ne];simp only[PL.ev_add,PL.ev_mul,← IT.ok,← IT.ok];omega
  | E a b=>cases he
noncomputable def FC.im (r:List Nat)(q:List Int):List FC→Prop→Prop
  | [],g=>g
  | f::u,g=>f.ev r q→FC.im r q u g
noncomputable def FC.sum:List FC→List Int→PL→PL
  | f::u,k::c,a=>FC.sum u c (a.add (PL.mul k f.po))
  | _,_,a=>a
noncomputable def FC.good:List FC→List Int→Bool
  | f::u,k::c=>(f.isE||decide (0≤k))&&FC.good u c
  | _,_=>true
noncomputable def PL.bad (x:PL):Bool:=decide (x.c<0)&&x.a.all (fun k=>decide (k≤0))&&x.b.all (fun k=>decide (k=0))
theorem UD:∀(l:List Int) (r:List Nat),l.all (fun k=>decide (k≤0))=true→dN l r≤0
  | [],_,_=>WF _
  | a::l,[],_=>WF _
  | a::l,x::r,h=>by
    simp only[List.all_cons,Bool.and_eq_true,decide_eq_true_eq] at h;have h1:=UD l r h.2;have h2:=gM (Int.neg_nonneg_of_nonpos h.1) (xM x);simp only[Int.neg_mul] at h2;show a*(x:Int)+dN l r≤0;omega
theorem UC:∀(l:List Int) (r:List Int),l.all (fun k=>decide (k=0))=true→dZ l r=0
  | [],_,_=>rfl
  | a::l,[],_=>rfl
  | a::l,x::r,h=>by
    simp only[List.all_cons,Bool.and_eq_true,decide_eq_true_eq] at h;show a*x+dZ l r=0;simp only[UC l r h.2,h.1,Int.zero_mul];rfl
theorem PL.bad_ok {r:List Nat}{q:List Int}{x:PL}(h:x.bad=true)(g:0≤x.ev r q):False:=by
  simp only[PL.bad,Bool.and_eq_true,decide_eq_true_eq] at h;have h1:=UD x.a r h.1.2;have h2:=UC x.b q h.2;unfold PL.ev at g;have:=h.1.1;omega
theorem FC.im_ok {r:List Nat}{q:List Int}{G:Prop}:∀(u:List FC) (c:List Int) (a:PL),FC.good u c=true→(FC.sum u c a).bad=true→(¬G→0≤a.ev r q)→FC.im r q u G
  | [],c,a,_,h2,h3=>show G from Classical.byContradiction fun n=>PL.bad_ok h2 (h3 n)
  | f::u,[],a,h1,h2,h3=>fun Z=>FC.im_ok u [] a (by cases u<;>rfl) (by cases u<;>exact h2) h3
  | f::u,k::c,a,h1,h2,h3=>fun hf=>by
    dsimp only[FC.good] at h1;simp only[Bool.and_eq_true,Bool.or_eq_true,decide_eq_true_eq] at h1;refine FC.im_ok u c (a.add (PL.mul k f.po)) h1.2 h2 fun n=>?_;simp only[PL.ev_add,PL.ev_mul];have h0:=FC.po_ok hf;have h4:=h3 n;rcases h1.1 with e | e
    · rw[h0.2 e];omega
    · have:=gM e h0.1;omega
noncomputable def FC.chk (l:List FC)(c:List Int)(g:FC)(k:Int):Bool:=!g.isE&&(decide (0≤k)&&(FC.good l c&&(FC.sum l c (PL.mul k g.ne)).bad))
theorem nl {r:List Nat}{q:List Int}(u:List FC)(c:List Int)(g:FC)(k:Int)(h:FC.chk u c g k=true):FC.im r q u (g.ev r q):=by
  simp only[FC.chk,Bool.and_eq_true,Bool.not_eq_true',decide_eq_true_eq] at h;refine FC.im_ok u c _ h.2.2.1 h.2.2.2 fun n=>?_;simp only[PL.ev_mul];exact gM h.2.1 (FC.ne_ok h.1 n)
noncomputable def FC.chF (l:List FC)(c:List Int):Bool:=FC.good l c&&(FC.sum l c ⟨0,[],[]⟩).bad
theorem nF (r:List Nat)(q:List Int)(u:List FC)(c:List Int)(h:FC.chF u c=true):FC.im r q u False:=by
  simp only[FC.chF,Bool.and_eq_true] at h;exact FC.im_ok u c _ h.1 h.2 fun Z=>WF _
noncomputable def FC.chq (u:List FC)(c d:List Int)(g:FC)(k m:Int):Bool:=g.isE&&(decide (0≤k)&&(decide (0≤m)&&((FC.good u c&&(FC.sum u c (PL.mul k ((PL.mul (-1) g.po).add ⟨-1,[],[]⟩))).bad)&&(FC.good u d&&(FC.sum u d (PL.mul m (g.po.add ⟨-1,[],[]⟩))).bad))))
theorem FC.of_nought {r:List Nat}{q:List Int}{g:FC}(he:g.isE=true)(h:g.po.ev r q=0):g.ev r q:=by
  cases g with
  | e a b=>dsimp only[FC.po] at h;rw[PL.ev_add,PL.ev_mul,← NT.ok,← NT.ok] at h;show a.ev r=b.ev r;omega
  | E a b=>dsimp only[FC.po] at h;rw[PL.ev_add,PL.ev_mul,← IT.ok,← IT.ok] at h;show a.ev r q=b.ev r q;omega
  | l | t | L | T=>cases he
theorem FC.im_and {r:List Nat}{q:List Int}{A B C:Prop}(f:A→B→C):∀(u:List FC),FC.im r q u A→FC.im r q u B→FC.im r q u C
  | [],a,b=>f a b
  | _::u,a,b=>fun h=>FC.im_and f u (a h) (b h)
theorem nq {r:List Nat}{q:List Int}(u:List FC)(c d:List Int)(g:FC)(k m:Int)(h:FC.chq u c d g k m=true):FC.im r q u (g.ev r q):=by
  simp only[FC.chq,Bool.and_eq_true,decide_eq_true_eq] at h;refine FC.im_and (A:=0≤g.po.ev r q) (B:=g.po.ev r q≤0) (fun x y=>FC.of_nought h.1 (Int.le_antisymm y x)) u (FC.im_ok u c _ h.2.2.2.1.1 h.2.2.2.1.2 fun n=>?_) (FC.im_ok u d _ h.2.2.2.2.1 h.2.2.2.2.2 fun n=>?_)
  · simp only[PL.ev_mul,PL.ev_add,PL.ev_mul];refine gM h.2.1 ?_;show(0:Int)≤_+(-1+0+0);omega
  · simp only[PL.ev_mul,PL.ev_add];refine gM h.2.2.1 ?_;show(0:Int)≤_+(-1+0+0);omega
theorem cI (r:List Nat)(q:List Int)(c:List Int)(g:FC)(k:Int)(h:FC.chk [] c g k=true) :g.ev r q:=nl [] c g k h
theorem QA (r:List Nat)(q:List Int)(c d:List Int)(g:FC)(k m:Int)(h:FC.chq [] c d g k m=true) :g.ev r q:=nq [] c d g k m h
theorem zT (r:List Nat)(q:List Int)(f0:FC)(c:List Int)(g:FC)(k:Int)(h:FC.chk [f0] c g k=true)(h0:f0.ev r q):g.ev r q:=nl [f0] c g k h h0
theorem rY (r:List Nat)(q:List Int)(f0:FC)(c d:List Int)(g:FC)(k m:Int)(h:FC.chq [f0] c d g k m=true)(h0:f0.ev r q):g.ev r q:=nq [f0] c d g k m h h0
theorem kN (r:List Nat)(q:List Int)(f0 f1:FC)(c:List Int)(g:FC)(k:Int)(h:FC.chk [f0,f1] c g k=true)(h0:f0.ev r q)(h1:f1.ev r q):g.ev r q:=nl [f0,f1] c g k h h0 h1
theorem nH (r:List Nat)(q:List Int)(f0 f1:FC)(c d:List Int)(g:FC)(k m:Int)(h:FC.chq [f0,f1] c d g k m=true)(h0:f0.ev r q)(h1:f1.ev r q):g.ev r q:=nq [f0,f1] c d g k m h h0 h1
theorem nF2 (r:List Nat)(q:List Int)(f0 f1:FC)(c:List Int)(h:FC.chF [f0,f1] c=true)(h0:f0.ev r q)(h1:f1.ev r q):False:=nF r q [f0,f1] c h h0 h1
theorem bW (r:List Nat)(q:List Int)(f0 f1 f2:FC)(c:List Int)(g:FC)(k:Int)(h:FC.chk [f0,f1,f2] c g k=true)(h0:f0.ev r q)(h1:f1.ev r q)(h2:f2.ev r q):g.ev r q:=nl [f0,f1,f2] c g k h h0 h1 h2
theorem GA (r:List Nat)(q:List Int)(f0 f1 f2:FC)(c d:List Int)(g:FC)(k m:Int)(h:FC.chq [f0,f1,f2] c d g k m=true)(h0:f0.ev r q)(h1:f1.ev r q)(h2:f2.ev r q):g.ev r q:=nq [f0,f1,f2] c d g k m h h0 h1 h2
theorem HA (r:List Nat)(q:List Int)(f0 f1 f2:FC)(c:List Int)(h:FC.chF [f0,f1,f2] c=true)(h0:f0.ev r q)(h1:f1.ev r q)(h2:f2.ev r q):False:=nF r q [f0,f1,f2] c h h0 h1 h2
theorem ZP (r:List Nat)(q:List Int)(f0 f1 f2 f3:FC)(c:List Int)(g:FC)(k:Int)(h:FC.chk [f0,f1,f2,f3] c g k=true)(h0:f0.ev r q)(h1:f1.ev r q)(h2:f2.ev r q)(h3:f3.ev r q):g.ev r q:=nl [f0,f1,f2,f3] c g k h h0 h1 h2 h3
theorem ZO (r:List Nat)(q:List Int)(f0 f1 f2 f3:FC)(c d:List Int)(g:FC)(k m:Int)(h:FC.chq [f0,f1,f2,f3] c d g k m=true)(h0:f0.ev r q)(h1:f1.ev r q)(h2:f2.ev r q)(h3:f3.ev r q):g.ev r q:=nq [f0,f1,f2,f3] c d g k m h h0 h1 h2 h3
theorem F9 (r:List Nat)(q:List Int)(f0 f1 f2 f3 f4:FC)(c:List Int)(g:FC)(k:Int)(h:FC.chk [f0,f1,f2,f3,f4] c g k=true)(h0:f0.ev r q)(h1:f1.ev r q)(h2:f2.ev r q)(h3:f3.ev r q)(h4:f4.ev r q):g.ev r q:=nl [f0,f1,f2,f3,f4] c g k h h0 h1 h2 h3 h4
theorem V9 (r:List Nat)(q:List Int)(f0 f1 f2 f3 f4:FC)(c d:List Int)(g:FC)(k m:Int)(h:FC.chq [f0,f1,f2,f3,f4] c d g k m=true)(h0:f0.ev r q)(h1:f1.ev r q)(h2:f2.ev r q)(h3:f3.ev r q)(h4:f4.ev r q):g.ev r q:=nq [f0,f1,f2,f3,f4] c d g k m h h0 h1 h2 h3 h4
theorem nl6 (r:List Nat)(q:List Int)(f0 f1 f2 f3 f4 f5:FC)(c:List Int)(g:FC)(k:Int)(h:FC.chk [f0,f1,f2,f3,f4,f5] c g k=true)(h0:f0.ev r q)(h1:f1.ev r q)(h2:f2.ev r q)(h3:f3.ev r q)(h4:f4.ev r q)(h5:f5.ev r q):g.ev r q:=nl [f0,f1,f2,f3,f4,f5] c g k h h0 h1 h2 h3 h4 h5
theorem nq6 (r:List Nat)(q:List Int)(f0 f1 f2 f3 f4 f5:FC)(c d:List Int)(g:FC)(k m:Int)(h:FC.chq [f0,f1,f2,f3,f4,f5] c d g k m=true)(h0:f0.ev r q)(h1:f1.ev r q)(h2:f2.ev r q)(h3:f3.ev r q)(h4:f4.ev r q)(h5:f5.ev r q):g.ev r q:=nq [f0,f1,f2,f3,f4,f5] c d g k m h h0 h1 h2 h3 h4 h5
theorem nq9 (r:List Nat)(q:List Int)(f0 f1 f2 f3 f4 f5 f6 f7 f8:FC)(c d:List Int)(g:FC)(k m:Int)(h:FC.chq [f0,f1,f2,f3,f4,f5,f6,f7,f8] c d g k m=true)(h0:f0.ev r q)(h1:f1.ev r q)(h2:f2.ev r q)(h3:f3.ev r q)(h4:f4.ev r q)(h5:f5.ev r q)(h6:f6.ev r q)(h7:f7.ev r q)(h8:f8.ev r q):g.ev r q:=nq [f0,f1,f2,f3,f4,f5,f6,f7,f8] c d g k m h h0 h1 h2 h3 h4 h5 h6 h7 h8
theorem B9 {P:Nat→Prop}(a:P 0)(b:P 1)(p:Nat)(h:p<2):P p:=by
  cases p with
  | zero=>exact a
  | succ n=>cases n with
    | zero=>exact b
    | succ n=>exact absurd (gK (gK h)) (uN _)
theorem jR (a b:Nat):a≤a-b+b:=by omega
theorem lX {a k:Nat}{m:Int}(h:a≤k)(g:(k:Int)<m):(a:Int)<m:=by exact(kN [_,_] [_] (.l (.v 0) (.v 1)) (.T (.c (.v 1)) (.z 0)) [1,1] (.T (.c (.v 0)) (.z 0)) 1 rfl h g)
theorem FN {a k:Nat}{m:Int}(h:a≤k)(g:(k:Int)≤m):(a:Int)≤m:=by exact(kN [_,_] [_] (.l (.v 0) (.v 1)) (.L (.c (.v 1)) (.z 0)) [1,1] (.L (.c (.v 0)) (.z 0)) 1 rfl h g)
theorem eO {a k:Nat}{m:Int}(h:a<k)(g:(k:Int)≤m):(a:Int)<m:=by exact(kN [_,_] [_] (.t (.v 0) (.v 1)) (.L (.c (.v 1)) (.z 0)) [1,1] (.T (.c (.v 0)) (.z 0)) 1 rfl h g)
theorem B8 {a:Nat}{m:Int}(g:m≤0):m≤(a:Int):=by exact(zT [_] [_] (.L (.z 0) (.n 0)) [1] (.L (.z 0) (.c (.v 0))) 1 rfl g)
theorem FL {a:Nat}:¬(a:Int)<0:=by exact(Int.not_lt.mpr (cI [_] [] [] (.L (.n 0) (.c (.v 0))) 1 rfl))
theorem WH {a:Nat}(h:0<a):0<(a:Int):=by exact(zT [_] [] (.t (.n 0) (.v 0)) [1] (.T (.n 0) (.c (.v 0))) 1 rfl h)
theorem UK {a:Nat}(h:0<a):(a:Int)≠0:=by exact(o7 (zT [_] [] (.t (.n 0) (.v 0)) [1] (.T (.n 0) (.c (.v 0))) 1 rfl h))
theorem UJ {a b:Nat}(h:a≠b):(a:Int)≠(b:Int):=by omega
theorem GH {a b:Nat}(h:a=b):(a:Int)=(b:Int):=congrArg _ h
theorem UL {a b:Nat}(h:a≤b):(a:Int)≤(b:Int):=Int.ofNat_le.mpr h
theorem FM {a b:Nat}(h:a<b):(a:Int)<(b:Int):=Int.ofNat_lt.mpr h
theorem dB {a b c:Nat}(h:a+b=c):(c:Int)-b=a:=by exact(rY [_,_,_] [] (.e (.p (.v 2) (.v 1)) (.v 0)) [-1] [1] (.E (.s (.c (.v 0)) (.c (.v 1))) (.c (.v 2))) 1 1 rfl h)
theorem P1 {a b c:Nat}(h:b+a=c):(c:Int)-b=a:=by exact(rY [_,_,_] [] (.e (.p (.v 1) (.v 2)) (.v 0)) [-1] [1] (.E (.s (.c (.v 0)) (.c (.v 1))) (.c (.v 2))) 1 1 rfl h)
theorem FK {a:Int}(h:0≤a):(a.toNat:Int)=a:=by exact(nH [a.toNat] [a] (.L (.z 0) (.c (.v 0))) (.E (.c (.v 0)) (.z 0)) [0,1] [1,0] (.E (.c (.v 0)) (.z 0)) 1 1 rfl (zI _) (zO h))
theorem GB {a:Int}{b:Nat}(h:0≤a)(g:a<b):a.toNat<b:=by exact(kN [a.toNat,b] [a] (.T (.z 0) (.c (.v 1))) (.E (.c (.v 0)) (.z 0)) [1,1] (.t (.v 0) (.v 1)) 1 rfl g (zO h))
theorem GC {a:Int}{b:Nat}(h:0≤a)(g:a.toNat<b):a<b:=by exact(kN [b,a.toNat] [a] (.t (.v 1) (.v 0)) (.L (.z 0) (.c (.v 1))) [1,1] (.T (.z 0) (.c (.v 0))) 1 rfl g (zI _))
theorem FR {a b c:Nat}(h:a≤c):min a b≤c:=by exact(kN [_,_,_] [] (.l (.v 2) (.v 1)) (.l (.v 0) (.v 2)) [1,1] (.l (.v 0) (.v 1)) 1 rfl h (kJ _ _))
theorem iM {a b c:Nat}(h:b≤c):min a b≤c:=by exact(kN [_,_,_] [] (.l (.v 2) (.v 1)) (.l (.v 0) (.v 2)) [1,1] (.l (.v 0) (.v 1)) 1 rfl h (Nat.min_le_right _ _))
theorem FP {a:Nat}(h:a=0 ∨ a=1):a≤1:=by omega
theorem rX {a b:Nat}(h:b<a):a-(b+1)<a-b:=by exact(kN [_,_,_,_] [] (.e (.p (.v 0) (.p (.v 2) (.n 1))) (.v 3)) (.l (.v 3) (.p (.v 1) (.v 2))) [1,1] (.t (.v 0) (.v 1)) 1 rfl (qQ (zT [_,_] [] (.t (.v 0) (.v 1)) [1] (.l (.p (.v 0) (.n 1)) (.v 1)) 1 rfl h)) (jR _ _))
theorem FQ {a b:Nat}:a+b-a=b:=by exact(nH [_,_,_] [] (.l (.p (.v 2) (.v 1)) (.p (.v 0) (.v 2))) (.e (.p (.v 0) (.v 2)) (.p (.v 2) (.v 1))) [0,1] [1,0] (.e (.v 0) (.v 1)) 1 1 rfl (jR _ _) (qQ (cI [_,_] [] [] (.l (.v 0) (.p (.v 0) (.v 1))) 1 rfl)))
theorem WZ {P:Prop}(a b:Nat)(h:a<b)(g:b≤a):P:=absurd h (xB g)
theorem nor {a:Nat}(h:0<a):a=0 ∨ a-1<a:=by exact(.inr (zT [_,_] [] (.e (.p (.v 0) (.n 1)) (.v 1)) [1] (.t (.v 0) (.v 1)) 1 rfl (qQ (zT [_] [] (.t (.n 0) (.v 0)) [1] (.l (.n 1) (.v 0)) 1 rfl h))))
theorem Q5 {a b c:Nat}(h:a+b≤c):a≤c:=by exact(zT [_,_,_] [] (.l (.p (.v 0) (.v 2)) (.v 1)) [1] (.l (.v 0) (.v 1)) 1 rfl h)
theorem J2 {a b c:Nat}(h:a+b≤c):b≤c:=by exact(zT [_,_,_] [] (.l (.p (.v 2) (.v 0)) (.v 1)) [1] (.l (.v 0) (.v 1)) 1 rfl h)
theorem zS {p:Prop}(h:¬p→False):p:=Classical.byContradiction h
theorem Q7 {α:Type}{P:List α→Prop}(h:∀a,P [a]):∀vs:List α,vs.length=1→P vs
  | [a],_=>h a
theorem gQ {α:Type}{P:List α→Prop}(h:∀a b,P [a,b]):∀vs:List α,vs.length=2→P vs
  | [a,b],_=>h a b
theorem YC {α:Type}{P:List α→Prop}(h:∀a b c,P [a,b,c]):∀vs:List α,vs.length=3→P vs
  | [a,b,c],_=>h a b c
theorem len5 {α:Type}{P:List α→Prop}(h:∀a b c d e,P [a,b,c,d,e]):∀vs:List α,vs.length=5→P vs
  | [a,b,c,d,e],_=>h a b c d e
theorem len6 {α:Type}{P:List α→Prop}(h:∀a b c d e f,P [a,b,c,d,e,f]):∀vs:List α,vs.length=6→P vs
  | [a,b,c,d,e,f],_=>h a b c d e f
noncomputable abbrev yW:=List (Addr×Obj)
structure Fz where
  obs:yW
  tks:List (Nat×Dat)
structure Fz.le (F F':Fz):Prop where
  obs:∀p∈F.obs,p∈F'.obs
  tks:∀p∈F.tks,p∈F'.tks
theorem Fz.le.rfl {F:Fz}:F.le F:=⟨fun Z h=>h,fun Z h=>h⟩
theorem Fz.le.trans {F F' F'':Fz}(x:F.le F')(y:F'.le F''):F.le F'':=⟨fun p h=>y.obs p (x.obs p h),fun p h=>y.tks p (x.tks p h)⟩
mutual
inductive xQ (F:Fz):Value→Dat→Prop
  | none:xQ F Value.none Dat.none
  | bool (b:Bool):xQ F (Value.bool b) (Dat.bool b)
  | int {i:Int} {t:Nat}:(t,Dat.int i)∈F.tks→xQ F (Value.int i t) (Dat.int i)
  | str {x:Str} {t:Nat}:(t,Dat.str x)∈F.tks→xQ F (Value.str x t) (Dat.str x)
  | bytes {b:Array UInt8} {t:Nat}:xQ F (Value.bytes b t) (Dat.bytes b)
  | tuple {a:Nat} {vs:List Value} {n:Nat} {ds:List Dat}:(a,({cls:=.type "tuple",data:=.seq vs.toArray n}:Obj))∈F.obs→xV F vs ds→xQ F (Value.ref a) (Dat.tuple ds)
  | list {a:Nat} {vs:List Value} {n:Nat} {ds:List Dat}:(a,listOf vs.toArray n)∈F.obs→xV F vs ds→xQ F (Value.ref a) (Dat.list ds)
inductive xV (F:Fz):List Value→List Dat→Prop
  | nil:xV F [] []
  | cons {v:Value} {vs:List Value} {d:Dat} {ds:List Dat}:xQ F v d→xV F vs ds→xV F (v::vs) (d::ds)
end
mutual
theorem xQ.mono {F F':Fz}(hs:F.le F'):∀{v:Value} {d:Dat},xQ F v d→xQ F' v d
  | _,_,.none=>.none
  | _,_,.bool b=>.bool b
  | _,_,.int h=>.int (hs.tks _ h)
  | _,_,.str h=>.str (hs.tks _ h)
  | _,_,.bytes=>.bytes
  | _,_,.tuple h r=>.tuple (hs.obs _ h) (xV.mono hs r)
  | _,_,.list h r=>.list (hs.obs _ h) (xV.mono hs r)
theorem xV.mono {F F':Fz}(hs:F.le F'):∀{vs:List Value} {ds:List Dat},xV F vs ds→xV F' vs ds
  | _,_,.nil=>.nil
  | _,_,.cons h r=>.cons (xQ.mono hs h) (xV.mono hs r)
end
mutual
theorem xQ.dat {F:Fz}:∀{v:Value} {d:Dat},xQ F v d→DatIn F.obs v d
  | _,_,.none=>.none
  | _,_,.bool b=>.bool b
  | _,_,.int h=>.int _ _
  | _,_,.str h=>.str _ _
  | _,_,.bytes=>.bytes _ _
  | _,_,.tuple h r=>.tuple h (xV.dat r)
  | _,_,.list h r=>.list h (xV.dat r)
theorem xV.dat {F:Fz}:∀{vs:List Value} {ds:List Dat},xV F vs ds→DatAll F.obs vs ds
  | _,_,.nil=>.nil
  | _,_,.cons h r=>.cons (xQ.dat h) (xV.dat r)
end
section
variable {F:Fz}{v:Value}{d:Dat}{vs ws:List Value}{ds es:List Dat}
theorem xV.length (h:xV F vs ds):vs.length=ds.length:=by
  induction vs generalizing ds with
  | nil=>cases h;rfl
  | cons v vs ih=>cases h with | cons _ r=>rw[List.length_cons,List.length_cons,ih r]
theorem xV.append (h:xV F vs ds)(k:xV F ws es):xV F (vs++ws) (ds++es):=by
  induction vs generalizing ds with
  | nil=>cases h;exact k
  | cons v vs ih=>cases h with | cons h r=>exact .cons h (ih r)
theorem xV.one (h:xQ F v d):xV F [v] [d]:=.cons h .nil
theorem xV.get (h:xV F vs ds){k:Nat}{d:Dat}(hk:ds[k]?=some d):∃v,vs[k]?=some v∧xQ F v d:=by
  induction vs generalizing ds k with
  | nil=>cases h;simp at hk
  | cons v vs ih =>
    cases h with
    | cons h r =>
      cases k with
      | zero=>simp at hk;subst hk;exact⟨v,rfl,h⟩
      | succ k=>simp at hk;simpa using ih r hk
theorem xV.get_none (h:xV F vs ds){k:Nat}(hk:ds[k]?=none):vs[k]?=none:=by
  rw[List.getElem?_eq_none_iff] at hk ⊢; rw[h.length];exact hk
theorem xV.take (h:xV F vs ds)(k:Nat):xV F (vs.take k) (ds.take k):=by
  induction vs generalizing ds k with
  | nil=>cases h;simp;exact .nil
  | cons v vs ih =>
    cases h with
    | cons h r=>cases k with
      | zero=>exact .nil
      | succ k=>exact .cons h (ih r k)
theorem xV.drop (h:xV F vs ds)(k:Nat):xV F (vs.drop k) (ds.drop k):=by
  induction vs generalizing ds k with
  | nil=>cases h;simp;exact .nil
  | cons v vs ih =>
    cases h with
    | cons h r=>cases k with
      | zero=>exact .cons h r
      | succ k=>exact ih r k
theorem xV.reverse (h:xV F vs ds):xV F vs.reverse ds.reverse:=by
  induction vs generalizing ds with
  | nil=>cases h;exact .nil
  | cons v vs ih =>
    cases h with
    | cons h r=>simp only[List.reverse_cons,List.reverse_cons];exact(ih r).append (.one h)
end
section
variable {F:Fz}{v:Value}{vs:List Value}{P:Value→Prop}{R:List Value→Prop}
@[elab_as_elim] theorem xQ.eInt {i:Int}(h:xQ F v (.int i))(k:∀t,(t,Dat.int i)∈F.tks→P (.int i t)):P v:=by cases h with | int h=>exact k _ h
@[elab_as_elim] theorem xQ.eStr {x:Str}(h:xQ F v (.str x))(k:∀t,(t,Dat.str x)∈F.tks→P (.str x t)):P v:=by cases h with | str h=>exact k _ h
@[elab_as_elim] theorem xQ.eBool {b:Bool}(h:xQ F v (.bool b))(k:P (.bool b)):P v:=by cases h;exact k
@[elab_as_elim] theorem xQ.eBytes {b:Array UInt8}(h:xQ F v (.bytes b))(k:∀t,P (.bytes b t)):P v:=by cases h;exact k _
@[elab_as_elim] theorem xQ.eList {ds:List Dat}(h:xQ F v (.list ds))(k:∀a vs n,(a,listOf vs.toArray n)∈F.obs→xV F vs ds→P (.ref a)):P v:=by cases h with | list h r=>exact k _ _ _ h r
@[elab_as_elim] theorem xQ.eTuple {ds:List Dat}(h:xQ F v (.tuple ds))(k:∀a vs n,(a,({cls:=.type "tuple",data:=.seq vs.toArray n}:Obj))∈F.obs→xV F vs ds→P (.ref a)):P v:=by cases h with | tuple h r=>exact k _ _ _ h r
@[elab_as_elim] theorem xV.eNil (h:xV F vs [])(k:R []):R vs:=by cases h;exact k
@[elab_as_elim] theorem xV.eCons {d:Dat}{ds:List Dat}(h:xV F vs (d::ds))(k:∀v us,xQ F v d→xV F us ds→R (v::us)):R vs:=by cases h with | cons h r=>exact k _ _ h r
@[elab_as_elim] theorem xV.e1 {d:Dat}(h:xV F vs [d])(k:∀v,xQ F v d→R [v]):R vs:=h.eCons fun Z Z h r=>r.eNil (R:=fun us=>R (_::us)) (k _ h)
@[elab_as_elim] theorem xV.e2 {d d':Dat}(h:xV F vs [d,d'])(k:∀v v',xQ F v d→xQ F v' d'→R [v,v']):R vs:=h.eCons fun Z Z h r=>r.e1 (R:=fun us=>R (_::us)) fun Z h'=>k _ _ h h'
end
structure Wd where
  base:Heap
  mg:Str→Option Value
  mb:Str→Option Value
  tabs:List (Addr×Addr)
  qual:Addr→Str
  g:base.Ns mainGlobals mg
  b:base.Ns builtinsNs mb
  nolimit:base.NoLimit
  nodigits:∃mc,base.Ns cStatics mc∧mc "sys.int_max_str_digits"=none
  booked:NoneBooked base
  builtins:∀x:Str,x≠"__name__"→mb x=bootBuiltins x
  bmain:∃bm ob,mg "__builtins__"=some (.ref bm)∧bm≠builtinsNs∧base.get? bm=some ob∧ob.cls=.type "module"∧ob.dict=some builtinsNs∧ob.data=.plain
  hidden:∀q∈tabs,base.get? q.2=none
  heads:∀q∈tabs,CodeHd base q.1 q.2
  low:∀q∈tabs,q.2<base.objs.size
noncomputable def Wd.tab (W:Wd)(a:Nat):Prop:=∃q∈W.tabs,q.2=a
noncomputable def gH (W:Wd)(F:Fz)(h:Heap):Prop :=
  ∀q∈W.tabs,∃ps,h.get? q.2=some (tabObj ps)∧TriplesOk ps.toList ∧
    ∀pos cv,codeAmong pos ps.toList=some cv→∃c o vs t,cv=.ref c∧(c,o)∈F.obs∧o.data=.fields vs∧vs[1]?=some (.str (W.qual q.2) t)
structure bB (tks:List (Nat×Dat))(n:Nat):Prop where
  pos:0<n
  rng:∀p∈tks,0<p.1∧p.1<n
  one:∀p∈tks,∀q∈tks,p.1=q.1→p.2=q.2
structure wC (W:Wd)(s:Shared)(F:Fz):Prop where
  base:W.base.StaysIn s.heap
  has:∀p∈F.obs,s.heap.get? p.1=some p.2
  tok:bB F.tks s.toks
  tabs:gH W F s.heap
  off:∀p∈F.obs,¬W.tab p.1
  size:W.base.objs.size≤s.heap.objs.size
noncomputable def zQ (a b:Array GenState):Prop:=(∀(i:Nat) (x:GenState),a[i]?=some x→b[i]?=some x)∧(AllBare a→AllBare b)
theorem zQ.rfl {a:Array GenState}:zQ a a:=⟨fun Z Z h=>h,id⟩
theorem zQ.trans {a b c:Array GenState}(x:zQ a b)(y:zQ b c):zQ a c:=⟨fun i v h=>y.1 i v (x.1 i v h),fun h=>y.2 (x.2 h)⟩
structure q0 (W:Wd)(s s':Shared)(F F':Fz):Prop where
  keep:∀a o,¬W.tab a→s.heap.get? a=some o→s'.heap.get? a=some o
  has:∀p∈F'.obs,s'.heap.get? p.1=some p.2
  sub:F.le F'
  new:∀p∈F'.obs,p∈F.obs ∨ s.heap.objs.size≤p.1
  tok:bB F'.tks s'.toks
  toks:s.toks≤s'.toks
  size:s.heap.objs.size≤s'.heap.objs.size
  os:s'.os=s.os
  gens:zQ s.gens s'.gens
  tabs:gH W F' s'.heap
variable {W:Wd}
theorem Wd.tab_lt {a:Nat}(h:W.tab a):a<W.base.objs.size:=by
  obtain⟨q,hq,rfl⟩:=h;exact W.low q hq
theorem Wd.not_tab {a:Nat}{o:Obj}(h:W.base.get? a=some o):¬W.tab a:=by
  rintro⟨q,hq,rfl⟩;rw[W.hidden q hq] at h;cases h
theorem y9 {a:Nat}(h:W.base.objs.size≤a):¬W.tab a:=fun t=>zK _ (qK (Wd.tab_lt t) h)
theorem gH.mono {h:Heap}{F F':Fz}(x:gH W F h)(hF:F.le F'):gH W F' h:=fun q hq=>by
  obtain⟨ps,h1,h2,h3⟩:=x q hq;exact⟨ps,h1,h2,fun pos cv e=>let⟨c,o,vs,t,e1,e2,r⟩:=h3 pos cv e;⟨c,o,vs,t,e1,hF.obs _ e2,r⟩⟩
theorem gH.keeps {h h':Heap}{F:Fz}(x:gH W F h)(hk:∀a o,W.tab a→h.get? a=some o→h'.get? a=some o):gH W F h':=fun q hq=>by
  obtain⟨ps,h1,h2,h3⟩:=x q hq;exact⟨ps,hk _ _ ⟨q,hq,rfl⟩ h1,h2,h3⟩
theorem wC.not_tab_of_size {s:Shared}{F:Fz}(b:wC W s F){a:Nat}(h:s.heap.objs.size≤a):¬W.tab a:=y9 (qB b.size h)
theorem wC.grow {s s':Shared}{F F':Fz}(b:wC W s F)(g:q0 W s s' F F'):wC W s' F' where
  base:=fun a o e=>g.keep a o (Wd.not_tab e) (b.base a o e)
  has:=g.has
  tok:=g.tok
  tabs:=g.tabs
  off:=fun p hp=>by
    rcases g.new p hp with h | h
    · exact b.off p h
    · exact b.not_tab_of_size h
  size:=qB b.size g.size
theorem q0.trans {s₁ s₂ s₃:Shared}{F₁ F₂ F₃:Fz}(x:q0 W s₁ s₂ F₁ F₂)(y:q0 W s₂ s₃ F₂ F₃):q0 W s₁ s₃ F₁ F₃ where
  keep:=fun a o ht e=>y.keep a o ht (x.keep a o ht e)
  has:=y.has
  sub:=x.sub.trans y.sub
  new:=fun p hp=>by
    rcases y.new p hp with h | h
    · exact x.new p h
    · exact .inr (qB x.size h)
  tok:=y.tok
  toks:=qB x.toks y.toks
  size:=qB x.size y.size
  os:=y.os.trans x.os
  gens:=x.gens.trans y.gens
  tabs:=y.tabs
theorem bB.le {tks:List (Nat×Dat)}{n m:Nat}(x:bB tks n)(h:n≤m):bB tks m :=
  ⟨qK x.pos h,fun p hp=>⟨(x.rng p hp).1,qK (x.rng p hp).2 h⟩,x.one⟩
theorem bB.cons {tks:List (Nat×Dat)}{n m:Nat}{t:Nat}{d:Dat}(x:bB tks n)(h:n≤t)(h':t<m):bB ((t,d)::tks) m where
  pos:=by exact(qV (J2 h) h')
  rng:=fun p hp=>by
    rcases qG hp with rfl | hp
    · exact⟨qK x.pos h,h'⟩
    · have:=x.rng p hp;exact⟨this.1,by exact(qK this.2 (qU (qV h h')))⟩
  one:=fun p hp q hq e=>by
    rcases qG hp with rfl | hp<;>rcases qG hq with rfl | hq
    · rfl
    · have:=x.rng q hq;simp only at e;exact(WZ _ _ this.2 (qB h (qL e)))
    · have:=x.rng p hp;simp only at e;exact(WZ _ _ this.2 (qB h (qL e.symm)))
    · exact x.one p hp q hq e
theorem q0.refl {s:Shared}{F:Fz}(b:wC W s F):q0 W s s F F where
  keep:=fun Z Z Z e=>e
  has:=b.has
  sub:=.rfl
  new:=fun Z h=>.inl h
  tok:=b.tok
  toks:=qH _
  size:=qH _
  os:=rfl
  gens:=.rfl
  tabs:=b.tabs
theorem q0.more {s:Shared}{F:Fz}(b:wC W s F){t:Nat}(ht:s.toks≤t):q0 W s {s with toks:=t} F F where
  keep:=fun Z Z Z e=>e
  has:=b.has
  sub:=.rfl
  new:=fun Z h=>.inl h
  tok:=b.tok.le ht
  toks:=ht
  size:=qH _
  os:=rfl
  gens:=.rfl
  tabs:=b.tabs
noncomputable def Fz.tk (F:Fz)(t:Nat)(d:Dat):Fz:=⟨F.obs,(t,d)::F.tks⟩
noncomputable def Fz.ob (F:Fz)(a:Nat)(o:Obj):Fz:=⟨(a,o)::F.obs,F.tks⟩
theorem Fz.le_tk (F:Fz) (t d):F.le (F.tk t d):=⟨fun Z h=>h,fun Z h=>List.mem_cons_of_mem _ h⟩
theorem Fz.le_ob (F:Fz) (a o):F.le (F.ob a o):=⟨fun Z h=>List.mem_cons_of_mem _ h,fun Z h=>h⟩
theorem q0.tk {s:Shared}{F:Fz}(b:wC W s F)(d:Dat):q0 W s {s with toks:=s.toks+1} F (F.tk s.toks d) where
  keep:=fun Z Z Z e=>e
  has:=b.has
  sub:=F.le_tk _ _
  new:=fun Z h=>.inl h
  tok:=b.tok.cons (qH _) (wE _)
  toks:=xI _
  size:=qH _
  os:=rfl
  gens:=.rfl
  tabs:=b.tabs.mono (F.le_tk _ _)
theorem xQ.tk_int {F:Fz}{t:Nat}{i:Int}:xQ (F.tk t (.int i)) (.int i t) (.int i):=.int (.head _)
theorem xQ.tk_str {F:Fz}{t:Nat}{x:Str}:xQ (F.tk t (.str x)) (.str x t) (.str x):=.str (.head _)
theorem x4 {h:Heap}{a:Nat}(ha:h.objs.size≤a):h.get? a=none:=by
  cases e:h.get? a with
  | none=>rfl
  | some o=>exact absurd (qJ e) (xB ha)
theorem q0.of_keeps {s s':Shared}{F:Fz}(N:yW)(b:wC W s F)(hk:∀a o,s.heap.get? a=some o→s'.heap.get? a=some o)
    (hN:∀p∈N,s'.heap.get? p.1=some p.2∧s.heap.objs.size≤p.1)(hz:s.heap.objs.size≤s'.heap.objs.size)(ht:s.toks≤s'.toks)
    (ho:s'.os=s.os)(hg:zQ s.gens s'.gens):q0 W s s' F ⟨N++F.obs,F.tks⟩ where
  keep:=fun a o Z e=>hk a o e
  has:=fun p hp=>by
    rcases qP hp with h | h
    · exact(hN p h).1
    · exact hk _ _ (b.has p h)
  sub:=⟨fun p hp=>xH _ hp,fun Z h=>h⟩
  new:=fun p hp=>by
    rcases qP hp with h | h
    · exact .inr (hN p h).2
    · exact .inl h
  tok:=b.tok.le ht
  toks:=ht
  size:=hz
  os:=ho
  gens:=hg
  tabs:=(b.tabs.keeps fun a o Z e=>hk a o e).mono ⟨fun p hp=>xH _ hp,fun Z h=>h⟩
theorem q0.push {s:Shared}{F:Fz}(b:wC W s F)(o:Obj){t:Nat}(ht:s.toks≤t)(hf:o.isFreed=false) :
    q0 W s {s with heap:=s.heap.push o,toks:=t} F (F.ob s.heap.objs.size o) :=
  q0.of_keeps [(s.heap.objs.size,o)] b (fun Z Z e=>Heap.get?_push_of_some _ e)
    (fun p hp=>by cases qF hp;exact⟨Heap.get?_push_size _ hf,qH _⟩) (by simp) ht rfl .rfl
theorem q0.pushed {s:Shared}{F:Fz}(b:wC W s F)(o:Obj){t:Nat}(ht:s.toks≤t) :
    q0 W s {s with heap:=s.heap.push o,toks:=t} F F :=
  q0.of_keeps [] b (fun Z Z e=>Heap.get?_push_of_some _ e) (fun p hp=>nomatch hp) (by simp) ht rfl .rfl
theorem q0.freeze {s s':Shared}{F F':Fz}(g:q0 W s s' F F'){a:Nat}{o:Obj}(ha:s.heap.objs.size≤a)(ho:s'.heap.get? a=some o):q0 W s s' F (F'.ob a o) where
  keep:=g.keep
  has:=fun p hp=>by
    rcases qG hp with rfl | hp
    · exact ho
    · exact g.has p hp
  sub:=g.sub.trans (F'.le_ob _ _)
  new:=fun p hp=>by
    rcases qG hp with rfl | hp
    · exact .inr ha
    · exact g.new p hp
  tok:=g.tok
  toks:=g.toks
  size:=g.size
  os:=g.os
  gens:=g.gens
  tabs:=g.tabs.mono (F'.le_ob _ _)
noncomputable def zZ (k:Nat)(A:Around):Prop:=A.handled=none∧A.depth+10*k≤900∧A.units+100*k≤9000
theorem zZ.mono {k j:Nat}{A:Around}(h:zZ k A)(hj:j≤k):zZ j A:=⟨h.1,by have:=h.2.1;exact(qB (qZ (wI _ hj) _) this),by have:=h.2.2;exact(qB (qZ (wI _ hj) _) this)⟩
theorem zZ.in1 {k:Nat}{A:Around}(h:zZ (k+1) A):zZ k A.in1:=⟨h.1,by have:=h.2.1;show A.depth+_≤_;exact(zT [_,_] [] (.l (.p (.v 0) (.m 10 (.p (.v 1) (.n 1)))) (.n 900)) [1] (.l (.p (.v 0) (.m 10 (.v 1))) (.n 900)) 1 rfl this),by have:=h.2.2;show A.units+1+_≤_;exact(zT [_,_] [] (.l (.p (.v 0) (.m 100 (.p (.v 1) (.n 1)))) (.n 9000)) [1] (.l (.p (.p (.v 0) (.n 1)) (.m 100 (.v 1))) (.n 9000)) 1 rfl this)⟩
theorem zZ.deeper {k:Nat}{A:Around}(h:zZ (k+1) A)(env:Env):zZ k (A.deeper env):=⟨h.1,by have:=h.2.1;show A.depth+1+_≤_;exact(zT [_,_] [] (.l (.p (.v 0) (.m 10 (.p (.v 1) (.n 1)))) (.n 900)) [1] (.l (.p (.p (.v 0) (.n 1)) (.m 10 (.v 1))) (.n 900)) 1 rfl this),by have:=h.2.2;show A.units+3+_≤_;exact(zT [_,_] [] (.l (.p (.v 0) (.m 100 (.p (.v 1) (.n 1)))) (.n 9000)) [1] (.l (.p (.p (.v 0) (.n 3)) (.m 100 (.v 1))) (.n 9000)) 1 rfl this)⟩
theorem zZ.depth {k:Nat}{A:Around}(h:zZ k A):A.depth<recursionLimit:=by have:=h.2.1;unfold recursionLimit;exact(qV (Q5 this) (by exact qA rfl))
theorem zZ.units {k:Nat}{A:Around}(h:zZ k A):A.units+64<cLine:=by have:=h.2.2;unfold cLine;exact(qV (sT (Q5 this) _) (by exact qA rfl))
theorem zZ.handled {k:Nat}{A:Around}(h:zZ k A):A.handled=none:=h.1
theorem zZ.mark {k:Nat}{A:Around}(h:zZ k A):zZ k (A.mark none):=⟨by simpa[Around.mark] using h.1,h.2.1,h.2.2⟩
section
variable (prog:Program)(w:World)(W:Wd)
noncomputable def yA (k:Nat)(t:Sem Value)(s:Shared)(F:Fz)(P:Fz→Value→Prop):Prop :=
  ∀(A:Around) (Q:Value→Shared→Prop) (E:Value→Shared→Prop),zZ k A →
    (∀v s' F',q0 W s s' F F'→P F' v→Q v s')→wpAny (model prog w) A t Q E s
end
inductive jS (F:Fz){K:Type}:List (K×Value)→List (K×Dat)→Prop
  | nil:jS F [] []
  | cons {k:K} {v:Value} {d:Dat} {kvs:List (K×Value)} {kds:List (K×Dat)}:xQ F v d→jS F kvs kds→jS F ((k,v)::kvs) ((k,d)::kds)
theorem jS.mono {F F':Fz}{K:Type}(hs:F.le F'){es:List (K×Value)}{kvs:List (K×Dat)}(h:jS F es kvs):jS F' es kvs:=by
  induction h with
  | nil=>exact .nil
  | cons h1 _ ih=>exact .cons (h1.mono hs) ih
inductive V where
  | dat (d:Dat)
  | dic (kvs:List (Str×Dat))
  | ref (a:Nat)
  | num (i:Int)
  | con (v:Value)
  | fn (f:Nat) (G:Fz)
noncomputable def V.is (prog:Program)(w:World)(F:Fz)(v:Value):V→Prop
  | .dat d=>xQ F v d
  | .dic kvs=>∃a o kvv,v=.ref a∧(a,o)∈F.obs∧(a==sysModules)=false∧o.IsDictOf (strKind prog w) kvv∧jS F kvv kvs
  | .ref a=>v=.ref a
  | .num i=>∃t,v=.int i t
  | .con u=>v=u
  | .fn f G=>v=.ref f∧G.le F
noncomputable def Is (prog:Program)(w:World)(x:V):Fz→Value→Prop:=fun F v=>x.is prog w F v
@[elab_as_elim] theorem V.is.eCon {prog:Program}{w:World}{F:Fz}{v u:Value}{P:Value→Prop}(h:V.is prog w F v (.con u))(k:P u):P v:=by cases h;exact k
theorem V.is.mono {prog:Program}{w:World}{F F':Fz}{v:Value}{x:V}(hs:F.le F')(h:x.is prog w F v):x.is prog w F' v:=by
  cases x with
  | dat d=>exact xQ.mono hs h
  | dic kvs=>obtain⟨a,o,kvv,h1,h2,h3,h4,h5⟩:=h;exact⟨a,o,kvv,h1,hs.obs _ h2,h3,h4,h5.mono hs⟩
  | ref a=>exact h
  | num i=>exact h
  | con u=>exact h
  | fn f G=>exact⟨h.1,h.2.trans hs⟩
section
variable {prog:Program}{w:World}
theorem yA.mono_room {k j:Nat}{t:Sem Value}{s:Shared}{F:Fz} {P}(h:yA prog w W k t s F P)(hj:k≤j):yA prog w W j t s F P :=
  fun A Q E r q=>h A Q E (r.mono hj) q
theorem yA.mono {k:Nat}{t:Sem Value}{s:Shared}{F:Fz} {P P'}(h:yA prog w W k t s F P)(hp:∀F v,P F v→P' F v):yA prog w W k t s F P' :=
  fun A Q E r q=>h A Q E r fun v s' F' g p=>q v s' F' g (hp _ _ p)
theorem yA.bind {k:Nat}{t:Sem Value}{f:Value→Sem Value}{s:Shared}{F:Fz} {P P'}(h:yA prog w W k t s F P)
    (h':∀v s' F',q0 W s s' F F'→P F' v→yA prog w W k (f v) s' F' P'):yA prog w W k (t >>= f) s F P':=fun A Q E r q=>
  qC (h A _ E r fun v s' F' g p=>h' v s' F' g p A Q E r fun v' s'' F'' g' p'=>q v' s'' F'' (g.trans g') p')
theorem yA.pure {k:Nat}{v:Value}{s:Shared}{F:Fz} {P}(b:wC W s F)(h:P F v):yA prog w W k (pure v) s F P :=
  fun A Q E r q=>qI (q v s F (q0.refl b) h)
end
theorem mN {α:Type}{M:Model}{A:Around}{x y:Sem α}{Q:α→Shared→Prop}{E:Value→Shared→Prop}{s:Shared}{c:Prop}{_:Decidable c}(h:¬c)(k:wpAny M A y Q E s):wpAny M A (ite c x y) Q E s:=by rw[if_neg h];exact k
end Mine
namespace Mine
inductive Bd where
  | val (x:V)
  | lst (ds:List Dat)
  | byt (b:Array UInt8)
  | dic (kvs:List (Int×Dat))
noncomputable def Bd.own:Bd→Bool
  | .val _=>false
  | _=>true
structure p4 where
  sb:Shared
  Fb:Fz
  env:Env
noncomputable abbrev xK:=List (Str×Bd)
structure y6 (fr:p4)(P:yW)(F:Fz)(a:Nat):Prop where
  new:fr.sb.heap.objs.size≤a
  loc:a≠fr.env.locals
  cel:∀n c,fr.env.cells.lookup n=some c→c≠a
  prv:∀p∈P,p.1≠a
  frz:∀p∈F.obs,p.1≠a
noncomputable abbrev kW (b:Array UInt8)(n:Nat):Obj:={cls:=.type "bytearray",data:=.bytearray b n}
noncomputable def z7 (h:Heap)(env:Env)(x:Str)(v:Value):Prop :=
  (env.kindOf x=some .local∧∃m,h.Ns env.locals m∧m x=some v) ∨
  ((env.kindOf x=some .cell ∨ env.kindOf x=some .free)∧∃c,env.cells.lookup x=some c∧h.IsCell c (some v))
section
variable (prog:Program)(w:World)(W:Wd)
noncomputable def Bd.ok (fr:p4)(P:yW)(F:Fz)(h:Heap)(v:Value):Bd→Prop
  | .val x=>x.is prog w F v
  | .lst ds=>∃a vs n,v=.ref a∧h.get? a=some (listOf vs.toArray n)∧xV F vs ds∧y6 fr P F a
  | .byt b=>∃a n,v=.ref a∧h.get? a=some (kW b n)∧y6 fr P F a
  | .dic kvs=>∃a kvv,v=.ref a∧h.DictOf (intKind prog w) a kvv∧jS F kvv kvs∧y6 fr P F a
structure St (fr:p4)(fn:Bool)(Γ:xK)(P:yW)(s:Shared)(F:Fz):Prop where
  base:wC W s F
  grow:q0 W fr.sb s fr.Fb F
  bsize:W.base.objs.size≤fr.sb.heap.objs.size
  glob:fr.env.globals=mainGlobals
  blt:fr.env.builtins=builtinsNs
  kind:fr.env.scope.kind=.function
  ns:∃m,s.heap.Ns fr.env.locals m
  nsNew:fr.sb.heap.objs.size≤fr.env.locals
  nsF:∀p∈F.obs,p.1≠fr.env.locals
  nsP:∀p∈P,p.1≠fr.env.locals
  prv:∀p∈P,s.heap.get? p.1=some p.2∧¬W.tab p.1∧∀q∈F.obs,q.1≠p.1
  cell:∀n c,fr.env.cells.lookup n=some c→(∃v,s.heap.IsCell c v)∧c≠fr.env.locals∧(fn=true→∀p∈F.obs,p.1≠c)∧(∀p∈P,p.1≠c)∧¬W.tab c∧(fn=true→fr.sb.heap.objs.size≤c)
  inj:∀n n' c,fr.env.cells.lookup n=some c→fr.env.cells.lookup n'=some c→n=n'
  cells:∀x,fr.env.kindOf x=some .cell→∃c,fr.env.cells.lookup x=some c
  vars:∀x b,Γ.lookup x=some b→∃v,z7 s.heap fr.env x v∧b.ok prog w fr P F s.heap v
  apart:∀x y bx by' a,x≠y→Γ.lookup x=some bx→Γ.lookup y=some by'→bx.own=true→by'.own=true→z7 s.heap fr.env x (.ref a)→z7 s.heap fr.env y (.ref a)→False
end
variable {prog:Program}{w:World}{W:Wd}{fr:p4}{fn:Bool}{Γ Γ':xK}{P:yW}{s s':Shared}{F F':Fz}{A:Around}
theorem tO {h:Heap}{a:Nat}{m m':Str→Option Value}(x:h.Ns a m)(y:h.Ns a m'):m=m':=by
  obtain⟨o,es,ep,h1,h2,_,h4⟩:=x;obtain⟨o',es',ep',g1,g2,_,g4⟩:=y;rw[h1] at g1;cases g1;rw[h2] at g2;cases g2;funext n;rw[← h4 n,g4 n]
theorem oY {h:Heap}{c:Nat}{v v':Option Value}(x:h.IsCell c v)(y:h.IsCell c v'):v=v':=by
  obtain⟨o,h1,h2⟩:=x;obtain⟨o',g1,g2⟩:=y;rw[h1] at g1;cases g1;rw[h2] at g2;cases g2;rfl
theorem z7.unique {h:Heap}{env:Env}{x:Str}{v v':Value}(a:z7 h env x v)(b:z7 h env x v'):v=v':=by
  rcases a with⟨ka,m,ha,hv⟩ | ⟨ka,c,ha,hv⟩<;>rcases b with⟨kb,m',hb,hv'⟩ | ⟨kb,c',hb,hv'⟩
  · rw[tO ha hb,hv'] at hv;cases hv;rfl
  · rw[ka] at kb;rcases kb with kb | kb<;>cases kb
  · rw[kb] at ka;rcases ka with ka | ka<;>cases ka
  · rw[ha] at hb;cases hb;cases oY hv hv';rfl
theorem z7.keeps {h h':Heap}{env:Env}{x:Str}{v:Value}(a:z7 h env x v)(hL:∀m,h.Ns env.locals m→h'.Ns env.locals m)
    (hc:∀c v,env.cells.lookup x=some c→h.IsCell c v→h'.IsCell c v):z7 h' env x v:=by
  rcases a with⟨ka,m,ha,hv⟩ | ⟨ka,c,ha,hv⟩
  · exact .inl ⟨ka,m,hL m ha,hv⟩
  · exact .inr ⟨ka,c,ha,hc c _ ha hv⟩
theorem Ns.off {h h':Heap}{a:Nat} {m}(x:h.Ns a m)(ha:¬W.tab a)(hk:∀a o,¬W.tab a→h.get? a=some o→h'.get? a=some o):h'.Ns a m :=
  let⟨o,es,ep,ho,r⟩:=x;⟨o,es,ep,hk _ _ ha ho,r⟩
theorem IsCell.off {h h':Heap}{a:Nat} {v}(x:h.IsCell a v)(ha:¬W.tab a)(hk:∀a o,¬W.tab a→h.get? a=some o→h'.get? a=some o):h'.IsCell a v :=
  let⟨o,ho,r⟩:=x;⟨o,hk _ _ ha ho,r⟩
theorem DictOf.off {h h':Heap}{K:Type} [DecidableEq K] {knd:KeyKind prog w K} {a:Nat} {v} (x:h.DictOf knd a v) (ha:¬W.tab a) (hk:∀a o,¬W.tab a→h.get? a=some o→h'.get? a=some o):h'.DictOf knd a v :=
  let⟨o,es,ep,ho,r⟩:=x;⟨o,es,ep,hk _ _ ha ho,r⟩
theorem St.tabL (x:St prog w W fr fn Γ P s F):¬W.tab fr.env.locals:=y9 (qB x.bsize x.nsNew)
theorem y6.tab (p:y6 fr P F a)(hb:W.base.objs.size≤fr.sb.heap.objs.size):¬W.tab a:=y9 (qB hb p.new)
theorem DictOf.lt {h:Heap}{K:Type} [DecidableEq K] {knd:KeyKind prog w K} {a:Nat} {v} (x:h.DictOf knd a v):a<h.objs.size:=let⟨_,_,_,ho,_⟩:=x;qJ ho
theorem St.step (x:St prog w W fr fn Γ P s F)(g:q0 W s s' F F'):St prog w W fr fn Γ P s' F':=by
  have newF:∀a,a<s.heap.objs.size→(∀p∈F.obs,p.1≠a)→∀p∈F'.obs,p.1≠a:=fun a ha h p hp e=>by
    rcases g.new p hp with q | q
    · exact h p q e
    · simp only[e] at q;exact absurd ha (xB q)
  have hL:∀m,s.heap.Ns fr.env.locals m→s'.heap.Ns fr.env.locals m:=fun m h=>Ns.off (W:=W) h x.tabL g.keep;have hv:∀y v,z7 s.heap fr.env y v→z7 s'.heap fr.env y v:=fun y v h=>h.keeps hL fun c v hc hv=>IsCell.off (W:=W) hv (x.cell _ _ hc).2.2.2.2.1 g.keep;refine⟨x.base.grow g,x.grow.trans g,x.bsize,x.glob,x.blt,x.kind,let⟨m,h⟩:=x.ns;⟨m,hL m h⟩,x.nsNew,?_,x.nsP,?_,?_,x.inj,x.cells,?_,?_⟩
  · obtain⟨m,h⟩:=x.ns;exact newF _ h.lt x.nsF
  · intro p hp;obtain⟨h1,h2,h3⟩:=x.prv p hp;exact⟨g.keep _ _ h2 h1,h2,newF _ (qJ h1) h3⟩
  · intro n c hc;refine zS fun nG=>?_;obtain⟨⟨v,h1⟩,h2,h3,h4,h5,h6⟩:=x.cell n c hc;refine nG ?_;exact⟨⟨v,IsCell.off (W:=W) h1 h5 g.keep⟩,h2,fun hf=>newF _ h1.lt (h3 hf),h4,h5,h6⟩
  · intro y b hy;obtain⟨v,h1,h2⟩:=x.vars y b hy;refine⟨v,hv _ _ h1,?_⟩;cases b with
    | val x=>exact V.is.mono g.sub h2
    | lst ds =>
      obtain⟨a,vs,n,e,h3,h4,h5⟩:=h2;exact⟨a,vs,n,e,g.keep _ _ (h5.tab x.bsize) h3,h4.mono g.sub,h5.new,h5.loc,h5.cel,h5.prv,newF _ (qJ h3) h5.frz⟩
    | byt bs =>
      obtain⟨a,n,e,h3,h5⟩:=h2;exact⟨a,n,e,g.keep _ _ (h5.tab x.bsize) h3,h5.new,h5.loc,h5.cel,h5.prv,newF _ (qJ h3) h5.frz⟩
    | dic kvs =>
      obtain⟨a,kvv,e,h3,h4,h5⟩:=h2;exact⟨a,kvv,e,DictOf.off (W:=W) h3 (h5.tab x.bsize) g.keep,h4.mono g.sub,h5.new,h5.loc,h5.cel,h5.prv,newF _ (DictOf.lt h3) h5.frz⟩
  · intro y z by' bz a hne h1 h2 o1 o2 v1 v2
    obtain⟨u1,w1,_⟩:=x.vars y by' h1
    obtain⟨u2,w2,_⟩:=x.vars z bz h2;cases(hv _ _ w1).unique v1;cases(hv _ _ w2).unique v2;exact x.apart y z by' bz a hne h1 h2 o1 o2 w1 w2
theorem St.weaken (x:St prog w W fr fn Γ P s F)(h:∀y b,Γ'.lookup y=some b→Γ.lookup y=some b):St prog w W fr fn Γ' P s F :=
  ⟨x.base,x.grow,x.bsize,x.glob,x.blt,x.kind,x.ns,x.nsNew,x.nsF,x.nsP,x.prv,x.cell,x.inj,x.cells,fun y b e=>x.vars y b (h y b e),
    fun y z by' bz a hne h1 h2=>x.apart y z by' bz a hne (h y _ h1) (h z _ h2)⟩
theorem St.load_any (x:St prog w W fr fn Γ P s F){y:Str}{v:Value}{pos:Pos}{Q:Value→Shared→Prop}{E:Value→Shared→Prop}(hv:z7 s.heap fr.env y v)(h:Q v s)
    (hd:autoParam ((y==("__debug__":Str))=false) au2)(hn:autoParam ((y==("__classdict__":Str))=false) au2) :
    wpAny (model prog w) A (eval (.Name y pos) fr.env) Q E s:=by
  rcases hv with⟨k,m,hm,hv⟩ | ⟨k | k,c,hc,hv⟩
  · exact l7 (pQ x.kind k hm hv h) hd
  · exact l7 (wpAny_loadName_cell x.kind k hc hv h) hd
  · exact l7 (wpAny_loadName_free x.kind k hc hv h hn) hd
end Mine
namespace Mine
variable {prog:Program}{w:World}{W:Wd}{fr:p4}{fn:Bool}{Γ Γ':xK}{P:yW}{s s':Shared}{F F':Fz}{A:Around}
theorem K7 {a t:Nat}{h':Heap}(x:St prog w W fr fn Γ P s F)(hs:Heap.SameBut a s.heap h')(ha:fr.sb.heap.objs.size≤a)(hF:∀p∈F.obs,p.1≠a)(ht:s.toks≤t) :
    wC W {s with heap:=h',toks:=t} F∧q0 W fr.sb {s with heap:=h',toks:=t} fr.Fb F:=by
  have tabs:gH W F h':=x.base.tabs.keeps fun b o hb e=>(hs.2 b ((fun b hb e=>absurd (qK (Wd.tab_lt hb) (qB x.bsize ha)) (by rw[e];exact zK _):∀b,W.tab b→b≠a) b hb)).trans e;have has:∀p∈F.obs,h'.get? p.1=some p.2:=fun p hp=>(hs.2 _ (hF p hp)).trans (x.base.has p hp);refine⟨⟨fun b o e=>?_,has,x.base.tok.le ht,tabs,x.base.off,?_⟩,⟨fun b o hb e=>?_,has,x.grow.sub,x.grow.new,x.base.tok.le ht,qB x.grow.toks ht,?_,x.grow.os,x.grow.gens,tabs⟩⟩
  · have hlt:=qJ e;refine(hs.2 b fun q=>?_).trans (x.base.base b o e);rw[q] at hlt;exact absurd (qK hlt (qB x.bsize ha)) (zK _)
  · show _≤h'.objs.size;simp only[hs.1];exact x.base.size
  · have hlt:=qJ e;refine(hs.2 b fun q=>?_).trans (x.grow.keep b o hb e);rw[q] at hlt;exact absurd (qK hlt ha) (zK _)
  · show _≤h'.objs.size;simp only[hs.1];exact x.grow.size
theorem Bd.ok_same {a:Nat}{h h':Heap}{v:Value}{b:Bd}(hb:b.ok prog w fr P F h v)(hs:Heap.SameBut a h h')(ha:∀c,y6 fr P F c→v=.ref c→c≠a):b.ok prog w fr P F h' v:=by
  cases b with
  | val x=>exact hb
  | lst ds=>obtain⟨c,vs,n,e,h3,h4,h5⟩:=hb;exact⟨c,vs,n,e,(hs.2 c (ha c h5 e)).trans h3,h4,h5⟩
  | byt bs=>obtain⟨c,n,e,h3,h5⟩:=hb;exact⟨c,n,e,(hs.2 c (ha c h5 e)).trans h3,h5⟩
  | dic kvs=>obtain⟨c,kvv,e,h3,h4,h5⟩:=hb;exact⟨c,kvv,e,h3.sameBut hs (ha c h5 e),h4,h5⟩
theorem x6 {b:Bd}{y:Str}:List.lookup y ((y,b)::Γ)=some b:=by rw[List.lookup_cons,beq_self_eq_true]
theorem qY {b:Bd}{y z:Str}(h:z≠y):List.lookup z ((y,b)::Γ)=Γ.lookup z:=by
  rw[List.lookup_cons,beq_eq_false_iff_ne.mpr h]
theorem St.store (x:St prog w W fr fn Γ P s F){y:Str}{v:Value}{b:Bd}(hb:b.ok prog w fr P F s.heap v)
    (hk:fr.env.kindOf y=some .local ∨ (fr.env.kindOf y=some .cell∧fn=true))
    (hap:∀z bz a,z≠y→Γ.lookup z=some bz→bz.own=true→b.own=true→z7 s.heap fr.env z (.ref a)→v≠.ref a)
    {Q:Unit→Shared→Prop}{E:Value→Shared→Prop}(h:∀s',St prog w W fr fn ((y,b)::Γ) P s' F→Q () s'):wpAny (model prog w) A (storeName fr.env y v) Q E s:=by
  rcases hk with hk | ⟨hk,hfn⟩
  · obtain⟨m,hm⟩:=x.ns;refine nY hk hm (fun h' hn hs=>h _ ?_) (by rw[x.kind];rfl);obtain⟨b1,g1⟩:=K7 x hs x.nsNew x.nsF (xI s.toks);have va:∀z u,z≠y→z7 s.heap fr.env z u→z7 h' fr.env z u:=fun z u hz q=>by
      rcases q with⟨k,m',hm',e⟩ | ⟨k,c,hc,e⟩
      · exact .inl ⟨k,_,hn,by rw[if_neg hz,← tO hm' hm];exact e⟩
      · exact .inr ⟨k,c,hc,e.sameBut hs (x.cell _ _ hc).2.1⟩
    have vy:z7 h' fr.env y v:=.inl ⟨hk,_,hn,by rw[if_pos rfl]⟩;refine⟨b1,g1,x.bsize,x.glob,x.blt,x.kind,⟨_,hn⟩,x.nsNew,x.nsF,x.nsP,fun p hp=>?_,fun n c hc=>?_,x.inj,x.cells,fun z bz hz=>?_,?_⟩
    · obtain⟨h1,h2⟩:=x.prv p hp;exact⟨(hs.2 _ (x.nsP p hp)).trans h1,h2⟩
    · obtain⟨⟨u,h1⟩,h2⟩:=x.cell n c hc;exact⟨⟨u,h1.sameBut hs h2.1⟩,h2⟩
    · by_cases e:z=y
      · subst e;rw[x6] at hz;cases hz;exact⟨v,vy,Bd.ok_same hb hs fun c hc Z=>hc.loc⟩
      · rw[qY e] at hz;obtain⟨u,h1,h2⟩:=x.vars z bz hz;exact⟨u,va z u e h1,Bd.ok_same h2 hs fun c hc Z=>hc.loc⟩
    · intro z z' bz bz' a hne h1 h2 o1 o2 v1 v2;by_cases e:z=y
      · have e':z'≠y:=fun q=>hne (e.trans q.symm);rw[e,x6] at h1;cases h1;rw[qY e'] at h2;rw[e] at v1;obtain⟨u,w2,_⟩:=x.vars z' bz' h2;cases(va z' u e' w2).unique v2;exact hap z' bz' a e' h2 o2 o1 w2 (vy.unique v1)
      · rw[qY e] at h1;obtain⟨u,w1,_⟩:=x.vars z bz h1;cases(va z u e w1).unique v1;by_cases e':z'=y
        · rw[e',x6] at h2;cases h2;rw[e'] at v2;exact hap z bz a e h1 o1 o2 w1 (vy.unique v2)
        · rw[qY e'] at h2;obtain⟨u,w2,_⟩:=x.vars z' bz' h2;cases(va z' u e' w2).unique v2;exact x.apart z z' bz bz' a hne h1 h2 o1 o2 w1 w2
  · obtain⟨c,hc⟩:=x.cells y hk;refine zS fun nG=>?_;obtain⟨⟨v₀,hv₀⟩,cL,cF,cP,cT,cN⟩:=x.cell y c hc;refine nG ?_;refine wpAny_storeName_cell x.kind hk hc hv₀ fun h' hn hs=>h _ ?_;obtain⟨b1,g1⟩:=K7 x hs (cN hfn) (cF hfn) (qH s.toks);have va:∀z u,z≠y→z7 s.heap fr.env z u→z7 h' fr.env z u:=fun z u hz q=>by
      rcases q with⟨k,m',hm',e⟩ | ⟨k,c',hc',e⟩
      · exact .inl ⟨k,m',hm'.sameBut hs (xW cL),e⟩
      · exact .inr ⟨k,c',hc',e.sameBut hs fun q=>hz (x.inj _ _ _ hc' (q▸hc))⟩
    have vy:z7 h' fr.env y v:=.inr ⟨.inl hk,c,hc,hn⟩;refine⟨b1,g1,x.bsize,x.glob,x.blt,x.kind,let⟨m,hm⟩:=x.ns;⟨m,hm.sameBut hs (xW cL)⟩,x.nsNew,x.nsF,x.nsP,fun p hp=>?_,fun n c' hc'=>?_,x.inj,x.cells,fun z bz hz=>?_,?_⟩
    · obtain⟨h1,h2⟩:=x.prv p hp;exact⟨(hs.2 _ (cP p hp)).trans h1,h2⟩
    · obtain⟨⟨u,h1⟩,h2⟩:=x.cell n c' hc';by_cases e:c'=c
      · subst e;exact⟨⟨_,hn⟩,h2⟩
      · exact⟨⟨u,h1.sameBut hs e⟩,h2⟩
    · by_cases e:z=y
      · subst e;rw[x6] at hz;cases hz;exact⟨v,vy,Bd.ok_same hb hs fun d hd Z=>xW (hd.cel _ _ hc)⟩
      · rw[qY e] at hz;obtain⟨u,h1,h2⟩:=x.vars z bz hz;exact⟨u,va z u e h1,Bd.ok_same h2 hs fun d hd Z=>xW (hd.cel _ _ hc)⟩
    · intro z z' bz bz' a hne h1 h2 o1 o2 v1 v2;by_cases e:z=y
      · have e':z'≠y:=fun q=>hne (e.trans q.symm);rw[e,x6] at h1;cases h1;rw[qY e'] at h2;rw[e] at v1;obtain⟨u,w2,_⟩:=x.vars z' bz' h2;cases(va z' u e' w2).unique v2;exact hap z' bz' a e' h2 o2 o1 w2 (vy.unique v1)
      · rw[qY e] at h1;obtain⟨u,w1,_⟩:=x.vars z bz h1;cases(va z u e w1).unique v1;by_cases e':z'=y
        · rw[e',x6] at h2;cases h2;rw[e'] at v2;exact hap z bz a e h1 o1 o2 w1 (vy.unique v2)
        · rw[qY e'] at h2;obtain⟨u,w2,_⟩:=x.vars z' bz' h2;cases(va z' u e' w2).unique v2;exact x.apart z z' bz bz' a hne h1 h2 o1 o2 w1 w2
theorem St.storeV (x:St prog w W fr fn Γ P s F){y:Str}{v:Value}{d:V}(hb:d.is prog w F v)
    (hk:fr.env.kindOf y=some .local ∨ (fr.env.kindOf y=some .cell∧fn=true))
    {Q:Unit→Shared→Prop}{E:Value→Shared→Prop}(h:∀s',St prog w W fr fn ((y,.val d)::Γ) P s' F→Q () s'):wpAny (model prog w) A (storeName fr.env y v) Q E s :=
  x.store (b:=.val d) hb hk (fun Z Z Z Z Z Z o=>by cases o) h
end Mine
namespace Mine
inductive w8 (prog:Program)(w:World)(F:Fz):List Value→List V→Prop
  | nil:w8 prog w F [] []
  | cons {v vs x xs}:V.is prog w F v x→w8 prog w F vs xs→w8 prog w F (v::vs) (x::xs)
section
variable {prog:Program}{w:World}{F:Fz}{vs:List Value}{P:List Value→Prop}
@[elab_as_elim] theorem w8.eNil (h:w8 prog w F vs [])(k:P []):P vs:=by cases h;exact k
@[elab_as_elim] theorem w8.eCons {x:V}{xs:List V}(h:w8 prog w F vs (x::xs))(k:∀v us,V.is prog w F v x→w8 prog w F us xs→P (v::us)):P vs:=by cases h with | cons h r=>exact k _ _ h r
@[elab_as_elim] theorem w8.e1 {x:V}(h:w8 prog w F vs [x])(k:∀v,V.is prog w F v x→P [v]):P vs:=h.eCons fun Z Z h r=>r.eNil (P:=fun us=>P (_::us)) (k _ h)
@[elab_as_elim] theorem w8.e2 {x y:V}(h:w8 prog w F vs [x,y])(k:∀u v,V.is prog w F u x→V.is prog w F v y→P [u,v]):P vs:=h.eCons fun Z Z h r=>r.e1 (P:=fun us=>P (_::us)) fun Z h'=>k _ _ h h'
@[elab_as_elim] theorem w8.e3 {x y z:V}(h:w8 prog w F vs [x,y,z])(k:∀u v t,V.is prog w F u x→V.is prog w F v y→V.is prog w F t z→P [u,v,t]):P vs:=h.eCons fun Z Z h r=>r.e2 (P:=fun us=>P (_::us)) fun Z Z h' h''=>k _ _ _ h h' h''
end
theorem w8.mono {prog w}{F F':Fz}(hs:F.le F') {vs xs}(h:w8 prog w F vs xs):w8 prog w F' vs xs:=by
  induction h with
  | nil=>exact .nil
  | cons h _ ih=>exact .cons (V.is.mono hs h) ih
section
variable (prog:Program)(w:World)(W:Wd)
noncomputable def Ev (k:Nat)(sc:Scope)(fn:Bool)(Γ:xK)(e:Expr)(x:V):Prop :=
  ∀fr P s F,fr.env.scope=sc→St prog w W fr fn Γ P s F→yA prog w W k (eval e fr.env) s F (Is prog w x)
noncomputable def eF (k:Nat)(t:Sem Bool)(s:Shared)(F:Fz)(b:Bool):Prop :=
  ∀(A:Around) (Q:Bool→Shared→Prop) (E:Value→Shared→Prop),zZ k A→(∀s' F',q0 W s s' F F'→Q b s')→wpAny (model prog w) A t Q E s
noncomputable def eM (k:Nat)(sc:Scope)(fn:Bool)(Γ:xK)(e:Expr)(b:Bool):Prop :=
  ∀fr P s F,fr.env.scope=sc→St prog w W fr fn Γ P s F→eF prog w W k (isTrue e fr.env (eval e fr.env)) s F b
noncomputable def sY (k:Nat)(sc:Scope)(fn:Bool)(Γ:xK)(es:List Expr)(xs:List V):Prop :=
  ∀fr P s F,fr.env.scope=sc→St prog w W fr fn Γ P s F→∀(pos:Pos) (A:Around) (Q:List Value→Shared→Prop) (E:Value→Shared→Prop),zZ k A →
    (∀vs s' F',q0 W s s' F F'→w8 prog w F' vs xs→Q vs s')→wpAny (model prog w) A (spliced (backTo pos (starEach es fr.env))) Q E s
noncomputable def Calls (k:Nat)(f:Value)(xs:List V)(r:V):Prop :=
  ∀s F vs,wC W s F→w8 prog w F vs xs→yA prog w W k (call f vs) s F (Is prog w r)
inductive dA where
  | next (Γ:xK)
  | ret (x:V)
noncomputable def dA.ok (fr:p4)(fn:Bool)(P:yW)(fl:Flow)(s:Shared)(F:Fz):dA→Prop
  | .next Γ=>fl=.next∧St prog w W fr fn Γ P s F
  | .ret x=>∃v,fl=.ret v∧x.is prog w F v∧St prog w W fr fn [] P s F
noncomputable def Ex (k:Nat)(sc:Scope)(fn:Bool)(Γ:xK)(ss:List Stmt)(o:dA):Prop :=
  ∀fr P s F,fr.env.scope=sc→St prog w W fr fn Γ P s F→∀(A:Around) (Q:Flow→Shared→Prop) (E:Value→Shared→Prop),zZ k A →
    (∀fl s' F',o.ok prog w W fr fn P fl s' F'→F.le F'→Q fl s')→wpAny (model prog w) A (execs ss fr.env) Q E s
noncomputable def nX (k:Nat)(sc:Scope)(fn:Bool)(Γ:xK)(st:Stmt)(o:dA):Prop :=
  ∀fr P s F,fr.env.scope=sc→St prog w W fr fn Γ P s F→∀(A:Around) (Q:Flow→Shared→Prop) (E:Value→Shared→Prop),zZ k A →
    (∀fl s' F',o.ok prog w W fr fn P fl s' F'→F.le F'→Q fl s')→wpAny (model prog w) A (exec st fr.env) Q E s
end
section
variable {prog:Program}{w:World}{W:Wd}{k:Nat}{sc:Scope}{fn:Bool}{Γ Γ':xK}
theorem qX {i:Int}{n:Nat}{pos:Pos}:Ev prog w W k sc fn Γ (.Constant (.int i) n pos) (.dat (.int i)):=fun fr P s F Z x A Q E r q=>
  wpAny_Constant_int (q _ _ _ (q0.tk x.base (.int i)) xQ.tk_int)
theorem tX {t:Str}{n:Nat}{pos:Pos}:Ev prog w W k sc fn Γ (.Constant (.str t) n pos) (.dat (.str t)):=fun fr P s F Z x A Q E r q=>
  Constant_str (q _ _ _ (q0.tk x.base (.str t)) xQ.tk_str)
theorem qD {y:Str}{pos:Pos}{x:V}(h:Γ.lookup y=some (.val x))(hd:autoParam ((y==("__debug__":Str))=false) au2)(hn:autoParam ((y==("__classdict__":Str))=false) au2) :
    Ev prog w W k sc fn Γ (.Name y pos) x:=fun fr P s F Z st A Q E r q=>by
  obtain⟨v,h1,h2⟩:=st.vars y _ h;exact st.load_any h1 (q _ _ _ (q0.refl st.base) h2) hd hn
theorem vU {y:Str}{pos:Pos}{a:Nat}(hk:sc.names.lookup y=some .globalImplicit)(hg:W.mg y=some (.ref a))(hd:autoParam ((y==("__debug__":Str))=false) au2) :
    Ev prog w W k sc fn Γ (.Name y pos) (.ref a):=fun fr P s F hsc st A Q E r q=>
  Name_function_global st.kind (by rw[← hsc] at hk;exact hk) (loadGlobal_global (by rw[st.glob];exact W.g.keeps st.base.base) hg (q _ _ _ (q0.refl st.base) rfl)) hd
theorem wN {fr:p4}{P:yW}{s:Shared}{F:Fz}{y:Str}{pos:Pos}{v:Value}{A:Around}{Q:Value→Shared→Prop}{E:Value→Shared→Prop}(st:St prog w W fr fn Γ P s F)
    (hk:fr.env.scope.names.lookup y=some .globalImplicit)(hg:W.mg y=none)(hb:bootBuiltins y=some v)(hn:y≠"__name__")(q:Q v s)
    (hd:autoParam ((y==("__debug__":Str))=false) au2):wpAny (model prog w) A (eval (.Name y pos) fr.env) Q E s :=
  Name_function_global st.kind hk (loadGlobal_builtin (by rw[st.glob];exact W.g.keeps st.base.base) hg (by rw[st.blt];exact W.b.keeps st.base.base) ((W.builtins y hn).trans hb) q) hd
section
variable (prog w W)
noncomputable def nB (k:Nat)(op:Operator)(x y z:V):Prop :=
  ∀s F u v,wC W s F→x.is prog w F u→y.is prog w F v→yA prog w W k (binaryOp op u v) s F (Is prog w z)
noncomputable def p5 (k:Nat)(op:CmpOp)(x y z:V):Prop :=
  ∀s F u v,wC W s F→x.is prog w F u→y.is prog w F v→yA prog w W k (compareOp op u v) s F (Is prog w z)
noncomputable def UnG (k:Nat)(op:UnaryOp)(x z:V):Prop :=
  ∀s F u,wC W s F→x.is prog w F u→yA prog w W k (unaryOp op u) s F (Is prog w z)
noncomputable def PW (k:Nat)(x:V)(b:Bool):Prop :=
  ∀s F u,wC W s F→x.is prog w F u→eF prog w W k (truthy u) s F b
end
theorem xF {l r:Expr}{op:Operator}{pos:Pos}{x y z:V}(hl:Ev prog w W k sc fn Γ l x)(hr:Ev prog w W k sc fn Γ r y)(ho:nB prog w W k op x y z) :
    Ev prog w W k sc fn Γ (.BinOp l op r pos) z:=fun fr P s F hsc st A Q E rm q=>
  wpAny_BinOp (hl fr P s F hsc st A _ E rm fun u s₁ F₁ g₁ hu=>
    hr fr P s₁ F₁ hsc (st.step g₁) A _ E rm fun v s₂ F₂ g₂ hv=>
      ho s₂ F₂ u v ((st.step g₁).step g₂).base (V.is.mono g₂.sub hu) hv A Q E rm fun z s₃ F₃ g₃ hz=>q z s₃ F₃ ((g₁.trans g₂).trans g₃) hz)
theorem fZ {l r:Expr}{op:CmpOp}{pos:Pos}{x y z:V}(hl:Ev prog w W k sc fn Γ l x)(hr:Ev prog w W k sc fn Γ r y)(ho:p5 prog w W k op x y z)
    (hm:autoParam (behindInMarks op r=false) au9):Ev prog w W k sc fn Γ (.Compare l [op] [r] pos) z:=fun fr P s F hsc st A Q E rm q=>
  wpAny_Compare1 (hl fr P s F hsc st A _ E rm fun u s₁ F₁ g₁ hu=>
    hr fr P s₁ F₁ hsc (st.step g₁) A _ E rm fun v s₂ F₂ g₂ hv=>
      ho s₂ F₂ u v ((st.step g₁).step g₂).base (V.is.mono g₂.sub hu) hv A Q E rm fun z s₃ F₃ g₃ hz=>q z s₃ F₃ ((g₁.trans g₂).trans g₃) hz) hm
theorem fE {e:Expr}{op:UnaryOp}{pos:Pos}{x z:V}(hl:Ev prog w W k sc fn Γ e x)(ho:UnG prog w W k op x z) :
    Ev prog w W k sc fn Γ (.UnaryOp op e pos) z:=fun fr P s F hsc st A Q E rm q=>
  wpAny_UnaryOp (hl fr P s F hsc st A _ E rm fun u s₁ F₁ g₁ hu=>
    ho s₁ F₁ u (st.step g₁).base hu A Q E rm fun z s₃ F₃ g₃ hz=>q z s₃ F₃ (g₁.trans g₃) hz)
theorem Y5 {t b e:Expr}{pos:Pos}{c:Bool}{x:V}(ht:eM prog w W k sc fn Γ t c)(hb:c=true→Ev prog w W k sc fn Γ b x)(he:c=false→Ev prog w W k sc fn Γ e x) :
    Ev prog w W k sc fn Γ (.IfExp t b e pos) x:=fun fr P s F hsc st A Q E rm q=>
  wpAny_IfExp (ht fr P s F hsc st A _ E rm fun s₁ F₁ g₁=>by
    cases c with
    | true=>exact hb rfl fr P s₁ F₁ hsc (st.step g₁) A Q E rm fun z s₃ F₃ g₃ hz=>q z s₃ F₃ (g₁.trans g₃) hz
    | false=>exact he rfl fr P s₁ F₁ hsc (st.step g₁) A Q E rm fun z s₃ F₃ g₃ hz=>q z s₃ F₃ (g₁.trans g₃) hz)
theorem zR {l r:Expr}{op:CmpOp}{pos:Pos}{x y z:V}{b:Bool}(hl:Ev prog w W k sc fn Γ l x)(hr:Ev prog w W k sc fn Γ r y)(ho:p5 prog w W k op x y z)(ht:PW prog w W k z b)
    (hm:autoParam (behindInMarks op r=false) au9):eM prog w W k sc fn Γ (.Compare l [op] [r] pos) b:=fun fr P s F hsc st A Q E rm q=>
  wK (hl fr P s F hsc st A _ E rm fun u s₁ F₁ g₁ hu=>
    hr fr P s₁ F₁ hsc (st.step g₁) A _ E rm fun v s₂ F₂ g₂ hv=>
      ho s₂ F₂ u v ((st.step g₁).step g₂).base (V.is.mono g₂.sub hu) hv A _ E rm fun z s₃ F₃ g₃ hz=>
        ht s₃ F₃ z (((st.step g₁).step g₂).base.grow g₃) hz A Q E rm fun s₄ F₄ g₄=>q s₄ F₄ (((g₁.trans g₂).trans g₃).trans g₄)) hm
theorem mF {e:Expr}{x:V}{b:Bool}(he:Ev prog w W k sc fn Γ e x)(ht:PW prog w W k x b)
    (hs:autoParam (∀env,isTrue e env (eval e env)=(do let v←eval e env;standAt e.pos;holding [v] (truthy v))) au1):eM prog w W k sc fn Γ e b:=fun fr P s F hsc st A Q E rm q=>
  u0 (he fr P s F hsc st A _ E rm fun u s₁ F₁ g₁ hu=>ht s₁ F₁ u (st.step g₁).base hu A Q E rm fun s₂ F₂ g₂=>q s₂ F₂ (g₁.trans g₂)) (hs _)
theorem PK {e:Expr}{pos:Pos}{b:Bool}(he:eM prog w W k sc fn Γ e b):eM prog w W k sc fn Γ (.UnaryOp .Not e pos) (!b):=fun fr P s F hsc st A Q E rm q=>
  wpAny_isTrue_Not (he fr P s F hsc st A _ E rm fun s₁ F₁ g₁=>q s₁ F₁ g₁)
section
variable (prog w W)
noncomputable def sZ (k:Nat)(sc:Scope)(fn:Bool)(Γ:xK)(op:BoolOp)(es:List Expr)(b:Bool):Prop :=
  ∀fr P s F,fr.env.scope=sc→St prog w W fr fn Γ P s F→eF prog w W k (allTrue op es fr.env) s F b
end
theorem yH {op:BoolOp}{es:List Expr}{pos:Pos}{b:Bool}(h:sZ prog w W k sc fn Γ op es b):eM prog w W k sc fn Γ (.BoolOp op es pos) b:=fun fr P s F hsc st A Q E rm q=>
  s8 (h fr P s F hsc st A Q E rm q)
theorem oH:sZ prog w W k sc fn Γ .And [] true:=fun fr P s F hsc st A Q E rm q=>wpAny_allTrue_And_nil (q _ _ (q0.refl st.base))
theorem fY:sZ prog w W k sc fn Γ .Or [] false:=fun fr P s F hsc st A Q E rm q=>mQ (q _ _ (q0.refl st.base))
theorem j6 {e:Expr}{es:List Expr}{a b:Bool}(he:eM prog w W k sc fn Γ e a)(hr:a=true→sZ prog w W k sc fn Γ .And es b):sZ prog w W k sc fn Γ .And (e::es) (a&&b):=fun fr P s F hsc st A Q E rm q=>
  wpAny_allTrue_And_cons (he fr P s F hsc st A _ E rm fun s₁ F₁ g₁=>by
    cases a with
    | true=>exact hr rfl fr P s₁ F₁ hsc (st.step g₁) A Q E rm fun s₂ F₂ g₂=>q s₂ F₂ (g₁.trans g₂)
    | false=>exact q s₁ F₁ g₁)
theorem j0 {e:Expr}{es:List Expr}{a b:Bool}(he:eM prog w W k sc fn Γ e a)(hr:a=false→sZ prog w W k sc fn Γ .Or es b):sZ prog w W k sc fn Γ .Or (e::es) (a||b):=fun fr P s F hsc st A Q E rm q=>
  gV (he fr P s F hsc st A _ E rm fun s₁ F₁ g₁=>by
    cases a with
    | false=>exact hr rfl fr P s₁ F₁ hsc (st.step g₁) A Q E rm fun s₂ F₂ g₂=>q s₂ F₂ (g₁.trans g₂)
    | true=>exact q s₁ F₁ g₁)
theorem qN:sY prog w W k sc fn Γ [] []:=fun fr P s F hsc st pos A Q E rm q=>spliced_nil (q _ _ _ (q0.refl st.base) .nil)
theorem qE {e:Expr}{es:List Expr}{x:V}{xs:List V}(he:Ev prog w W k sc fn Γ e x)(hr:sY prog w W k sc fn Γ es xs)
    (hs:autoParam (∀env,starEach (e::es) env=(false,eval e env)::starEach es env) au1):sY prog w W k sc fn Γ (e::es) (x::xs):=fun fr P s F hsc st pos A Q E rm q=>by
  rw[hs];exact spliced_cons (he fr P s F hsc st A _ E rm fun u s₁ F₁ g₁ hu=>hr fr P s₁ F₁ hsc (st.step g₁) pos A _ E rm fun vs s₂ F₂ g₂ hv=>q _ s₂ F₂ (g₁.trans g₂) (.cons (V.is.mono g₂.sub hu) hv))
theorem w8.reps {F:Fz}:∀{vs:List Value} {ds:List Dat},w8 prog w F vs (ds.map V.dat)→xV F vs ds
  | _,[],h=>by cases h;exact .nil
  | _,_::_,h=>by cases h with | cons h r=>exact .cons h (w8.reps r)
theorem wS {es:List Expr}{pos:Pos}{ds:List Dat}(h:sY prog w W k sc fn Γ es (ds.map V.dat))(hz:autoParam (ds.length≤sizeLine) au6):Ev prog w W k sc fn Γ (.List es pos) (.dat (.list ds)):=fun fr P s F hsc st A Q E rm q=>
  List_ (h fr P s F hsc st pos A _ E rm fun vs s₁ F₁ g₁ hv=>
    zF (q _ _ _ (g₁.trans (q0.push (st.step g₁).base _ (qH _) rfl)) (.list (.head _) ((w8.reps hv).mono (Fz.le_ob _ _ _))))
      (by show vs.toArray.size≤sizeLine;simp only[List.size_toArray,(w8.reps hv).length];exact hz))
theorem yR {es:List Expr}{n:Nat}{pos:Pos}{ds:List Dat}(h:sY prog w W k sc fn Γ es (ds.map V.dat))(hz:autoParam (ds.length≤sizeLine) au6):Ev prog w W k sc fn Γ (.Tuple es n pos) (.dat (.tuple ds)):=fun fr P s F hsc st A Q E rm q=>
  Tuple_ (h fr P s F hsc st pos A _ E rm fun vs s₁ F₁ g₁ hv=>
    zF (q _ _ _ (g₁.trans (q0.push (st.step g₁).base _ (qH _) rfl)) (.tuple (.head _) ((w8.reps hv).mono (Fz.le_ob _ _ _))))
      (by show vs.toArray.size≤sizeLine;simp only[List.size_toArray,(w8.reps hv).length];exact hz))
theorem kC {fr:p4}{P:yW}{s:Shared}{F:Fz}{es:List Expr}{xs:List V}{f:Value}{pos:Pos}{A:Around}{Q:Args→Shared→Prop}{E:Value→Shared→Prop}
    (h:sY prog w W k sc fn Γ es xs)(hsc:fr.env.scope=sc)(st:St prog w W fr fn Γ P s F)(rm:zZ k A)(hs:∀env,(starEach es env).any (·.1)=false)
    (q:∀vs s' F',q0 W s s' F F'→w8 prog w F' vs xs→Q ⟨vs,[]⟩ s'):wpAny (model prog w) A (evalArgs f true (backTo pos (starEach es fr.env)) []) Q E s:=by
  have h':=h fr P s F hsc st pos A (fun vs s'=>Q ⟨vs,[]⟩ s') E rm q;have hs':=hs fr.env;cases hE:starEach es fr.env with
  | nil =>
    rw[hE] at h';unfold evalArgs;show wpAny _ _ (spliced [] >>= _) Q E s;refine qC (xT h' (fun vs s' h'=>?_) fun Z Z x=>x);refine xS ?_;exact qC (qI (qC (qI (qI h'))))
  | cons p r =>
    obtain⟨b,t⟩:=p;rw[hE] at h' hs';simp only[List.any_cons,Bool.or_eq_false_iff] at hs';obtain⟨rfl,_⟩:=hs';exact evalArgs_plain h'
theorem Z0 {y:Str}{es:List Expr}{xs:List V}{p pos:Pos}{a:Nat}{o:Obj}{fd:FuncData}{r:V}(hf:Ev prog w W k sc fn Γ (.Name y p) (.ref a))
    (ho:W.base.get? a=some o)(hd:o.data=.func fd)(ha:sY prog w W k sc fn Γ es xs)(hc:Calls prog w W k (.ref a) xs r)
    (hs:autoParam (∀env,(starEach es env).any (·.1)=false) au1):Ev prog w W k sc fn Γ (.Call (.Name y p) es [] pos) r:=fun fr P s F hsc st A Q E rm q=>by
  rw[(rfl:eval (.Call (.Name y p) es [] pos) fr.env=(do callWith pos (← eval (.Name y p) fr.env) [] (backTo pos (starEach es fr.env)) []))];refine qC (hf fr P s F hsc st A _ E rm fun v s₁ F₁ g₁ hv=>?_);cases hv;refine callWith_function (o:=o) (fd:=fd) ?_;refine kC ha hsc (st.step g₁) rm hs fun vs s₂ F₂ g₂ hv=>?_;refine⟨⟨((st.step g₁).step g₂).base.base _ _ ho,hd⟩,?_⟩;exact hc s₂ F₂ vs ((st.step g₁).step g₂).base hv A Q E rm fun z s₃ F₃ g₃ hz=>q z s₃ F₃ ((g₁.trans g₂).trans g₃) hz
theorem Y7 {y:Str}{es:List Expr}{xs:List V}{p pos:Pos}{f:Value}{r:V}
    (hk:sc.names.lookup y=some .globalImplicit)(hg:W.mg y=none)(hb:bootBuiltins y=some f)(hn:y≠"__name__")(hbt:(∃id,f=.builtin id) ∨ ∃T,f=.type T)
    (ha:sY prog w W k sc fn Γ es xs)(hc:Calls prog w W k f xs r)
    (hs:autoParam (∀env,(starEach es env).any (·.1)=false) au1)(hd:autoParam ((y==("__debug__":Str))=false) au2):Ev prog w W k sc fn Γ (.Call (.Name y p) es [] pos) r:=fun fr P s F hsc st A Q E rm q=>by
  rw[(rfl:eval (.Call (.Name y p) es [] pos) fr.env=(do callWith pos (← eval (.Name y p) fr.env) [] (backTo pos (starEach es fr.env)) []))];refine qC (wN st (hsc▸hk) hg hb hn ?_ hd);have hplain:(backTo pos (starEach es fr.env)).any (·.1)=false:=by
    have:=hs fr.env;unfold backTo;rw[List.any_map];exact this
  have go:wpAny (model prog w) A (evalArgs f true (backTo pos (starEach es fr.env)) []) (fun a s₁=>wpAny (model prog w) A (call f ([]++a.pos) a.kw) Q E s₁) E s :=
    kC ha hsc st rm hs fun vs s₂ F₂ g₂ hv=>
      hc s₂ F₂ vs (st.step g₂).base hv A Q E rm fun z s₃ F₃ g₃ hz=>q z s₃ F₃ (g₂.trans g₃) hz
  rcases hbt with⟨id,rfl⟩ | ⟨T,rfl⟩
  · exact callWith_builtin hplain go
  · exact wZ hplain go
end
end Mine
namespace Mine
structure zX (W:Wd)(X:List Nat)(s s':Shared)(F F':Fz):Prop where
  keep:∀a o,¬W.tab a→a∉X→s.heap.get? a=some o→s'.heap.get? a=some o
  has:∀p∈F'.obs,s'.heap.get? p.1=some p.2
  sub:F.le F'
  new:∀p∈F'.obs,p∈F.obs ∨ s.heap.objs.size≤p.1
  tok:bB F'.tks s'.toks
  toks:s.toks≤s'.toks
  size:s.heap.objs.size≤s'.heap.objs.size
  os:s'.os=s.os
  gens:zQ s.gens s'.gens
  tabs:gH W F' s'.heap
theorem q0.x {W:Wd}{X:List Nat}{s s':Shared}{F F':Fz}(g:q0 W s s' F F'):zX W X s s' F F' :=
  ⟨fun a o h Z=>g.keep a o h,g.has,g.sub,g.new,g.tok,g.toks,g.size,g.os,g.gens,g.tabs⟩
theorem zX.trans {W:Wd}{X:List Nat}{s₁ s₂ s₃:Shared}{F₁ F₂ F₃:Fz}(x:zX W X s₁ s₂ F₁ F₂)(y:zX W X s₂ s₃ F₂ F₃):zX W X s₁ s₃ F₁ F₃ where
  keep:=fun a o ht hx e=>y.keep a o ht hx (x.keep a o ht hx e)
  has:=y.has
  sub:=x.sub.trans y.sub
  new:=fun p hp=>by
    rcases y.new p hp with h | h
    · exact x.new p h
    · exact .inr (qB x.size h)
  tok:=y.tok
  toks:=qB x.toks y.toks
  size:=qB x.size y.size
  os:=y.os.trans x.os
  gens:=x.gens.trans y.gens
  tabs:=y.tabs
theorem zX.more {W:Wd}{X Y:List Nat}{s s':Shared}{F F':Fz}(g:zX W X s s' F F')(h:∀a∈X,a∈Y):zX W Y s s' F F' :=
  ⟨fun a o ht hx=>g.keep a o ht fun q=>hx (h a q),g.has,g.sub,g.new,g.tok,g.toks,g.size,g.os,g.gens,g.tabs⟩
theorem wC.growX {W:Wd}{X:List Nat}{s s':Shared}{F F':Fz}(b:wC W s F)(g:zX W X s s' F F')(hX:∀a∈X,W.base.get? a=none):wC W s' F' where
  base:=fun a o e=>g.keep a o (Wd.not_tab e) (fun q=>by rw[hX a q] at e;cases e) (b.base a o e)
  has:=g.has
  tok:=g.tok
  tabs:=g.tabs
  off:=fun p hp=>by
    rcases g.new p hp with h | h
    · exact b.off p h
    · exact b.not_tab_of_size h
  size:=qB b.size g.size
theorem zX.same {W:Wd}{s:Shared}{F:Fz}{h':Heap}{a t:Nat}(b:wC W s F)(hs:Heap.SameBut a s.heap h')(hF:∀p∈F.obs,p.1≠a)(ha:¬W.tab a)(ht:s.toks≤t) :
    zX W [a] s {s with heap:=h',toks:=t} F F where
  keep:=fun c o Z hc e=>(hs.2 c (by simpa using hc)).trans e
  has:=fun p hp=>(hs.2 _ (hF p hp)).trans (b.has p hp)
  sub:=.rfl
  new:=fun Z h=>.inl h
  tok:=b.tok.le ht
  toks:=ht
  size:=qL hs.1.symm
  os:=rfl
  gens:=.rfl
  tabs:=b.tabs.keeps fun c o hc e=>(hs.2 c fun q=>ha (q▸hc)).trans e
theorem zX.tk {W:Wd}{X:List Nat}{s s':Shared}{F F':Fz}(g:zX W X s s' F F')(d:Dat):zX W X s {s' with toks:=s'.toks+1} F (F'.tk s'.toks d) where
  keep:=g.keep
  has:=g.has
  sub:=g.sub.trans (F'.le_tk _ _)
  new:=g.new
  tok:=g.tok.cons (qH _) (wE _)
  toks:=qW g.toks
  size:=g.size
  os:=g.os
  gens:=g.gens
  tabs:=g.tabs.mono (F'.le_tk _ _)
section
variable {prog:Program}{w:World}{W:Wd}{fr:p4}{fn:Bool}{Γ Γ':xK}{P N N':yW}{s s':Shared}{F F':Fz}{A:Around}
theorem St.stepH (x:St prog w W fr fn Γ (N++P) s F)(g:zX W (N.map (·.1)) s s' F F')(hN:∀p∈N',p.1∈N.map (·.1))(hin:∀p∈N',s'.heap.get? p.1=some p.2)
    (hP:∀p∈P,∀q∈N,q.1≠p.1)(hnone:∀p∈N,fr.sb.heap.get? p.1=none∧W.base.get? p.1=none):St prog w W fr fn Γ (N'++P) s' F':=by
  have memN:∀a,a∈N.map (·.1)→∃p∈N,p.1=a:=fun a h=>let⟨p,hp,e⟩:=qS h;⟨p,hp,e⟩;have memN':∀p∈N',∃q∈N,q.1=p.1:=fun p hp=>memN p.1 (hN p hp);have newF:∀a,a<s.heap.objs.size→(∀p∈F.obs,p.1≠a)→∀p∈F'.obs,p.1≠a:=fun a ha h p hp e=>by
    rcases g.new p hp with q | q
    · exact h p q e
    · simp only[e] at q;exact absurd ha (xB q)
  have hL:∀m,s.heap.Ns fr.env.locals m→s'.heap.Ns fr.env.locals m:=fun m h=>let⟨o,es,ep,ho,r⟩:=h;⟨o,es,ep,g.keep _ _ x.tabL (fun q=>let⟨p,hp,e⟩:=memN _ q;x.nsP p (qT _ hp) e:fr.env.locals∉N.map (·.1)) ho,r⟩;have hC:∀n c v,fr.env.cells.lookup n=some c→s.heap.IsCell c v→s'.heap.IsCell c v:=fun n c v hc h=>let⟨o,ho,r⟩:=h;⟨o,g.keep _ _ (x.cell _ _ hc).2.2.2.2.1 ((fun n c hc q=>let⟨p,hp,e⟩:=memN _ q;(x.cell n c hc).2.2.2.1 p (qT _ hp) e:∀n c,fr.env.cells.lookup n=some c→c∉N.map (·.1)) n c hc) ho,r⟩;have hv:∀y v,z7 s.heap fr.env y v→z7 s'.heap fr.env y v:=fun y v h=>h.keeps hL fun c v hc hv=>hC _ c v hc hv;have hbase:∀a∈N.map (·.1),W.base.get? a=none:=fun a q=>by
    obtain⟨p,hp,rfl⟩:=memN _ q;exact(hnone p hp).2
  refine⟨(x.base.growX g hbase),⟨fun a o ht e=>g.keep a o ht (fun q=>?_) (x.grow.keep a o ht e),g.has,x.grow.sub.trans g.sub,fun p hp=>?_,g.tok,qB x.grow.toks g.toks,qB x.grow.size g.size,g.os.trans x.grow.os,x.grow.gens.trans g.gens,g.tabs⟩,
    x.bsize,x.glob,x.blt,x.kind,let⟨m,h⟩:=x.ns;⟨m,hL m h⟩,x.nsNew,?_,?_,?_,?_,x.inj,x.cells,?_,?_⟩
  · obtain⟨p,hp,rfl⟩:=memN _ q;rw[(hnone p hp).1] at e;cases e
  · rcases g.new p hp with h | h
    · exact x.grow.new p h
    · exact .inr (qB x.grow.size h)
  · obtain⟨m,h⟩:=x.ns;exact newF _ h.lt x.nsF
  · intro p hp;rcases qP hp with h | h
    · obtain⟨q,hq,e⟩:=memN' p h;rw[← e];exact x.nsP q (qT _ hq)
    · exact x.nsP p (xH _ h)
  · intro p hp;rcases qP hp with h | h
    · obtain⟨q,hq,e⟩:=memN' p h;obtain⟨h1,h2,h3⟩:=x.prv q (qT _ hq);rw[← e];exact⟨e▸hin p h,h2,newF _ (qJ h1) h3⟩
    · obtain⟨h1,h2,h3⟩:=x.prv p (xH _ h);exact⟨g.keep _ _ h2 (fun q=>let⟨r,hr,e⟩:=memN _ q;hP p h r hr e) h1,h2,newF _ (qJ h1) h3⟩
  · intro n c hc;refine zS fun nG=>?_;obtain⟨⟨v,h1⟩,h2,h3,h4,h5,h6⟩:=x.cell n c hc;refine nG ?_;refine⟨⟨v,hC n c v hc h1⟩,h2,fun hf=>newF _ h1.lt (h3 hf),fun p hp=>?_,h5,h6⟩;rcases qP hp with h | h
    · obtain⟨q,hq,e⟩:=memN' p h;rw[← e];exact h4 q (qT _ hq)
    · exact h4 p (xH _ h)
  · intro y b hy;obtain⟨v,h1,h2⟩:=x.vars y b hy;refine⟨v,hv _ _ h1,?_⟩;have pr:∀a,a<s.heap.objs.size→y6 fr (N++P) F a→y6 fr (N'++P) F' a∧a∉N.map (·.1):=fun a ha h5=>
      ⟨⟨h5.new,h5.loc,h5.cel,fun p hp=>by
        rcases qP hp with h | h
        · obtain⟨q,hq,e⟩:=memN' p h;rw[← e];exact h5.prv q (qT _ hq)
        · exact h5.prv p (xH _ h),newF _ ha h5.frz⟩,fun q=>let⟨r,hr,e⟩:=memN _ q;h5.prv r (qT _ hr) e⟩
    cases b with
    | val x=>exact V.is.mono g.sub h2
    | lst ds =>
      obtain⟨a,vs,n,e,h3,h4,h5⟩:=h2;obtain⟨p1,p2⟩:=pr a (qJ h3) h5;exact⟨a,vs,n,e,g.keep _ _ (h5.tab x.bsize) p2 h3,h4.mono g.sub,p1⟩
    | byt bs =>
      obtain⟨a,n,e,h3,h5⟩:=h2;obtain⟨p1,p2⟩:=pr a (qJ h3) h5;exact⟨a,n,e,g.keep _ _ (h5.tab x.bsize) p2 h3,p1⟩
    | dic kvs =>
      obtain⟨a,kvv,e,h3,h4,h5⟩:=h2;obtain⟨p1,p2⟩:=pr a (DictOf.lt h3) h5;exact⟨a,kvv,e,(let⟨o,es,ep,ho,r⟩:=h3;⟨o,es,ep,g.keep _ _ (h5.tab x.bsize) p2 ho,r⟩),h4.mono g.sub,p1⟩
  · intro y z by' bz a hne h1 h2 o1 o2 v1 v2
    obtain⟨u1,w1,_⟩:=x.vars y by' h1
    obtain⟨u2,w2,_⟩:=x.vars z bz h2;cases(hv _ _ w1).unique v1;cases(hv _ _ w2).unique v2;exact x.apart y z by' bz a hne h1 h2 o1 o2 w1 w2
theorem St.stepX (x:St prog w W fr fn Γ (N++P) s F)(g:zX W (N.map (·.1)) s s' F F')(hN:∀p∈N',p.1∈N.map (·.1))(hin:∀p∈N',s'.heap.get? p.1=some p.2)
    (hP:∀p∈P,∀q∈N,q.1≠p.1)(hnew:∀p∈N,fr.sb.heap.objs.size≤p.1):St prog w W fr fn Γ (N'++P) s' F' :=
  x.stepH g hN hin hP fun p hp=>⟨x4 (hnew p hp),x4 (qB x.bsize (hnew p hp))⟩
theorem St.frame (x:St prog w W fr fn Γ P s F)(g:q0 W s s' F F')(hin:∀p∈N,s'.heap.get? p.1=some p.2∧s.heap.objs.size≤p.1∧∀q∈F'.obs,q.1≠p.1):St prog w W fr fn Γ (N++P) s' F':=by
  have y:=x.step g;have old:∀a,a<s.heap.objs.size→∀p∈N,p.1≠a:=fun a ha p hp e=>absurd ha (xB (e▸(hin p hp).2.1));refine⟨y.base,y.grow,y.bsize,y.glob,y.blt,y.kind,y.ns,y.nsNew,y.nsF,fun p hp=>?_,fun p hp=>?_,fun n c hc=>?_,y.inj,y.cells,fun z b hz=>?_,y.apart⟩
  · rcases qP hp with h | h
    · obtain⟨m,hm⟩:=x.ns;exact old _ hm.lt p h
    · exact y.nsP p h
  · rcases qP hp with h | h
    · exact⟨(hin p h).1,x.base.not_tab_of_size (hin p h).2.1,(hin p h).2.2⟩
    · exact y.prv p h
  · obtain⟨h1,h2,h3,h4,h5,h6⟩:=y.cell n c hc;refine⟨h1,h2,h3,fun p hp=>?_,h5,h6⟩;rcases qP hp with h | h
    · obtain⟨⟨v,hv⟩,_⟩:=x.cell n c hc;exact old _ hv.lt p h
    · exact h4 p h
  · obtain⟨v,h1,h2⟩:=y.vars z b hz;refine⟨v,h1,?_⟩;obtain⟨v₀,h1₀,h2₀⟩:=x.vars z b hz;cases h1.unique (h1₀.keeps (fun m h=>Ns.off (W:=W) h x.tabL g.keep) fun c v hc hv=>IsCell.off (W:=W) hv (x.cell _ _ hc).2.2.2.2.1 g.keep:z7 s'.heap fr.env z v₀);have pr:∀a,a<s.heap.objs.size→y6 fr P F' a→y6 fr (N++P) F' a:=fun a ha p=>⟨p.new,p.loc,p.cel,fun q hq=>by
      rcases qP hq with h | h
      · exact old a ha q h
      · exact p.prv q h,p.frz⟩
    cases b with
    | val x=>exact h2
    | lst ds =>
      obtain⟨a,vs,n,e,h3,h4,h5⟩:=h2;obtain⟨a',vs',n',e',h3',_⟩:=h2₀;rw[e] at e';cases e';exact⟨a,vs,n,e,h3,h4,pr a (qJ h3') h5⟩
    | byt bs =>
      obtain⟨a,n,e,h3,h5⟩:=h2;obtain⟨a',n',e',h3',_⟩:=h2₀;rw[e] at e';cases e';exact⟨a,n,e,h3,pr a (qJ h3') h5⟩
    | dic kvs =>
      obtain⟨a,kvv,e,h3,h4,h5⟩:=h2;obtain⟨a',kvv',e',h3',_⟩:=h2₀;rw[e] at e';cases e';exact⟨a,kvv,e,h3,h4,pr a (DictOf.lt h3') h5⟩
theorem St.unframe (x:St prog w W fr fn Γ (N++P) s F):St prog w W fr fn Γ P s F:=by
  refine⟨x.base,x.grow,x.bsize,x.glob,x.blt,x.kind,x.ns,x.nsNew,x.nsF,fun p hp=>x.nsP p (xH _ hp),fun p hp=>x.prv p (xH _ hp),fun n c hc=>?_,x.inj,x.cells,fun z b hz=>?_,x.apart⟩
  · obtain⟨h1,h2,h3,h4,h5,h6⟩:=x.cell n c hc;exact⟨h1,h2,h3,fun p hp=>h4 p (xH _ hp),h5,h6⟩
  · obtain⟨v,h1,h2⟩:=x.vars z b hz;have pr:∀a,y6 fr (N++P) F a→y6 fr P F a:=fun a p=>⟨p.new,p.loc,p.cel,fun q hq=>p.prv q (xH _ hq),p.frz⟩;refine⟨v,h1,?_⟩;cases b with
    | val x=>exact h2
    | lst ds=>obtain⟨a,vs,n,e,h3,h4,h5⟩:=h2;exact⟨a,vs,n,e,h3,h4,pr a h5⟩
    | byt bs=>obtain⟨a,n,e,h3,h5⟩:=h2;exact⟨a,n,e,h3,pr a h5⟩
    | dic kvs=>obtain⟨a,kvv,e,h3,h4,h5⟩:=h2;exact⟨a,kvv,e,h3,h4,pr a h5⟩
end
section
variable (prog:Program)(w:World)(W:Wd)
structure n9 (N:yW)(s:Shared)(F:Fz):Prop where
  has:∀p∈N,s.heap.get? p.1=some p.2
  tab:∀p∈N,¬W.tab p.1
  base:∀p∈N,W.base.get? p.1=none
  off:∀p∈N,∀q∈F.obs,q.1≠p.1
noncomputable def uO (k:Nat)(tgt:Expr)(it:Value):List V→Fz→yW→Prop
  | [],F,N=>∀s F₁ (A:Around) (Q:Option Value→Shared→Prop) (E:Value→Shared→Prop),wC W s F₁→F.le F₁→n9 W N s F₁→zZ k A →
      (∀s' F',zX W (N.map (·.1)) s s' F₁ F'→Q none s')→wpAny (model prog w) A (pyNext it) Q E s
  | x::xs,F,N=>∀s F₁ (A:Around) (Q:Value→Shared→Prop) (E:Value→Shared→Prop),wC W s F₁→F.le F₁→n9 W N s F₁→zZ k A →
      (∀v s₂ F₂ N₂,zX W (N.map (·.1)) s s₂ F₁ F₂→N₂.map (·.1)=N.map (·.1)→(∀p∈N₂,s₂.heap.get? p.1=some p.2)→x.is prog w F₂ v→uO k tgt it xs F₂ N₂→Q v s₂) →
      wpAny (model prog w) A (pyNext it) (fun r s₁=>match r with
        | none=>False
        | some v=>wpAny (model prog w) A (letOwnedTupleGo tgt it v) (fun Z s₂=>Q v s₂) E s₁) E s
noncomputable def V2 (it:Value)(N:yW):Prop:=∀(A:Around) (s:Shared) (Q:Value→Shared→Prop) (E:Value→Shared→Prop),(∀p∈N,s.heap.get? p.1=some p.2)→Q it s→wpAny (model prog w) A (pyIter it) Q E s
noncomputable def wR (k:Nat)(sc:Scope)(fn:Bool)(Γ:xK)(tgt e:Expr)(xs:List V):Prop :=
  ∀fr P s F,fr.env.scope=sc→St prog w W fr fn Γ P s F→∀(A:Around) (Q:Value→Shared→Prop) (E:Value→Shared→Prop),zZ k A →
    (∀it s' F' (N:yW),q0 W s s' F F'→(∀p∈N,s'.heap.get? p.1=some p.2∧s.heap.objs.size≤p.1∧∀q∈F'.obs,q.1≠p.1)→uO prog w W k tgt it xs F' N→V2 prog w it N→Q it s') →
      wpAny (model prog w) A (eval e fr.env) (fun v s₁=>wpAny (model prog w) A (pyIter v) Q E s₁) E s
noncomputable def B7 (k:Nat)(sc:Scope)(fn:Bool)(Γ:xK)(tgt:Expr)(x:V)(Γ':xK):Prop :=
  ∀fr P s F v,fr.env.scope=sc→St prog w W fr fn Γ P s F→x.is prog w F v→∀(A:Around) (Q:Unit→Shared→Prop) (E:Value→Shared→Prop),zZ k A →
    (∀s' F',St prog w W fr fn Γ' P s' F'→F.le F'→Q () s')→wpAny (model prog w) A (assign tgt fr.env v) Q E s
end
section
variable {prog:Program}{w:World}{W:Wd}{k:Nat}{sc:Scope}{fn:Bool}{Γ Γ' Γ'':xK}
theorem xY {y:Str}{pos:Pos}{x:V}(hk:sc.names.lookup y=some .local ∨ (sc.names.lookup y=some .cell∧fn=true)):B7 prog w W k sc fn Γ (.Name y pos) x ((y,.val x)::Γ) :=
  fun fr P s F v hsc st hv A Q E rm q=>yJ (st.storeV hv (by rw[← hsc] at hk;exact hk) fun s' st'=>q s' F st' .rfl)
theorem wX:Ex prog w W k sc fn Γ [] (.next Γ):=fun fr P s F hsc st A Q E rm q=>vG (q _ _ _ ⟨rfl,st⟩ .rfl)
theorem xU {st:Stmt}{rest:List Stmt}{o:dA}(h:nX prog w W k sc fn Γ st (.next Γ'))(hr:Ex prog w W k sc fn Γ' rest o):Ex prog w W k sc fn Γ (st::rest) o :=
  fun fr P s F hsc x A Q E rm q=>xP (h fr P s F hsc x A _ E rm fun fl s' F' ho hF=>by
    obtain⟨rfl,x'⟩:=ho;exact hr fr P s' F' hsc x' A Q E rm fun fl s'' F'' ho' hF'=>q fl s'' F'' ho' (hF.trans hF'))
theorem xR {st:Stmt}{rest:List Stmt}{x:V}(h:nX prog w W k sc fn Γ st (.ret x)):Ex prog w W k sc fn Γ (st::rest) (.ret x) :=
  fun fr P s F hsc y A Q E rm q=>xP (h fr P s F hsc y A _ E rm fun fl s' F' ho hF=>by
    obtain⟨v,rfl,h1⟩:=ho;exact q _ s' F' ⟨v,rfl,h1⟩ hF)
theorem BK {ss:List Stmt}(h:Ex prog w W k sc fn Γ ss (.next Γ'))(hw:∀y b,Γ''.lookup y=some b→Γ'.lookup y=some b):Ex prog w W k sc fn Γ ss (.next Γ'') :=
  fun fr P s F hsc st A Q E rm q=>h fr P s F hsc st A Q E rm fun fl s' F' ho hF=>q fl s' F' ⟨ho.1,ho.2.weaken hw⟩ hF
theorem xJ {y:Str}{pos pos':Pos}{e:Expr}{x:V}(he:Ev prog w W k sc fn Γ e x)(hk:sc.names.lookup y=some .local ∨ (sc.names.lookup y=some .cell∧fn=true))
    (hs:autoParam (∀env,env.scope=sc→swapsWith e (some (.Name y pos')) pos.line env=pure false) au5):nX prog w W k sc fn Γ (.Assign [.Name y pos'] e pos) (.next ((y,.val x)::Γ)) :=
  fun fr P s F hsc st A Q E rm q=>kI (he fr P s F hsc st A _ E rm fun v s₁ F₁ g₁ hv=>
    (st.step g₁).storeV hv (by rw[← hsc] at hk;exact hk) fun s' st'=>q _ s' F₁ ⟨rfl,st'⟩ g₁.sub) (hs _ hsc)
theorem xN {pos:Pos}{e:Expr}{x:V}(he:Ev prog w W k sc fn Γ e x):nX prog w W k sc fn Γ (.Return (some e) pos) (.ret x) :=
  fun fr P s F hsc st A Q E rm q=>vZ (he fr P s F hsc st A _ E rm fun v s₁ F₁ g₁ hv=>q _ s₁ F₁ ⟨v,rfl,hv,(st.step g₁).weaken fun y b h=>by cases h⟩ g₁.sub)
theorem kY {t:Expr}{body orelse:List Stmt}{pos:Pos}{b:Bool}{o:dA}(ht:eM prog w W k sc fn Γ t b)(h1:b=true→Ex prog w W k sc fn Γ body o)(h2:b=false→Ex prog w W k sc fn Γ orelse o) :
    nX prog w W k sc fn Γ (.If t body orelse pos) o :=
  fun fr P s F hsc st A Q E rm q=>wpAny_If (ht fr P s F hsc st A _ E rm fun s₁ F₁ g₁=>by
    cases b with
    | true=>exact h1 rfl fr P s₁ F₁ hsc (st.step g₁) A Q E rm fun fl s' F' ho hF=>q fl s' F' ho (g₁.sub.trans hF)
    | false=>exact h2 rfl fr P s₁ F₁ hsc (st.step g₁) A Q E rm fun fl s' F' ho hF=>q fl s' F' ho (g₁.sub.trans hF))
section
variable (prog w W)
noncomputable def KY (k:Nat)(sc:Scope)(fn:Bool)(Γ:xK)(tgt:Expr)(x:V)(body:List Stmt)(o:dA):Prop :=
  ∃Γ₁,B7 prog w W k sc fn Γ tgt x Γ₁∧Ex prog w W k sc fn Γ₁ body o
end
theorem n9.of_st {fr:p4}{P N:yW}{s:Shared}{F:Fz}(x:St prog w W fr fn Γ (N++P) s F)(hn:∀p∈N,fr.sb.heap.objs.size≤p.1):n9 W N s F :=
  ⟨fun p hp=>(x.prv p (qT _ hp)).1,fun p hp=>(x.prv p (qT _ hp)).2.1,
    fun p hp=>x4 (qB x.bsize (hn p hp)),fun p hp=>(x.prv p (qT _ hp)).2.2⟩
inductive FI (prog:Program)(w:World)(W:Wd)(k:Nat)(fr:p4)(fn:Bool)(Γs:Nat→xK)(tgt:Expr)(it:Value)(xs:List V)(n:Nat)(P:yW)(F:Fz)(m:Nat)(s':Shared):Prop
  | mk (i:Nat) (N':yW) (F':Fz) (h:m=xs.length+1-i) (hin:i≤n) (hil:i≤xs.length) (hF:F.le F') (st:St prog w W fr fn (Γs i) (N'++P) s' F') (hnew:∀p∈N',fr.sb.heap.objs.size≤p.1) (hPN:∀p∈P,∀q∈N',q.1≠p.1) (hI:uO prog w W k tgt it (xs.drop i) F' N'):FI prog w W k fr fn Γs tgt it xs n P F m s'
theorem iZ {tgt iter:Expr}{body orelse:List Stmt}{pos:Pos}{xs:List V}{Γs:Nat→xK}{n:Nat}(hit:wR prog w W k sc fn Γ tgt iter xs)
    (h0:∀y b,(Γs 0).lookup y=some b→Γ.lookup y=some b)(turn:∀i x,i<n→xs[i]?=some x→KY prog w W k sc fn (Γs i) tgt x body (.next (Γs (i+1))))
    {fr:p4}{P:yW}{s:Shared}{F:Fz}{A:Around}{Q:Flow→Shared→Prop}{E:Value→Shared→Prop}(hsc:fr.env.scope=sc)(st:St prog w W fr fn Γ P s F)(rm:zZ k A)
    (last:(n=xs.length∧∀s' F',F.le F'→St prog w W fr fn (Γs n) P s' F'→wpAny (model prog w) A (execs orelse fr.env) (fun fl s''=>Q fl s'') (notedBy (model prog w) A fr.env fun e s'=>cameBackBy (model prog w) A fr.env E e s') s') ∨
      ∃x r,xs[n]?=some x∧(∀fl s' F',dA.ok prog w W fr fn P fl s' F' (.ret r)→F.le F'→Q fl s')∧KY prog w W k sc fn (Γs n) tgt x body (.ret r))
    (hs:autoParam (∀env x,foldedSetIterable iter env x=pure x) au5):wpAny (model prog w) A (exec (.For tgt iter body orelse pos) fr.env) Q E s:=by
  refine wpAny_For ?_ (hs _);refine hit fr P s F hsc st A _ E rm ?_;intro it s₂ F₂ N g hN hI _
  refine codeAny_forLoop_any (FI prog w W k fr fn Γs tgt it xs n P F)
    ?_ (xs.length+1) ⟨0,N,F₂,rfl,wJ _,wJ _,g.sub,(st.weaken h0).frame g hN,fun p hp=>qB st.grow.size (hN p hp).2.1,
      fun p hp r hr e=>absurd (qJ (st.prv p hp).1) (xB (e▸(hN r hr).2.1)),by simpa using hI⟩
  rintro m s' ⟨i,N',F',rfl,hin,hil,hF,st',hnew,hPN,hI'⟩;have held:=n9.of_st st' hnew;by_cases hi:i<xs.length
  · rw[List.drop_eq_getElem_cons hi] at hI';have hx:xs[i]?=some xs[i]:=List.getElem?_eq_getElem hi;refine xT (hI' s' F' A (fun v s₂=>wpAny (model prog w) A (assign tgt fr.env v) (fun Z s₂=>wpAny (model prog w) A (execs body fr.env) (fun f s₃=>match f with
            | .next | .cont=>∃m,m<xs.length+1-i∧FI prog w W k fr fn Γs tgt it xs n P F m s₃
            | .brk=>Q .next s₃
            | .ret v=>Q (.ret v) s₃) (notedBy (model prog w) A fr.env fun e s'=>cameBackBy (model prog w) A fr.env E e s') s₂) (notedBy (model prog w) A fr.env fun e s'=>cameBackBy (model prog w) A fr.env E e s') s₂) (notedBy (model prog w) A fr.env fun e s'=>cameBackBy (model prog w) A fr.env E e s') st'.base .rfl held rm ?_) (fun r s₁ h=>?_) fun Z Z h=>h
    · intro v s₃ F₃ N₃ g₃ hN₃ hin₃ hv hI₃;have st₃:=st'.stepX g₃ (fun p hp=>hN₃▸zE hp) hin₃ hPN hnew;have mem:∀p∈N₃,∃q∈N',q.1=p.1:=fun p hp=>let⟨q,hq,e⟩:=qS (hN₃▸zE hp:p.1∈N'.map (·.1));⟨q,hq,e⟩;by_cases hn:i<n
      · obtain⟨Γ₁,ha,hb⟩:=turn i _ hn hx;refine ha fr (N₃++P) s₃ F₃ v hsc st₃ hv A _ _ rm fun s₄ F₄ st₄ hF₄=>?_;refine hb fr (N₃++P) s₄ F₄ hsc st₄ A _ _ rm fun fl s₅ F₅ ho hF₅=>?_;obtain⟨rfl,st₅⟩:=ho;refine⟨xs.length+1-(i+1),by exact(rX (qO (qU hi))),i+1,N₃,F₅,rfl,hn,hi,((hF.trans g₃.sub).trans hF₄).trans hF₅,st₅,(fun p hp=>let⟨q,hq,e⟩:=mem p hp;e▸hnew q hq:∀p∈N₃,fr.sb.heap.objs.size≤p.1),(fun p hp r hr=>let⟨q,hq,e⟩:=mem r hr;e▸hPN p hp q hq:∀p∈P,∀q∈N₃,q.1≠p.1),?_⟩;cases hd:xs.drop (i+1) with
        | nil =>
          rw[hd] at hI₃;intro s F₁ A Q E b hle hh r q;exact hI₃ s F₁ A Q E b ((hF₄.trans hF₅).trans hle) hh r q
        | cons x r =>
          rw[hd] at hI₃;intro s F₁ A Q E b hle hh r q;exact hI₃ s F₁ A Q E b ((hF₄.trans hF₅).trans hle) hh r q
      · have hni:i=n:=by exact(kK hin (wV hn))
        subst hni;rcases last with⟨e,_⟩ | ⟨x,r,hx',q,Γ₁,ha,hb⟩
        · exact(WZ _ _ hi (qL e.symm))
        · rw[hx] at hx';cases hx';refine ha fr (N₃++P) s₃ F₃ v hsc st₃ hv A _ _ rm fun s₄ F₄ st₄ hF₄=>?_;refine hb fr (N₃++P) s₄ F₄ hsc st₄ A _ _ rm fun fl s₅ F₅ ho hF₅=>?_;obtain⟨u,rfl,hu,st₅⟩:=ho;exact q _ s₅ F₅ ⟨u,rfl,hu,st₅.unframe⟩ (((hF.trans g₃.sub).trans hF₄).trans hF₅)
    · cases r with
      | none=>exact h.elim
      | some v=>exact h
  · have hie:i=xs.length:=by exact(kK hil (wV hi))
    rw[(List.drop_eq_nil_of_le (by exact(Nat.le_of_not_lt hi)):xs.drop i=[])] at hI';refine hI' s' F' A _ _ st'.base .rfl held rm fun s₃ F₃ g₃=>?_;rcases last with⟨e,q⟩ | ⟨x,r,hx',_⟩
    · have:i=n:=by exact(gO (jN e (kK (wV hi) hil)))
      subst this;exact q s₃ F₃ (hF.trans g₃.sub) (st'.stepX (N':=[]) g₃ (fun Z h=>nomatch h) (fun Z h=>nomatch h) hPN hnew:St prog w W fr fn (Γs i) P s₃ F₃)
    · have:=(List.getElem?_eq_some_iff.mp hx').1;exact(WZ _ _ this (qB (wV hi) hin))
theorem iY {tgt iter:Expr}{body orelse:List Stmt}{pos:Pos}{xs:List V}{Γs:Nat→xK}{n:Nat}{o:dA}(hit:wR prog w W k sc fn Γ tgt iter xs)
    (h0:∀y b,(Γs 0).lookup y=some b→Γ.lookup y=some b)(turn:∀i x,i<n→xs[i]?=some x→KY prog w W k sc fn (Γs i) tgt x body (.next (Γs (i+1))))
    (last:(n=xs.length∧Ex prog w W k sc fn (Γs n) orelse o) ∨ ∃x r,xs[n]?=some x∧o=.ret r∧KY prog w W k sc fn (Γs n) tgt x body (.ret r))
    (hs:autoParam (∀env x,foldedSetIterable iter env x=pure x) au5):nX prog w W k sc fn Γ (.For tgt iter body orelse pos) o:=fun fr P s F hsc st A Q E rm q=>by
  refine iZ hit h0 turn hsc st rm ?_ hs;rcases last with⟨e,h⟩ | ⟨x,r,hx,rfl,h⟩
  · exact .inl ⟨e,fun s' F' hF st'=>h fr P s' F' hsc st' A _ _ rm fun fl s'' F'' ho hF'=>q fl s'' F'' ho (hF.trans hF')⟩
  · exact .inr ⟨x,r,hx,q,h⟩
theorem yE {tgt iter:Expr}{body:List Stmt}{pos:Pos}{xs:List V}{Γs:Nat→xK}{n:Nat}{o:dA}(hit:wR prog w W k sc fn Γ tgt iter xs)
    (h0:∀y b,(Γs 0).lookup y=some b→Γ.lookup y=some b)(turn:∀i x,i<n→xs[i]?=some x→KY prog w W k sc fn (Γs i) tgt x body (.next (Γs (i+1))))
    (last:(n=xs.length∧o=.next (Γs n)) ∨ ∃x r,xs[n]?=some x∧o=.ret r∧KY prog w W k sc fn (Γs n) tgt x body (.ret r))
    (hs:autoParam (∀env x,foldedSetIterable iter env x=pure x) au5):nX prog w W k sc fn Γ (.For tgt iter body [] pos) o :=
  iY hit h0 turn (last.elim (fun h=>.inl ⟨h.1,by simp only[h.2];exact wX⟩) .inr) hs
end
end Mine
namespace Mine
noncomputable abbrev hz (s:Shared):Nat:=s.heap.objs.size
theorem aH {M:Model}{Γ:PySem.Ctx}{p:Pos}{t:Sem Fin}{fs:List Frame}{s s':Shared}{e:End}(h:Runs M Γ p t fs s e s'):hz s≤hz s':=by
  induction h<;>(try simp only[Shared.setGen,hz,Heap.size_push,Heap.size_after_update] at *)<;>(first | exact(qU ‹_›) | exact(qH _) | exact(qB ‹_› ‹_›) | omega)
theorem K6 {M:Model}{Γ:PySem.Ctx}{p:Pos}{g:Nat}{r:Resume}{s s':Shared}{res:GenResult}(h:Wakes M Γ p g r s res s'):hz s≤hz s':=by
  unfold Wakes at h;have k:∀{e₁:End} {s₁:Shared} {x:GenState},hz (s.setGen g x)≤hz s₁→s'=s₁.setGen g e₁.genState→hz s≤hz s':=fun a e=>by subst e;exact a
  cases q:s.gens[g]? with
  | none=>rw[q] at h;exact h.elim
  | some x =>
    rw[q] at h;cases x with
    | fresh c=>cases r with
      | send v=>cases v with
        | none=>obtain⟨e₁,s₁,hr,_,_,e⟩:=h;exact k (aH hr) e
        | _=>exact h.2▸qH _
      | throw x=>exact h.2▸qH _
    | suspended k₀ _ c₀ p₀ fs _=>obtain⟨e₁,s₁,hr,_,_,e⟩:=h;exact k (aH hr) e
    | _=>exact h.2▸qH _
theorem FO {α:Type}(M:Model)(Γ:PySem.Ctx)(n:Nat)(t:Sem α):∀(Q:α→Pos→Shared→Prop) (E:Value→Pos→Shared→Prop) (p:Pos) (s:Shared),n≤hz s→Sem.wp M Γ t Q E p s →
    Sem.wp M Γ t (fun a p' s'=>n≤hz s'∧Q a p' s') (fun e p' s'=>n≤hz s'∧E e p' s') p s:=by
  induction t with
  | pure a=>exact fun Q E p s hn h=>⟨hn,h⟩
  | raise e=>exact fun Q E p s hn h=>⟨hn,h⟩
  | unsupported _=>exact fun Z Z Z Z Z h=>h
  | finish _=>exact fun Z Z Z Z Z h=>h
  | register _ _=>exact fun Z Z Z Z Z h=>h
  | yield _ _ _ _=>exact fun Z Z Z Z Z h=>h
  | fork _ _=>exact fun Z Z Z Z Z h=>h
  | await _ _ _ _ _=>exact fun Z Z Z Z Z h=>h
  | rule _ k ih=>exact fun Q E p s hn h=>ih () Q E p s hn h
  | «at» p' k ih=>exact fun Q E p s hn h=>ih () Q E p' s hn h
  | load a _ k ih=>exact fun Q E p s hn ⟨o,ho,h⟩=>⟨o,ho,ih o Q E p s hn h⟩
  | update a _ f k ih=>exact fun Q E p s hn h=>⟨h.1,ih () Q E p _ (by simpa[hz] using hn) h.2⟩
  | loadIfAlive a k ih=>exact fun Q E p s hn h=>ih _ Q E p s hn h
  | point _ k ih=>exact fun Q E p s hn h=>ih () Q E p s hn h
  | alloc o k ih=>exact fun Q E p s hn h=>ih _ Q E p _ (by simp only[hz,Heap.size_push] at *; exact(qW hn)) h
  | fresh k ih=>exact fun Q E p s hn h=>ih _ Q E p _ hn h
  | ask k ih=>exact fun Q E p s hn h=>ih _ Q E p s hn h
  | choose src m k ih=>exact fun Q E p s hn h=>⟨h.1,ih _ Q E p _ hn h.2⟩
  | os q _ k ih=>exact fun Q E p s hn h=>ih _ Q E p _ hn h
  | call c hd _ _ k ih=>exact fun Q E p s hn ⟨r,s',hr,h⟩=>⟨r,s',hr,ih r Q E p s' (qB hn (aH hr)) h⟩
  | handled own k ih=>exact fun Q E p s hn h=>ih _ Q E p s hn h
  | genState g k ih=>exact fun Q E p s hn ⟨st,hs,h⟩=>⟨st,hs,ih _ Q E p s hn h⟩
  | newGen c k ih=>exact fun Q E p s hn h=>ih _ Q E p _ hn h
  | resume g r _ k ih=>exact fun Q E p s hn ⟨res,s',hw,h⟩=>⟨res,s',hw,ih res Q E p s' (qB hn (K6 hw)) h⟩
  | stack k ih=>exact fun Q E p s hn h=>ih _ Q E p s hn h
  | thread k ih=>exact fun Q E p s hn h=>ih _ Q E p s hn h
theorem wD {α:Type}{M:Model}{A:Around}{s:Shared}{t:Sem α}{Q:α→Shared→Prop}{E:Value→Shared→Prop}
    (h:wpAny M A t (fun a s'=>hz s≤hz s'→s.toks≤s'.toks→Q a s') (fun e s'=>hz s≤hz s'→s.toks≤s'.toks→E e s') s):wpAny M A t Q E s :=
  wpAny_with_toks (qH _) (fun Γ p hΓ=>
    vO M Γ t (post:=fun a Z s'=>hz s≤hz s'∧(hz s≤hz s'→s.toks≤s'.toks→Q a s')) (exc:=fun a Z s'=>hz s≤hz s'∧(hz s≤hz s'→s.toks≤s'.toks→E a s'))
      (fun a p' s' x=>x.2 x.1) (fun a p' s' x=>x.2 x.1) p s (FO M Γ (hz s) t _ _ p s (qH _) (h Γ p hΓ)))
end Mine
namespace Mine
variable {prog:Program}{w:World}{W:Wd}{k:Nat}{sc:Scope}{fn:Bool}{Γ Γ':xK}
theorem zL {F:Fz}{s:Shared}(b:wC W s F){l n:Nat}{vs:List Value}(h:(l,listOf vs.toArray n)∈F.obs):s.heap.IsList l vs.toArray:=⟨_,b.has _ h,rfl,_,rfl⟩
theorem y4 {F:Fz}{s:Shared}(b:wC W s F){l n:Nat}{vs:List Value}(h:(l,({cls:=.type "tuple",data:=.seq vs.toArray n}:Obj))∈F.obs):s.heap.IsTuple l vs.toArray:=⟨_,b.has _ h,rfl,_,rfl⟩
theorem zX.ext {s:Shared}{F:Fz}{h':Heap}{X:List Nat}(b:wC W s F)(hx:∀c o,c∉X→s.heap.get? c=some o→h'.get? c=some o)(hF:∀c∈X,∀p∈F.obs,p.1≠c)(ha:∀c∈X,¬W.tab c)
    (hz':s.heap.objs.size≤h'.objs.size):zX W X s {s with heap:=h'} F F where
  keep:=fun c o Z hc e=>hx c o hc e
  has:=fun p hp=>hx _ _ (fun q=>hF _ q p hp rfl) (b.has p hp)
  sub:=.rfl
  new:=fun Z h=>.inl h
  tok:=b.tok
  toks:=qH _
  size:=hz'
  os:=rfl
  gens:=.rfl
  tabs:=b.tabs.keeps fun c o hc e=>hx c o (fun q=>ha c q hc) e
theorem KJ {s:Shared}{F:Fz}{h':Heap}{it:Nat}{o:Obj}(b:wC W s F)(held:n9 W [(it,o)] s F)(he:Heap.ExtBut it s.heap h')(h1:s.heap.objs.size≤h'.objs.size) :
    zX W ([(it,o)].map (·.1)) s {s with heap:=h'} F F :=
  zX.ext b (fun c o hc=>he c o (by simpa using hc)) (fun c hc p hp=>by simp at hc;subst hc;exact held.off _ (.head _) p hp) (fun c hc=>by simp at hc;subst hc;exact held.tab _ (.head _)) h1
noncomputable def w5:Expr→Bool
  | .Name ..=>true
  | _=>false
theorem pA {tgt:Expr}(h:w5 tgt=true)(it v:Value):letOwnedTupleGo tgt it v=pure ():=by
  cases tgt<;>first | rfl | cases h
theorem W8 {tgt:Expr}(ht:w5 tgt=true){l n it:Nat}{vs:List Value}{ds:List Dat}(hne:it≠l) :
    ∀(r:List Dat) (i:Nat) (F:Fz) (o:Obj),ds.drop i=r→(l,listOf vs.toArray n)∈F.obs→xV F vs ds→o.cls=.type "list_iterator"→o.data=.fields #[.ref l,.int i 0] →
      uO prog w W k tgt (.ref it) (r.map V.dat) F [(it,o)]:=by
  intro r
  induction r with
  | nil =>
    intro i F o hr hl hv hc hd s F₁ A Q E b hF held rm q;have hx:vs.toArray[i]?=none:=by
      have:=hv.length;rw[List.drop_eq_nil_iff] at hr;simp;exact(qB (qL this) hr)
    refine wD (nZ rm.handled ⟨o,held.has _ (.head _),hc,hd⟩ (zL b (hF.obs _ hl)) hx fun h' he h1 h2=>?_);refine q _ F₁ (KJ b held he h1)
  | cons d r ih =>
    intro i F o hr hl hv hc hd s F₁ A Q E b hF held rm q;have hd':ds[i]?=some d:=by
      have:=congrArg List.head? hr;simpa[List.head?_drop] using this
    obtain⟨v,hv1,hv2⟩:=hv.get hd';refine vY ⟨o,held.has _ (.head _),hc,hd⟩ (zL b (hF.obs _ hl)) (x:=v) (by simpa using hv1) fun h' hit hs=>?_;refine x7 (pA ht _ _) ?_;obtain⟨o',ho',hc',hd''⟩:=hit;refine q v _ F₁ [(it,o')] (zX.same (t:=s.toks) b hs (held.off _ (.head _)) (held.tab _ (.head _)) (qH _)) rfl (fun p hp=>by cases qF hp;exact ho') (hv2.mono hF) ?_;exact ih (i+1) F₁ o' (by simp only[← List.drop_drop,hr];rfl) (hF.obs _ hl) (hv.mono hF) hc' hd''
theorem cZ {tgt e:Expr}{ds:List Dat}(he:Ev prog w W k sc fn Γ e (.dat (.list ds)))(ht:w5 tgt=true):wR prog w W k sc fn Γ tgt e (ds.map V.dat):=fun fr P s F hsc st A Q E rm q=>
  he fr P s F hsc st A _ E rm fun v s₁ F₁ g₁ hv=>by
    refine xQ.eList hv fun Z Z Z hm hr=>?_;have b:=(st.step g₁).base;refine bY (zL b hm) (q _ _ F₁ [(s₁.heap.objs.size,_)] (g₁.trans (q0.pushed b _ (qH _))) (fun p hp=>?_) (W8 ht (xE (qJ (b.has _ hm))) ds 0 F₁ {cls:=.type "list_iterator",data:=.fields #[.ref _,.int 0 0]} rfl hm hr rfl rfl) (fun Z Z Z Z h hq=>wpAny_pyIter_listiter (i:=0) ⟨_,h _ (.head _),rfl,rfl⟩ hq));cases qF hp;exact⟨Heap.get?_push_size _ rfl,g₁.size,fun r hr e=>absurd (qJ (b.has r hr)) (by rw[e];exact zK _)⟩
theorem Q9 {tgt:Expr}(ht:w5 tgt=true){l n it:Nat}{vs:List Value}{ds:List Dat}(hne:it≠l) :
    ∀(r:List Dat) (i:Nat) (F:Fz) (o:Obj),ds.drop i=r→(l,({cls:=.type "tuple",data:=.seq vs.toArray n}:Obj))∈F.obs→xV F vs ds→o.cls=.type "tuple_iterator"→o.data=.fields #[.ref l,.int i 0] →
      uO prog w W k tgt (.ref it) (r.map V.dat) F [(it,o)]:=by
  intro r
  induction r with
  | nil =>
    intro i F o hr hl hv hc hd s F₁ A Q E b hF held rm q;have hx:vs.toArray[i]?=none:=by
      have:=hv.length;rw[List.drop_eq_nil_iff] at hr;simp;exact(qB (qL this) hr)
    refine wD (wpAny_pyNext_tuple_end rm.handled ⟨o,held.has _ (.head _),hc,hd⟩ (y4 b (hF.obs _ hl)) hx fun h' he h1 h2=>?_);refine q _ F₁ (KJ b held he h1)
  | cons d r ih =>
    intro i F o hr hl hv hc hd s F₁ A Q E b hF held rm q;have hd':ds[i]?=some d:=by
      have:=congrArg List.head? hr;simpa[List.head?_drop] using this
    obtain⟨v,hv1,hv2⟩:=hv.get hd';refine wpAny_pyNext_tuple_item ⟨o,held.has _ (.head _),hc,hd⟩ (y4 b (hF.obs _ hl)) (x:=v) (by simpa using hv1) fun h' hit hs=>?_;refine x7 (pA ht _ _) ?_;obtain⟨o',ho',hc',hd''⟩:=hit;refine q v _ F₁ [(it,o')] (zX.same (t:=s.toks) b hs (held.off _ (.head _)) (held.tab _ (.head _)) (qH _)) rfl (fun p hp=>by cases qF hp;exact ho') (hv2.mono hF) ?_;exact ih (i+1) F₁ o' (by simp only[← List.drop_drop,hr];rfl) (hF.obs _ hl) (hv.mono hF) hc' hd''
theorem lM {tgt e:Expr}{ds:List Dat}(he:Ev prog w W k sc fn Γ e (.dat (.tuple ds)))(ht:w5 tgt=true):wR prog w W k sc fn Γ tgt e (ds.map V.dat):=fun fr P s F hsc st A Q E rm q=>
  he fr P s F hsc st A _ E rm fun v s₁ F₁ g₁ hv=>by
    refine xQ.eTuple hv fun Z Z Z hm hr=>?_;have b:=(st.step g₁).base;refine wpAny_pyIter_tuple (y4 b hm) (q _ _ F₁ [(s₁.heap.objs.size,_)] (g₁.trans (q0.pushed b _ (qH _))) (fun p hp=>?_) (Q9 ht (xE (qJ (b.has _ hm))) ds 0 F₁ {cls:=.type "tuple_iterator",data:=.fields #[.ref _,.int 0 0]} rfl hm hr rfl rfl) (fun Z Z Z Z h hq=>wpAny_pyIter_tupleiter (i:=0) ⟨_,h _ (.head _),rfl,rfl⟩ hq));cases qF hp;exact⟨Heap.get?_push_size _ rfl,g₁.size,fun r hr e=>absurd (qJ (b.has r hr)) (by rw[e];exact zK _)⟩
noncomputable def oS (c:Nat):Dat:=.str ⟨#[c]⟩
theorem YH {tgt:Expr}(ht:w5 tgt=true){it:Nat}{x:Str}{t:Nat} :
    ∀(r:List Nat) (i:Nat) (F:Fz) (o:Obj),x.cps.toList.drop i=r→o.cls=.type "str_ascii_iterator"→o.data=.fields #[.str x t,.int i 0] →
      uO prog w W k tgt (.ref it) (r.map fun c=>V.dat (oS c)) F [(it,o)]:=by
  intro r
  induction r with
  | nil =>
    intro i F o hr hc hd s F₁ A Q E b hF held rm q;have hx:x.cps[i]?=none:=by
      rw[List.drop_eq_nil_iff] at hr;simp at hr ⊢; omega
    refine wD (wpAny_pyNext_ascii_end rm.handled ⟨o,held.has _ (.head _),hc,hd⟩ hx fun h' he h1 h2=>?_);refine q _ F₁ (KJ b held he h1)
  | cons d r ih =>
    intro i F o hr hc hd s F₁ A Q E b hF held rm q;have hd':x.cps[i]?=some d:=by
      have:=congrArg List.head? hr;simpa[List.head?_drop] using this
    refine wpAny_pyNext_ascii_item ⟨o,held.has _ (.head _),hc,hd⟩ hd' fun h' hit hs=>?_;refine x7 (pA ht _ _) ?_;obtain⟨o',ho',hc',hd''⟩:=hit;refine q _ _ _ [(it,o')] ((zX.same (t:=s.toks) b hs (held.off _ (.head _)) (held.tab _ (.head _)) (qH _)).tk (oS d)) rfl (fun p hp=>by cases qF hp;exact ho') xQ.tk_str ?_;exact ih (i+1) _ o' (by simp only[← List.drop_drop,hr];rfl) hc' hd''
theorem Z1 {tgt e:Expr}{x:Str}(he:Ev prog w W k sc fn Γ e (.dat (.str x)))(ht:w5 tgt=true)(ha:x.cps.all (·<128)=true):wR prog w W k sc fn Γ tgt e (x.cps.toList.map fun c=>V.dat (oS c)):=fun fr P s F hsc st A Q E rm q=>
  he fr P s F hsc st A _ E rm fun v s₁ F₁ g₁ hv=>by
    refine xQ.eStr hv fun t₀ hm=>?_;have b:=(st.step g₁).base;refine wpAny_pyIter_ascii ha (q _ _ F₁ [(s₁.heap.objs.size,_)] (g₁.trans (q0.pushed b _ (qH _))) (fun p hp=>?_) (YH ht x.cps.toList 0 F₁ {cls:=.type "str_ascii_iterator",data:=.fields #[.str x t₀,.int 0 0]} rfl rfl rfl) (fun Z Z Z Z h hq=>wpAny_pyIter_striter_ascii (i:=0) ⟨_,h _ (.head _),rfl,rfl⟩ hq));cases qF hp;exact⟨Heap.get?_push_size _ rfl,g₁.size,fun r hr e=>absurd (qJ (b.has r hr)) (by rw[e];exact zK _)⟩
theorem XB {tgt:Expr}(ht:w5 tgt=true){it:Nat}{x:Array UInt8}{t:Nat} :
    ∀(r:List UInt8) (i:Nat) (F:Fz) (o:Obj),x.toList.drop i=r→o.cls=.type "bytes_iterator"→o.data=.fields #[.bytes x t,.int i 0] →
      uO prog w W k tgt (.ref it) (r.map fun c=>V.dat (.int (c.toNat:Int))) F [(it,o)]:=by
  intro r
  induction r with
  | nil =>
    intro i F o hr hc hd s F₁ A Q E b hF held rm q;have hx:x[i]?=none:=by
      rw[List.drop_eq_nil_iff] at hr;simp at hr ⊢; omega
    refine wD (KBw.next_end rm.handled ⟨o,held.has _ (.head _),hc,hd⟩ hx fun h' he h1 h2=>?_);exact q _ F₁ (KJ b held he h1)
  | cons d r ih =>
    intro i F o hr hc hd s F₁ A Q E b hF held rm q;have hd':x[i]?=some d:=by
      have:=congrArg List.head? hr;simpa[List.head?_drop] using this
    refine KBw.next_item ⟨o,held.has _ (.head _),hc,hd⟩ hd' fun h' hit hs=>?_;refine x7 (pA ht _ _) ?_;obtain⟨o',ho',hc',hd''⟩:=hit;refine q _ _ _ [(it,o')] ((zX.same (t:=s.toks) b hs (held.off _ (.head _)) (held.tab _ (.head _)) (qH _)).tk (.int (d.toNat:Int))) rfl (fun p hp=>by cases qF hp;exact ho') xQ.tk_int ?_;exact ih (i+1) _ o' (by simp only[← List.drop_drop,hr];rfl) hc' hd''
theorem KN {tgt e:Expr}{x:Array UInt8}(he:Ev prog w W k sc fn Γ e (.dat (.bytes x)))(ht:w5 tgt=true):wR prog w W k sc fn Γ tgt e (x.toList.map fun c=>V.dat (.int (c.toNat:Int))):=fun fr P s F hsc st A Q E rm q=>
  he fr P s F hsc st A _ E rm fun v s₁ F₁ g₁ hv=>by
    refine xQ.eBytes hv fun t₀=>?_;have b:=(st.step g₁).base;refine KBw.pyIter_bytes (q _ _ F₁ [(s₁.heap.objs.size,_)] (g₁.trans (q0.pushed b _ (qH _))) (fun p hp=>?_) (XB ht x.toList 0 F₁ {cls:=.type "bytes_iterator",data:=.fields #[.bytes x t₀,.int 0 0]} rfl rfl rfl) (fun Z Z Z Z h hq=>KBw.pyIter_self (i:=0) ⟨_,h _ (.head _),rfl,rfl⟩ hq));cases qF hp;exact⟨Heap.get?_push_size _ rfl,g₁.size,fun r hr e=>absurd (qJ (b.has r hr)) (by rw[e];exact zK _)⟩
noncomputable def zY (a c:Int):Nat→List Int
  | 0=>[]
  | n+1=>a::zY (a+c) c n
noncomputable abbrev rIt (a c:Int)(n:Nat):Obj:={cls:=.type "range_iterator",dict:=none,data:=.fields #[rawInt a,rawInt n,rawInt c],slots:=#[]}
theorem XA {tgt:Expr}(ht:w5 tgt=true){it:Nat}{c:Int} :
    ∀(n:Nat) (a:Int) (F:Fz),uO prog w W k tgt (.ref it) ((zY a c n).map fun i=>V.dat (.int i)) F [(it,rIt a c n)]:=by
  intro n
  induction n with
  | zero =>
    intro a F s F₁ A Q E b hF held rm q;refine wD (wpAny_pyNext_range_end rm.handled (held.has _ (.head _)) (WF _) fun h' he h1 h2=>?_);exact q _ F₁ (KJ b held he h1)
  | succ n ih =>
    intro a F s F₁ A Q E b hF held rm q;refine wpAny_pyNext_range_item (held.has _ (.head _)) (by exact(WH (uY _))) fun h' hit hs=>?_;refine x7 (pA ht _ _) ?_;rw[(by exact(dB rfl):((n+1:Nat):Int)-1=(n:Nat))] at hit;exact q _ _ _ [(it,rIt (a+c) c n)] ((zX.same (t:=s.toks) b hs (held.off _ (.head _)) (held.tab _ (.head _)) (qH _)).tk (.int a)) rfl (fun p hp=>by cases qF hp;exact hit) xQ.tk_int (ih (a+c) _)
theorem v9 {tgt:Expr}(ht:w5 tgt=true){s:Shared}{F:Fz}(b:wC W s F){r n:Nat}{a c d:Int}{t u v:Nat}(hr:IsRange s.heap r a c d t u v)(hs:Builtin.Range.small a c d=true)
    (hn:Builtin.Range.rangeSize a c d=(n:Int)){A:Around}{Q:Value→Shared→Prop}{E:Value→Shared→Prop}(rm:zZ k A)
    (q:∀it s' F' (N:yW),q0 W s s' F F'→(∀p∈N,s'.heap.get? p.1=some p.2∧s.heap.objs.size≤p.1∧∀q∈F'.obs,q.1≠p.1)→uO prog w W k tgt it ((zY a d n).map fun i=>V.dat (.int i)) F' N→V2 prog w it N→Q it s') :
    wpAny (model prog w) A (pyIter (.ref r)) Q E s:=by
  refine wpAny_pyIter_range hr hs ?_;rw[hn];refine q _ _ F [(s.heap.objs.size,rIt a d n)] (q0.pushed b _ (qH _)) (fun p hp=>?_) (XA ht _ _ _) (fun Z Z Z Z h hq=>wpAny_pyIter_rangeiter (h _ (.head _)) hq);cases qF hp;exact⟨Heap.get?_push_size _ rfl,qH _,fun r hr e=>absurd (qJ (b.has r hr)) (by rw[e];exact zK _)⟩
theorem jB {y:Str}{es:List Expr}{xs:List V}{p pos:Pos}{f:Value}{fr:p4}{P:yW}{s:Shared}{F:Fz}{A:Around}{Q:Value→Shared→Prop}{E:Value→Shared→Prop}
    (hk:sc.names.lookup y=some .globalImplicit)(hg:W.mg y=none)(hb:bootBuiltins y=some f)(hn:y≠"__name__")(hbt:(∃id,f=.builtin id) ∨ ∃T,f=.type T)
    (ha:sY prog w W k sc fn Γ es xs)(hs:∀env,(starEach es env).any (·.1)=false)(hd:(y==("__debug__":Str))=false)(hsc:fr.env.scope=sc)(st:St prog w W fr fn Γ P s F)(rm:zZ k A)
    (q:∀vs s' F',q0 W s s' F F'→w8 prog w F' vs xs→wpAny (model prog w) A (PySem.call f vs) Q E s'):wpAny (model prog w) A (eval (.Call (.Name y p) es [] pos) fr.env) Q E s:=by
  rw[(rfl:eval (.Call (.Name y p) es [] pos) fr.env=(do callWith pos (← eval (.Name y p) fr.env) [] (backTo pos (starEach es fr.env)) []))];refine qC (wN st (hsc▸hk) hg hb hn ?_ hd);have hplain:(backTo pos (starEach es fr.env)).any (·.1)=false:=by
    have:=hs fr.env;unfold backTo;rw[List.any_map];exact this
  have go:wpAny (model prog w) A (evalArgs f true (backTo pos (starEach es fr.env)) []) (fun a s₁=>wpAny (model prog w) A (call f ([]++a.pos) a.kw) Q E s₁) E s :=
    kC ha hsc st rm hs fun vs s₂ F₂ g₂ hv=>q vs s₂ F₂ g₂ hv
  rcases hbt with⟨id,rfl⟩ | ⟨T,rfl⟩
  · exact callWith_builtin hplain go
  · exact wZ hplain go
structure kZ (W:Wd)(sc:Scope)(y:Str)(f:Value):Prop where
  kind:sc.names.lookup y=some .globalImplicit
  glob:W.mg y=none
  boot:bootBuiltins y=some f
  nn:y≠"__name__"
  nd:(y==("__debug__":Str))=false
  call:(∃id,f=.builtin id) ∨ ∃T,f=.type T
theorem y8 (a c:Int):Builtin.Range.rangeSize a c 1=((c-a).toNat:Int):=by rw[rangeSize_one];split<;>grind
theorem n9.more {N:yW}{s s':Shared}{F':Fz}(hN:∀p∈N,s'.heap.get? p.1=some p.2∧s.heap.objs.size≤p.1∧∀q∈F'.obs,q.1≠p.1){n:Nat}(h:n≤s.heap.objs.size) :
    ∀p∈N,s'.heap.get? p.1=some p.2∧n≤p.1∧∀q∈F'.obs,q.1≠p.1:=fun p hp=>⟨(hN p hp).1,qB h (hN p hp).2.1,(hN p hp).2.2⟩
theorem JF {e:Expr}(hs:∀env,starEach [e] env=[(false,eval e env)]):∀env,(starEach [e] env).any (·.1)=false:=fun env=>by rw[hs];rfl
theorem cY {tgt e:Expr}{y:Str}{p pos:Pos}{n:Int}(hB:kZ W sc y (.type "range"))
    (he:Ev prog w W k sc fn Γ e (.dat (.int n)))(ht:w5 tgt=true)(hn:autoParam (n<2^62) au2)(hn0:autoParam (-(2^62)≤n) au2)(hs:autoParam (∀env,starEach [e] env=[(false,eval e env)]) au1) :
    wR prog w W k sc fn Γ tgt (.Call (.Name y p) [e] [] pos) ((zY 0 1 n.toNat).map fun i=>V.dat (.int i)):=fun fr P s F hsc st A Q E rm q=>by
  refine jB hB.kind hB.glob hB.boot hB.nn hB.call (qE he qN (fun env=>by rw[hs];rfl)) (JF hs) hB.nd hsc st rm fun vs s₁ F₁ g₁ hv=>?_;refine hv.e1 fun Z h1=>?_;refine xQ.eInt h1 fun t₀ hm=>?_;have b:=(st.step g₁).base;refine call_range_1 ?_;have g₂:q0 W s₁ {s₁ with heap:=s₁.heap.push {cls:=.type "range",data:=.fields #[.int 0 s₁.toks,.int n t₀,.int 1 (s₁.toks+1)]},toks:=s₁.toks+1+1} F₁ F₁:=q0.pushed b _ (by exact(qW (qR _ _)));refine v9 ht (b.grow g₂) (IsRange.new _ _ _ _ _ _ _) (small_one (by decide) (by decide) hn0 hn) (n:=n.toNat) (by rw[y8];simp) rm fun it s' F' N g₃ hN hI hS=>?_;exact q it s' F' N ((g₁.trans g₂).trans g₃) (n9.more hN (g₁.trans g₂).size) hI hS
theorem ZX {e e':Expr}{x x':V}(he:Ev prog w W k sc fn Γ e x)(he':Ev prog w W k sc fn Γ e' x')(hs:∀env,starEach [e,e'] env=[(false,eval e env),(false,eval e' env)])(hs':∀env,starEach [e'] env=[(false,eval e' env)]) :
    sY prog w W k sc fn Γ [e,e'] [x,x']:=qE he (qE he' qN (fun env=>by rw[hs'];rfl)) (fun env=>by rw[hs,hs'])
theorem XR {tgt e e':Expr}{y:Str}{p pos:Pos}{a n:Int}(hB:kZ W sc y (.type "range"))
    (he:Ev prog w W k sc fn Γ e (.dat (.int a)))(he':Ev prog w W k sc fn Γ e' (.dat (.int n)))(ht:w5 tgt=true)(ha:autoParam (a<2^62) au2)(ha0:autoParam (-(2^62)≤a) au2)(hn:autoParam (n<2^62) au2)(hn0:autoParam (-(2^62)≤n) au2)
    (hs:autoParam (∀env,starEach [e,e'] env=[(false,eval e env),(false,eval e' env)]) au1)(hs':autoParam (∀env,starEach [e'] env=[(false,eval e' env)]) au1) :
    wR prog w W k sc fn Γ tgt (.Call (.Name y p) [e,e'] [] pos) ((zY a 1 (n-a).toNat).map fun i=>V.dat (.int i)):=fun fr P s F hsc st A Q E rm q=>by
  refine jB hB.kind hB.glob hB.boot hB.nn hB.call (ZX he he' hs hs') (fun env=>by rw[hs];rfl) hB.nd hsc st rm fun vs s₁ F₁ g₁ hv=>?_;refine hv.e2 fun Z Z h1 h2=>?_;refine xQ.eInt h1 fun t₀ hm=>?_;refine xQ.eInt h2 fun t₁ hm'=>?_;have b:=(st.step g₁).base;refine call_range_2 ?_;have g₂:=q0.pushed b {cls:=.type "range",data:=.fields #[.int a t₀,.int n t₁,.int 1 s₁.toks]} (t:=s₁.toks+1) (by exact(qR _ _));refine v9 ht (b.grow g₂) (IsRange.new _ _ _ _ _ _ _) (small_one ha0 ha hn0 hn) (y8 _ _) rm fun it s' F' N g₃ hN hI hS=>?_;exact q it s' F' N ((g₁.trans g₂).trans g₃) (n9.more hN (g₁.trans g₂).size) hI hS
noncomputable def uT (i:Nat):List Dat→List Dat
  | []=>[]
  | d::r=>.tuple [.int i,d]::uT (i+1) r
noncomputable abbrev KO (it:Nat)(i:Int)(old:Value):Obj:={cls:=.type "enumerate",dict:=none,data:=.fields #[.none,.bool false,.ref it,rawInt i,.none,old],slots:=#[]}
theorem W9 {elts:List Expr}{x1:Nat}{tp:Pos}{e it l n:Nat}{vs:List Value}{ds:List Dat}(hei:e≠it)(hle:l≠e)(hli:l≠it) :
    ∀(r:List Dat) (i:Nat) (F:Fz) (o:Obj) (old:Value),ds.drop i=r→(l,listOf vs.toArray n)∈F.obs→xV F vs ds→o.cls=.type "list_iterator"→o.data=.fields #[.ref l,.int i 0] →
      uO prog w W k (.Tuple elts x1 tp) (.ref e) ((uT i r).map V.dat) F [(e,KO it i old),(it,o)]:=by
  intro r
  induction r with
  | nil =>
    intro i F o old hr hl hv hc hd s F₁ A Q E b hF held rm q;have hx:vs.toArray[i]?=none:=by
      have:=hv.length;rw[List.drop_eq_nil_iff] at hr;simp;exact(qB (qL this) hr)
    refine wD (wpAny_pyNext_enum_end rm.handled (held.has _ (.head _)) ⟨o,(held.has _ (.tail _ (.head _))),hc,hd⟩ (zL b (hF.obs _ hl)) hx fun h' he h1 h2=>?_);refine q _ F₁ (zX.ext b (fun c o hc=>he c o (fun q=>hc (by simp[q]))) (fun c hc p hp=>?_) (fun c hc=>?_) h1)
    · simp at hc;rcases hc with rfl | rfl
      · exact held.off _ (.head _) p hp
      · exact held.off _ (.tail _ (.head _)) p hp
    · simp at hc;rcases hc with rfl | rfl
      · exact held.tab _ (.head _)
      · exact held.tab _ (.tail _ (.head _))
  | cons d r ih =>
    intro i F o old hr hl hv hc hd s F₁ A Q E b hF held rm q;have hd':ds[i]?=some d:=by
      have:=congrArg List.head? hr;simpa[List.head?_drop] using this
    obtain⟨v,hv1,hv2⟩:=hv.get hd';have he:=held.has _ (.head _);refine wpAny_pyNext_enum_item he ⟨o,(held.has _ (.tail _ (.head _))),hc,hd⟩ (zL b (hF.obs _ hl)) (x:=v) (by simpa using hv1) hei fun h' h1 h2 h3 h4 h5=>?_;refine wpAny_letOwnedTupleGo_enum h1 fun h'' h6 hs=>?_;refine zS fun nG=>?_;obtain⟨o',ho',hc',hd''⟩:=h2;have T:=h3;have hTe:s.heap.objs.size≠e:=xE (qJ he);have T':h''.get? s.heap.objs.size=some {cls:=.type "tuple",data:=.seq #[.int i s.toks,v]}:=(hs.2 _ hTe).trans h3;refine nG ?_;have keep:∀a o,a∉[(e,KO it i old),(it,o)].map (·.1)→s.heap.get? a=some o→h''.get? a=some o:=fun a o ha q=>by
      simp at ha;exact(hs.2 _ ha.1).trans (h5 _ _ ha.1 ha.2 q)
    let F₂:Fz:=(F₁.tk s.toks (.int i)).ob s.heap.objs.size {cls:=.type "tuple",data:=.seq [Value.int i s.toks,v].toArray};have hle2:F₁.le F₂:=(F₁.le_tk _ _).trans (Fz.le_ob _ _ _);have off:∀p∈F₁.obs,p.1∉[(e,KO it i old),(it,o)].map (·.1):=fun p hp q=>by
      simp at q;rcases q with q | q
      · exact held.off _ (.head _) p hp q
      · exact held.off _ (.tail _ (.head _)) p hp q
    have g:zX W ([(e,KO it i old),(it,o)].map (·.1)) s {s with heap:=h'',toks:=s.toks+1} F₁ F₂:=by
      refine⟨fun a o Z ha q=>keep a o ha q,fun p hp=>?_,hle2,fun p hp=>?_,b.tok.cons (qH _) (wE _),xI _,?_,rfl,.rfl,?_⟩
      · rcases qG hp with rfl | hp
        · exact T'
        · exact keep _ _ (off p hp) (b.has p hp)
      · rcases qG hp with rfl | hp
        · exact .inr (qH _)
        · exact .inl hp
      · show _≤h''.objs.size;simp only[hs.1,h4];exact(qR _ _)
      · refine(b.tabs.keeps fun a o ha q=>keep a o (fun m=>?_) q).mono hle2;simp at m;rcases m with rfl | rfl
        · exact held.tab _ (.head _) ha
        · exact held.tab _ (.tail _ (.head _)) ha
    refine q _ _ F₂ [(e,KO it ((i:Int)+1) v),(it,o')] g rfl (fun p hp=>?_) (.tuple (.head _) (.cons (.int (.head _)) (.cons (hv2.mono (hF.trans hle2)) .nil))) ?_
    · rcases qG hp with rfl | hp
      · exact h6
      · cases qF hp;exact(hs.2 _ (xW hei)).trans ho'
    · exact ih (i+1) F₂ o' v (by simp only[← List.drop_drop,hr];rfl) ((hF.trans hle2).obs _ hl) (hv.mono (hF.trans hle2)) hc' hd''
theorem c8 {e:Expr}{elts:List Expr}{x1:Nat}{tp:Pos}{y:Str}{p pos:Pos}{ds:List Dat}(hB:kZ W sc y (.type "enumerate"))
    (he:Ev prog w W k sc fn Γ e (.dat (.list ds)))(hs:autoParam (∀env,starEach [e] env=[(false,eval e env)]) au1) :
    wR prog w W k sc fn Γ (.Tuple elts x1 tp) (.Call (.Name y p) [e] [] pos) ((uT 0 ds).map V.dat):=fun fr P s F hsc st A Q E rm q=>by
  refine jB hB.kind hB.glob hB.boot hB.nn hB.call (qE he qN (fun env=>by rw[hs];rfl)) (JF hs) hB.nd hsc st rm fun vs s₁ F₁ g₁ hv=>?_;refine hv.e1 fun Z h1=>?_;refine xQ.eList h1 fun Z Z Z hm hr=>?_;have b:=(st.step g₁).base;have hlt:=qJ (b.has _ hm);refine call_enumerate_1 (b.has _ hm) fun h' h1 h2 h3 h4=>wpAny_pyIter_enum h1 ?_;refine zS fun nG=>?_;obtain⟨o,ho,hc,hd⟩:=h2;have g:q0 W s₁ {s₁ with heap:=h'} F₁ F₁:=q0.of_keeps [] b h4 (fun Z h=>nomatch h) (by show _≤h'.objs.size;simp only[h3];exact(qR _ _)) (qH _) rfl .rfl;refine nG ?_;refine q _ _ F₁ [(s₁.heap.objs.size+1,KO s₁.heap.objs.size ((0:Nat):Int) .none),(s₁.heap.objs.size,o)] (g₁.trans g) (fun p hp=>?_) (W9 (by exact(xE (qO (qH _)))) (qM (yL hlt)) (qM hlt) ds 0 F₁ o .none rfl hm hr hc hd) (fun Z Z Z Z h hq=>wpAny_pyIter_enum (h _ (.head _)) hq);have off:∀n,s₁.heap.objs.size≤n→∀r∈F₁.obs,r.1≠n:=fun n hn r hr e=>absurd (qJ (b.has r hr)) (by rw[e];exact xB hn);rcases qG hp with rfl | hp
  · exact⟨h1,qW g₁.size,off _ (xI _)⟩
  · cases qF hp;exact⟨ho,g₁.size,off _ (qH _)⟩
end Mine
namespace Mine
variable {prog:Program}{w:World}{W:Wd}{k:Nat}{sc:Scope}{fn:Bool}{Γ Γ':xK}
noncomputable def GD:List Dat→List Dat→List Dat
  | d::r,d'::r'=>.tuple [d,d']::GD r r'
  | _,_=>[]
noncomputable abbrev QD (TI TO:Nat):Obj:={cls:=.type "zip",dict:=none,data:=.fields #[.none,.bool false,.bool false,.ref TI,.ref TO],slots:=#[]}
noncomputable abbrev fS (a b:Value):Obj:={cls:=.type "tuple",data:=.seq #[a,b]}
theorem YG {elts:List Expr}{x1:Nat}{tp:Pos}{z TI TO i1 i2 l1 l2 n1 n2:Nat}{vs1 vs2:List Value}{ds1 ds2:List Dat}(D:ZipApart z TI TO i1 i2 l1 l2) :
    ∀(r1 r2:List Dat) (j1 j2:Nat) (F:Fz) (o1 o2:Obj) (a b:Value),ds1.drop j1=r1→ds2.drop j2=r2→(l1,listOf vs1.toArray n1)∈F.obs→(l2,listOf vs2.toArray n2)∈F.obs→xV F vs1 ds1→xV F vs2 ds2 →
      o1.cls=.type "list_iterator"→o1.data=.fields #[.ref l1,.int j1 0]→o2.cls=.type "list_iterator"→o2.data=.fields #[.ref l2,.int j2 0] →
      uO prog w W k (.Tuple elts x1 tp) (.ref z) ((GD r1 r2).map V.dat) F [(z,QD TI TO),(TO,fS a b),(i1,o1),(i2,o2),(TI,fS (.ref i1) (.ref i2))]:=by
  intro r1
  have fin:∀(j1 j2:Nat) (F:Fz) (o1 o2:Obj) (a b:Value),((ds1.drop j1)=[] ∨ (ds2.drop j2)=[])→(l1,listOf vs1.toArray n1)∈F.obs→(l2,listOf vs2.toArray n2)∈F.obs→xV F vs1 ds1→xV F vs2 ds2 →
      o1.cls=.type "list_iterator"→o1.data=.fields #[.ref l1,.int j1 0]→o2.cls=.type "list_iterator"→o2.data=.fields #[.ref l2,.int j2 0] →
      uO prog w W k (.Tuple elts x1 tp) (.ref z) [] F [(z,QD TI TO),(TO,fS a b),(i1,o1),(i2,o2),(TI,fS (.ref i1) (.ref i2))]:=by
    intro j1 j2 F o1 o2 a b hend hl1 hl2 hv1 hv2 hc1 hd1 hc2 hd2 s F₁ A Q E bs hF held rm q;have hx:vs1.toArray[j1]?=none ∨ vs2.toArray[j2]?=none:=by
      rcases hend with h | h<;>simp only[List.drop_eq_nil_iff] at h
      · left;simp;exact(qB (qL hv1.length) h)
      · right;simp;exact(qB (qL hv2.length) h)
    refine wD (wpAny_pyNext_zip_end rm.handled D (held.has _ (.head _)) (held.has _ (.tail _ (.tail _ (.tail _ (.tail _ (.head _)))))) (held.has _ (.tail _ (.head _))) ⟨o1,(held.has _ (.tail _ (.tail _ (.head _)))),hc1,hd1⟩ ⟨o2,(held.has _ (.tail _ (.tail _ (.tail _ (.head _))))),hc2,hd2⟩ (zL bs (hF.obs _ hl1)) (zL bs (hF.obs _ hl2)) hx fun h' hk g1 g2=>?_);refine q _ F₁ (zX.ext bs (fun c o hc=>?_) (fun c hc p hp=>?_) (fun c hc=>?_) g1)
    · simp at hc;exact hk c o hc.1 hc.2.1 hc.2.2.1 hc.2.2.2.1
    · obtain⟨u,hu,rfl⟩:=qS hc;exact held.off u hu p hp
    · obtain⟨u,hu,rfl⟩:=qS hc;exact held.tab u hu
  induction r1 with
  | nil =>
    intro r2 j1 j2 F o1 o2 a b hr1 hr2 hl1 hl2 hv1 hv2 hc1 hd1 hc2 hd2;exact fin j1 j2 F o1 o2 a b (.inl hr1) hl1 hl2 hv1 hv2 hc1 hd1 hc2 hd2
  | cons d r1 ih =>
    intro r2 j1 j2 F o1 o2 a b hr1 hr2 hl1 hl2 hv1 hv2 hc1 hd1 hc2 hd2;cases r2 with
    | nil=>exact fin j1 j2 F o1 o2 a b (.inr hr2) hl1 hl2 hv1 hv2 hc1 hd1 hc2 hd2
    | cons d' r2 =>
      intro s F₁ A Q E bs hF held rm q;have hd1':ds1[j1]?=some d:=by
        have:=congrArg List.head? hr1;simpa[List.head?_drop] using this
      have hd2':ds2[j2]?=some d':=by
        have:=congrArg List.head? hr2;simpa[List.head?_drop] using this
      refine zS fun nG=>?_;obtain⟨u,hu1,hu2⟩:=hv1.get hd1';obtain⟨v,hw1,hw2⟩:=hv2.get hd2';have hz:=held.has _ (.head _);have hTI:=held.has _ (.tail _ (.tail _ (.tail _ (.tail _ (.head _)))));refine nG ?_;refine wpAny_pyNext_zip_item D hz hTI (held.has _ (.tail _ (.head _))) ⟨o1,(held.has _ (.tail _ (.tail _ (.head _)))),hc1,hd1⟩ ⟨o2,(held.has _ (.tail _ (.tail _ (.tail _ (.head _))))),hc2,hd2⟩ (zL bs (hF.obs _ hl1)) (zL bs (hF.obs _ hl2)) (x:=u) (y:=v) (by simpa using hu1) (by simpa using hw1) fun h' k1 k2 k3 k4 k5 k6 k7=>?_;refine wpAny_letOwnedTupleGo_zip k1 fun h'' k8 hs=>?_;refine zS fun nG=>?_;obtain⟨o1',ho1,hc1',hd1''⟩:=k3;obtain⟨o2',ho2,hc2',hd2''⟩:=k4;have T':h''.get? s.heap.objs.size=some (fS u v):=(hs.2 _ (xE (qJ hz):s.heap.objs.size≠z)).trans k5;refine nG ?_;let N:yW:=[(z,QD TI TO),(TO,fS a b),(i1,o1),(i2,o2),(TI,fS (.ref i1) (.ref i2))];have keep:∀a o,a∉N.map (·.1)→s.heap.get? a=some o→h''.get? a=some o:=fun a o ha q=>by
        simp[N] at ha;exact(hs.2 _ ha.1).trans (k7 _ _ ha.1 ha.2.1 ha.2.2.1 ha.2.2.2.1 q)
      let F₂:Fz:=F₁.ob s.heap.objs.size {cls:=.type "tuple",data:=.seq [u,v].toArray};have hle2:F₁.le F₂:=Fz.le_ob _ _ _;have off:∀p∈F₁.obs,p.1∉N.map (·.1):=fun p hp q=>by
        obtain⟨r,hr,e⟩:=qS q;exact held.off r hr p hp e.symm
      have g:zX W (N.map (·.1)) s {s with heap:=h''} F₁ F₂:=by
        refine⟨fun a o Z ha q=>keep a o ha q,fun p hp=>?_,hle2,fun p hp=>?_,bs.tok,qH _,?_,rfl,.rfl,?_⟩
        · rcases qG hp with rfl | hp
          · exact T'
          · exact keep _ _ (off p hp) (bs.has p hp)
        · rcases qG hp with rfl | hp
          · exact .inr (qH _)
          · exact .inl hp
        · show _≤h''.objs.size;simp only[hs.1,k6];exact(qR _ _)
        · refine(bs.tabs.keeps fun a o ha q=>keep a o (fun m=>?_) q).mono hle2;obtain⟨r,hr,rfl⟩:=qS m;exact held.tab r hr ha
      refine q _ _ F₂ [(z,QD TI TO),(TO,fS u v),(i1,o1'),(i2,o2'),(TI,fS (.ref i1) (.ref i2))] g rfl (fun p hp=>?_) (.tuple (.head _) (.cons (hu2.mono (hF.trans hle2)) (.cons (hw2.mono (hF.trans hle2)) .nil))) ?_
      · have hTIz:TI≠z:=D.TIz;rcases qG hp with rfl | hp
        · exact k8
        rcases qG hp with rfl | hp
        · exact(hs.2 _ D.TOz).trans k2
        rcases qG hp with rfl | hp
        · exact(hs.2 _ D.i1z).trans ho1
        rcases qG hp with rfl | hp
        · exact(hs.2 _ D.i2z).trans ho2
        cases qF hp;exact(hs.2 _ D.TIz).trans (k7 _ _ D.TIz D.TITO D.TIi1 D.TIi2 hTI)
      · exact ih r2 (j1+1) (j2+1) F₂ o1' o2' u v (by simp only[← List.drop_drop,hr1];rfl) (by simp only[← List.drop_drop,hr2];rfl) ((hF.trans hle2).obs _ hl1) ((hF.trans hle2).obs _ hl2) (hv1.mono (hF.trans hle2)) (hv2.mono (hF.trans hle2)) hc1' hd1'' hc2' hd2''
theorem PM {e e':Expr}{elts:List Expr}{x1:Nat}{tp:Pos}{y:Str}{p pos:Pos}{ds ds':List Dat}(hB:kZ W sc y (.type "zip"))
    (he:Ev prog w W k sc fn Γ e (.dat (.list ds)))(he':Ev prog w W k sc fn Γ e' (.dat (.list ds')))
    (hs:autoParam (∀env,starEach [e,e'] env=[(false,eval e env),(false,eval e' env)]) au1)(hs':autoParam (∀env,starEach [e'] env=[(false,eval e' env)]) au1) :
    wR prog w W k sc fn Γ (.Tuple elts x1 tp) (.Call (.Name y p) [e,e'] [] pos) ((GD ds ds').map V.dat):=fun fr P s F hsc st A Q E rm q=>by
  refine jB hB.kind hB.glob hB.boot hB.nn hB.call (ZX he he' hs hs') (fun env=>by rw[hs];rfl) hB.nd hsc st rm fun vs s₁ F₁ g₁ hv=>?_;refine hv.e2 fun Z Z h1 h2=>?_;refine xQ.eList h1 fun a1 vs1 n1 hm hr1=>?_;refine xQ.eList h2 fun a2 vs2 n2 hm' hr2=>?_;have b:=(st.step g₁).base;have hlt1:a1<s₁.heap.objs.size:=qJ (b.has _ hm);have hlt2:a2<s₁.heap.objs.size:=qJ (b.has _ hm');refine call_zip_2 (zL b hm) (zL b hm') fun h' k1 k2 k3 k4 k5 k6 k7=>yY k1 ?_;refine zS fun nG=>?_;obtain⟨o1,ho1,hc1,hd1⟩:=k4;obtain⟨o2,ho2,hc2,hd2⟩:=k5;have g:q0 W s₁ {s₁ with heap:=h'} F₁ F₁:=q0.of_keeps [] b k7 (fun Z h=>nomatch h) (by show _≤h'.objs.size;simp only[k6];exact(qR _ _)) (qH _) rfl .rfl;refine nG ?_;have D:ZipApart (s₁.heap.objs.size+4) (s₁.heap.objs.size+2) (s₁.heap.objs.size+3) s₁.heap.objs.size (s₁.heap.objs.size+1) a1 a2:=by
    have hn:∀{a b:Nat},a≠b→a≠b:=fun h=>h;constructor<;>(refine hn ?_;(first | exact(xE (qO (qR _ _))) | exact(xE (qO (qH _))) | exact(xE (qO (xI _))) | exact(qM (qK hlt1 (qR _ _))) | exact(qM (qK hlt2 (qR _ _))) | exact(qM (qO (qZ (by exact qA rfl) _))) | exact(qM (qO (qR _ _))) | exact(qM (qO (qU hlt1))) | exact(qM (qO (qU hlt2))) | exact(qM (qO (qH _))) | exact(qM (qO (xI _))) | exact(qM hlt1) | exact(qM hlt2)))
  refine q _ _ F₁ [(s₁.heap.objs.size+4,QD _ _),(s₁.heap.objs.size+3,fS .none .none),(s₁.heap.objs.size,o1),(s₁.heap.objs.size+1,o2),(s₁.heap.objs.size+2,fS (.ref s₁.heap.objs.size) (.ref (s₁.heap.objs.size+1)))]
    (g₁.trans g) (fun p hp=>?_) (YG D ds ds' 0 0 F₁ o1 o2 .none .none rfl rfl hm hm' hr1 hr2 hc1 hd1 hc2 hd2) (fun Z Z Z Z h hq=>yY (h _ (.head _)) hq)
  have at':∀(a:Nat) (o:Obj),h'.get? a=some o→s₁.heap.objs.size≤a→h'.get? a=some o∧s.heap.objs.size≤a∧∀q∈F₁.obs,q.1≠a:=fun a o h1 h2=>⟨h1,qB g₁.size h2,(fun n hn r hr e=>absurd (qJ (b.has r hr)) (by rw[e];exact xB hn):∀n,s₁.heap.objs.size≤n→∀r∈F₁.obs,r.1≠n) _ h2⟩;rcases qG hp with rfl | hp
  · exact at' _ _ k1 (by exact(qR _ _))
  rcases qG hp with rfl | hp
  · exact at' _ _ k3 (by exact(qR _ _))
  rcases qG hp with rfl | hp
  · exact at' _ _ ho1 (by exact(qH _))
  rcases qG hp with rfl | hp
  · exact at' _ _ ho2 (by exact(qR _ _))
  cases qF hp;exact at' _ _ k2 (by exact(qR _ _))
theorem YI {tgt:Expr}(ht:w5 tgt=true){l n it:Nat}{vs:List Value}{ds:List Dat}(hne:it≠l) :
    ∀(i:Nat) (F:Fz) (o:Obj),i≤ds.length→(l,listOf vs.toArray n)∈F.obs→xV F vs ds→o.cls=.type "list_reverseiterator"→o.data=.fields #[.ref l,rawInt ((i:Int)-1)] →
      uO prog w W k tgt (.ref it) ((ds.take i).reverse.map V.dat) F [(it,o)]:=by
  intro i
  induction i with
  | zero =>
    intro F o hi hl hv hc hd s F₁ A Q E b hF held rm q;refine wD (wpAny_pyNext_rev_end (l:=l) rm.handled ⟨o,held.has _ (.head _),hc,by simpa using hd⟩ fun h' he h1 h2=>?_);exact q _ F₁ (KJ b held he h1)
  | succ i ih =>
    intro F o hi hl hv hc hd;have hlt:i<ds.length:=by exact hi
    have e:(ds.take (i+1)).reverse=ds[i]::(ds.take i).reverse:=by
      simp only[List.take_succ_eq_append_getElem hlt,List.reverse_append];rfl
    rw[e];intro s F₁ A Q E b hF held rm q;obtain⟨v,hv1,hv2⟩:=hv.get (List.getElem?_eq_getElem hlt);refine wpAny_pyNext_rev_item (i:=i) ⟨o,held.has _ (.head _),hc,by rw[hd,show((i+1:Nat):Int)-1=(i:Int) by exact(dB rfl)]⟩ (zL b (hF.obs _ hl)) (x:=v) (by simpa using hv1) fun h' hit hs=>?_;refine x7 (pA ht _ _) ?_;refine zS fun nG=>?_;obtain⟨o',ho',hc',hd''⟩:=hit;refine nG ?_;refine q v _ F₁ [(it,o')] (zX.same (t:=s.toks) b hs (held.off _ (.head _)) (held.tab _ (.head _)) (qH _)) rfl (fun p hp=>by cases qF hp;exact ho') (hv2.mono hF) ?_;exact ih F₁ o' (by exact(qU hi)) (hF.obs _ hl) (hv.mono hF) hc' hd''
theorem PN {tgt e:Expr}{y:Str}{p pos:Pos}{ds:List Dat}(hB:kZ W sc y (.type "reversed"))
    (he:Ev prog w W k sc fn Γ e (.dat (.list ds)))(ht:w5 tgt=true)(hs:autoParam (∀env,starEach [e] env=[(false,eval e env)]) au1) :
    wR prog w W k sc fn Γ tgt (.Call (.Name y p) [e] [] pos) (ds.reverse.map V.dat):=fun fr P s F hsc st A Q E rm q=>by
  refine jB hB.kind hB.glob hB.boot hB.nn hB.call (qE he qN (fun env=>by rw[hs];rfl)) (JF hs) hB.nd hsc st rm fun vs s₁ F₁ g₁ hv=>?_;refine hv.e1 fun Z h1=>?_;refine xQ.eList h1 fun l vs n hm hr=>?_;have b:=(st.step g₁).base;have hz:(vs.toArray.size:Int)=(ds.length:Int):=by simp[hr.length]
  refine call_reversed_list (zL b hm) (wpAny_pyIter_revIter (l:=l) (i:=(ds.length:Int)-1) ⟨_,Heap.get?_push_size _ rfl,rfl,by rw[hz];rfl⟩ ?_);rw[hz];refine q _ _ F₁ [(s₁.heap.objs.size,revObj l ((ds.length:Int)-1))] (g₁.trans (q0.pushed b _ (qH _))) (fun p hp=>?_) (by simpa using YI ht (xE (qJ (b.has _ hm):l<s₁.heap.objs.size)) ds.length F₁ _ (qH _) hm hr rfl rfl) (fun Z Z Z Z h hq=>wpAny_pyIter_revIter (l:=l) (i:=(ds.length:Int)-1) ⟨_,h _ (.head _),rfl,rfl⟩ hq);cases qF hp;exact⟨Heap.get?_push_size _ rfl,g₁.size,fun r hr e=>absurd (qJ (b.has r hr)) (by rw[e];exact zK _)⟩
end Mine
namespace Mine
theorem St.perm {prog:Program}{w:World}{W:Wd}{fr:p4}{fn:Bool}{Γ:xK}{P P':yW}{s:Shared}{F:Fz}(x:St prog w W fr fn Γ P s F)(h:∀p∈P',p∈P):St prog w W fr fn Γ P' s F:=by
  refine⟨x.base,x.grow,x.bsize,x.glob,x.blt,x.kind,x.ns,x.nsNew,x.nsF,fun p hp=>x.nsP p (h p hp),fun p hp=>x.prv p (h p hp),fun n c hc=>?_,x.inj,x.cells,fun z b hz=>?_,x.apart⟩
  · obtain⟨h1,h2,h3,h4,h5,h6⟩:=x.cell n c hc;exact⟨h1,h2,h3,fun p hp=>h4 p (h p hp),h5,h6⟩
  · obtain⟨v,h1,h2⟩:=x.vars z b hz;have pr:∀a,y6 fr P F a→y6 fr P' F a:=fun a p=>⟨p.new,p.loc,p.cel,fun q hq=>p.prv q (h q hq),p.frz⟩;refine⟨v,h1,?_⟩;cases b with
    | val x=>exact h2
    | lst ds=>obtain⟨a,vs,n,e,h3,h4,h5⟩:=h2;exact⟨a,vs,n,e,h3,h4,pr a h5⟩
    | byt bs=>obtain⟨a,n,e,h3,h5⟩:=h2;exact⟨a,n,e,h3,pr a h5⟩
    | dic kvs=>obtain⟨a,kvv,e,h3,h4,h5⟩:=h2;exact⟨a,kvv,e,h3,h4,pr a h5⟩
structure eK where
  σ:Type
  ok:σ→Obj→Fz→Prop
  mono:∀a o F F',Fz.le F F'→ok a o F→ok a o F'
noncomputable def vD:eK:=⟨List Dat,fun ds o F=>∃(vs:List Value) (n:Nat),o=listOf vs.toArray n∧xV F vs ds,fun Z Z Z Z h x=>let⟨vs,n,e,r⟩:=x;⟨vs,n,e,r.mono h⟩⟩
section
variable (prog:Program)(w:World)(W:Wd)
noncomputable def X8 (k:Nat)(sc:Scope)(Γ:xK)(K:eK)(M:Value→Env→Sem Unit)(a a':K.σ):Prop :=
  ∀fr P s F D o,fr.env.scope=sc→St prog w W fr false Γ ((D,o)::P) s F→fr.sb.heap.objs.size≤D→(∀p∈P,p.1≠D)→K.ok a o F →
    ∀(A:Around) (Q:Unit→Shared→Prop) (E:Value→Shared→Prop),zZ k A →
      (∀s' F' o',St prog w W fr false Γ ((D,o')::P) s' F'→K.ok a' o' F'→F.le F'→Q () s')→wpAny (model prog w) A (M (.ref D) fr.env) Q E s
noncomputable def HE (k:Nat)(sc:Scope)(Γ:xK)(ifs:List Expr)(b:Bool):Prop :=
  ∀fr P s F,fr.env.scope=sc→St prog w W fr false Γ P s F→eF prog w W k (forIn ifs true fun c r=>if r=true then do let ok←isTrue c fr.env (eval c fr.env);pure (ForInStep.yield ok) else pure (ForInStep.yield r)) s F b
noncomputable def V8 (k:Nat)(sc:Scope)(Γ:xK)(K:eK)(tgt:Expr)(ifs:List Expr)(M:Value→Env→Sem Unit)(x:V)(a a':K.σ):Prop :=
  ∃Γ₁ b,B7 prog w W k sc false Γ tgt x Γ₁∧(∀y b,Γ.lookup y=some b→Γ₁.lookup y=some b)∧HE prog w W k sc Γ₁ ifs b ∧
    (b=true→X8 prog w W k sc Γ₁ K M a a')∧(b=false→a'=a)
noncomputable def uU (k:Nat)(sc:Scope)(Γ:xK)(K:eK)(e:Expr)(d:Nat)(tgt:Expr)(xs:List V)(a a':K.σ):Prop :=
  ∀fr P s F it D N o,fr.env.scope=sc→St prog w W fr false Γ (N++(D,o)::P) s F→(∀p∈N,fr.sb.heap.objs.size≤p.1)→fr.sb.heap.objs.size≤D→(∀q∈N,q.1≠D)→(∀p∈P,∀q∈N,q.1≠p.1)→(∀p∈P,p.1≠D) →
    K.ok a o F→uO prog w W k tgt it xs F N→∀(A:Around) (R:Result→Shared→Prop),zZ k A →
      (∀s' F' o',St prog w W fr false Γ ((D,o')::P) s' F'→K.ok a' o' F'→F.le F'→R (.ok .next) s')→codeAny (model prog w) A (.compLoop e d it (.ref D) fr.env) R s
end
section
variable {prog:Program}{w:World}{W:Wd}{k:Nat}{sc:Scope}{Γ:xK}{K:eK}
theorem wH:HE prog w W k sc Γ [] true:=fun fr P s F hsc st A Q E rm q=>wpAny_tests_nil (q _ _ (q0.refl st.base))
theorem dY {c:Expr}{b:Bool}(h:eM prog w W k sc false Γ c b):HE prog w W k sc Γ [c] b:=fun fr P s F hsc st A Q E rm q=>wpAny_tests_one (h fr P s F hsc st A Q E rm q)
theorem uO.mono {tgt:Expr}{it:Value}{xs:List V}{F F':Fz}{N:yW}(h:uO prog w W k tgt it xs F N)(hF:F.le F'):uO prog w W k tgt it xs F' N:=by
  cases xs with
  | nil=>exact fun s F₁ A Q E b hle hh r q=>h s F₁ A Q E b (hF.trans hle) hh r q
  | cons x r=>exact fun s F₁ A Q E b hle hh r q=>h s F₁ A Q E b (hF.trans hle) hh r q
inductive CI (prog:Program)(w:World)(W:Wd)(k:Nat)(fr:p4)(Γ:xK)(K:eK)(tgt:Expr)(it:Value)(xs:List V)(as:Nat→K.σ)(D:Nat)(P:yW)(F:Fz)(m:Nat)(s':Shared):Prop
  | mk (i:Nat) (N':yW) (F':Fz) (o':Obj) (h:m=xs.length+1-i) (hil:i≤xs.length) (hF:F.le F') (st:St prog w W fr false Γ (N'++(D,o')::P) s' F') (hnew:∀p∈N',fr.sb.heap.objs.size≤p.1) (hND:∀q∈N',q.1≠D) (hPN:∀p∈P,∀q∈N',q.1≠p.1) (hok:K.ok (as i) o' F') (hI:uO prog w W k tgt it (xs.drop i) F' N'):CI prog w W k fr Γ K tgt it xs as D P F m s'
theorem tZ {e:Expr}{d:Nat}{tgt:Expr}{ifs:List Expr}{M:Value→Env→Sem Unit}{xs:List V}{as:Nat→K.σ}{p:Pos}
    (turn:∀i x,xs[i]?=some x→V8 prog w W k sc Γ K tgt ifs M x (as i) (as (i+1)))
    (hden:∀(it:Value) (D:Addr) (env:Env),(model prog w).den (.compLoop e d it (.ref D) env)=(compTurn e d it (.ref D) env).onRaise (fun x=>do noteFrame x env;theTreesLotGoes x))
    (hq:∀(it:Value) (D:Addr) (env:Env),Code.quiet (.compLoop e d it (.ref D) env)=true)
    (hu:∀(A:Around) (it:Value) (D:Addr) (env:Env),A.under (.compLoop e d it (.ref D) env)=A)
    (heq:∀(it:Value) (D:Addr) (env:Env),compTurn e d it (.ref D) env=(do
      standAt p
      match←pyNext it with
      | none=>pure (.done .next)
      | some v =>
        letOwnedTupleGo tgt it v
        assign tgt env v
        let mut ok:=true
        for c in ifs do
          if ok then ok←isTrue c env (eval c env)
        if ok then
          M (.ref D) env
        again (.compLoop e d it (.ref D) env))):uU prog w W k sc Γ K e d tgt xs (as 0) (as xs.length):=by
  intro fr P s F it D N o hsc st hnew hD hND hPN hPD hok hI A R rm q
  refine codeAny_loop (hq _ _ _) (CI prog w W k fr Γ K tgt it xs as D P F)
    ?_ (xs.length+1) ⟨0,N,F,o,rfl,wJ _,.rfl,st,hnew,hND,hPN,hok,by simpa using hI⟩
  rintro m s' ⟨i,N',F',o',rfl,hil,hF,st',hnew',hND',hPN',hok',hI'⟩;simp only[hu,hden];refine wpAny_noted ?_;rw[heq];refine qC (wA ?_);have held:=n9.of_st st' hnew';by_cases hi:i<xs.length
  · rw[List.drop_eq_getElem_cons hi] at hI';refine zS fun nG=>?_;have hx:xs[i]?=some xs[i]:=List.getElem?_eq_getElem hi;obtain⟨Γ₁,b,hasg,hkeep,htest,hemit,hskip⟩:=turn i _ hx;refine nG ?_
    refine qC (xT (hI' s' F' A (fun v s₂=>wpAny (model prog w) A (do
        assign tgt fr.env v
        let mut ok:=true
        for c in ifs do
          if ok then ok←isTrue c fr.env (eval c fr.env)
        if ok then
          M (.ref D) fr.env
        again (.compLoop e d it (.ref D) fr.env)) (fun fin s'=>match fin with | .done f=>R (.ok f) s' | .again c'=>c'=.compLoop e d it (.ref D) fr.env∧∃m,m<xs.length+1-i∧CI prog w W k fr Γ K tgt it xs as D P F m s') (notedBy (model prog w) A fr.env fun e s'=>R (.error e) s') s₂) _ st'.base .rfl held rm ?_) (fun r s₁ h=>?_) fun Z Z h=>h)
    · intro v s₃ F₃ N₃ g₃ hN₃ hin₃ hv hI₃;have mem:∀p∈N₃,∃q∈N',q.1=p.1:=fun p hp=>let⟨q,hq,e⟩:=qS (hN₃▸zE hp:p.1∈N'.map (·.1));⟨q,hq,e⟩;have hPND:∀p∈(D,o')::P,∀q∈N',q.1≠p.1:=fun p hp q hq=>by
        rcases qG hp with rfl | hp
        · exact hND' q hq
        · exact hPN' p hp q hq
      have hnew₃:∀p∈N₃,fr.sb.heap.objs.size≤p.1:=fun p hp=>let⟨q,hq,e⟩:=mem p hp;e▸hnew' q hq;have hND₃:∀q∈N₃,q.1≠D:=fun r hr=>let⟨q,hq,e⟩:=mem r hr;e▸hND' q hq;have hPN₃:∀p∈P,∀q∈N₃,q.1≠p.1:=fun p hp r hr=>let⟨q,hq,e⟩:=mem r hr;e▸hPN' p hp q hq;refine qC (hasg fr _ s₃ F₃ v hsc (st'.stepX g₃ (fun p hp=>hN₃▸zE hp) hin₃ hPND hnew') hv A _ _ rm fun s₄ F₄ st₄ hF₄=>?_);refine qC (htest fr _ s₄ F₄ hsc st₄ A _ _ rm fun s₅ F₅ g₅=>?_);have st₅:=st₄.step g₅;cases b with
      | false =>
        refine qI ⟨rfl,xs.length+1-(i+1),by exact(rX (qO (qU hi))),i+1,N₃,F₅,o',rfl,hi,((hF.trans g₃.sub).trans hF₄).trans g₅.sub,st₅.weaken hkeep,hnew₃,hND₃,hPN₃,?_,?_⟩
        · rw[hskip rfl];exact K.mono _ _ _ _ ((g₃.sub.trans hF₄).trans g₅.sub) hok'
        · exact hI₃.mono (hF₄.trans g₅.sub)
      | true =>
        refine qC (hemit rfl fr (N₃++P) s₅ F₅ D o' hsc (st₅.perm fun p hp=>?_) hD (fun p hp=>?_) (K.mono _ _ _ _ ((g₃.sub.trans hF₄).trans g₅.sub) hok') A _ _ rm fun s₆ F₆ o₆ st₆ hok₆ hF₆=>?_)
        · rcases qG hp with rfl | hp
          · exact xH _ (.head _)
          · rcases qP hp with h | h
            · exact qT _ h
            · exact xH _ (.tail _ h)
        · rcases qP hp with h | h
          · exact hND₃ p h
          · exact hPD p h
        · refine qI ⟨rfl,xs.length+1-(i+1),by exact(rX (qO (qU hi))),i+1,N₃,F₆,o₆,rfl,hi,(((hF.trans g₃.sub).trans hF₄).trans g₅.sub).trans hF₆,(st₆.perm fun p hp=>?_).weaken hkeep,hnew₃,hND₃,hPN₃,hok₆,hI₃.mono ((hF₄.trans g₅.sub).trans hF₆)⟩;rcases qP hp with h | h
          · exact .tail _ (qT _ h)
          · rcases qG h with rfl | h
            · exact .head _
            · exact .tail _ (xH _ h)
    · cases r with
      | none=>exact h.elim
      | some v=>exact qC (xT h (fun Z s₂ h₂=>h₂) fun Z Z h=>h)
  · have hie:i=xs.length:=by exact(kK hil (wV hi))
    rw[(List.drop_eq_nil_of_le (by exact(Nat.le_of_not_lt hi)):xs.drop i=[])] at hI';refine qC (hI' s' F' A _ _ st'.base .rfl held rm fun s₃ F₃ g₃=>?_);have st₃:St prog w W fr false Γ ((D,o')::P) s₃ F₃:=st'.stepX (N':=[]) g₃ (fun Z h=>nomatch h) (fun Z h=>nomatch h) (fun p hp q hq=>by
        rcases qG hp with rfl | hp
        · exact hND' q hq
        · exact hPN' p hp q hq) hnew'
    exact qI (q s₃ F₃ o' st₃ (K.mono _ _ _ _ g₃.sub (hie▸hok')) (hF.trans g₃.sub))
end
end Mine
namespace Mine
noncomputable def kU {K:Type} [DecidableEq K] (kvs:List (K×Dat)) (k:K) (v:Dat):List (K×Dat) :=
  if kvs.any (fun kv=>kv.1=k) then kvs.map (fun kv=>if kv.1=k then(kv.1,v) else kv) else kvs++[(k,v)]
theorem jS.any {F:Fz}{K:Type} [DecidableEq K] {k:K} {es:List (K×Value)} {kvs:List (K×Dat)} (h:jS F es kvs):es.any (fun kv=>decide (kv.1=k))=kvs.any (fun kv=>decide (kv.1=k)):=by
  induction h with
  | nil=>rfl
  | cons _ _ ih=>simp[ih]
theorem jS.length {F:Fz}{K:Type}{es:List (K×Value)}{kvs:List (K×Dat)}(h:jS F es kvs):es.length=kvs.length:=by
  induction h with
  | nil=>rfl
  | cons _ _ ih=>simp[ih]
theorem jS.append {F:Fz}{K:Type}{es es':List (K×Value)}{kvs kvs':List (K×Dat)}(h:jS F es kvs)(h':jS F es' kvs'):jS F (es++es') (kvs++kvs'):=by
  induction h with
  | nil=>exact h'
  | cons h1 _ ih=>exact .cons h1 ih
set_option tactic.hygienic true in
theorem jS.stored {F:Fz}{K:Type} [DecidableEq K] {k:K} {v:Value} {d:Dat} {es:List (K×Value)} {kvs:List (K×Dat)} (h:jS F es kvs) (hv:xQ F v d):jS F (PySem.stored es k v) (kU kvs k d):=by
  unfold PySem.stored kU;simp only[h.any];split
  · rename_i hany
    clear hany
    induction h with
    | nil=>exact .nil
    | @cons k' v' d' _ _ h1 _ ih =>
      simp only[List.map_cons];by_cases e:k'=k
      · simp only[e,if_true];exact .cons hv ih
      · simp only[e,if_false];exact .cons h1 ih
  · exact h.append (.cons hv .nil)
theorem mV {prog:Program}{w:World}{x:Str}{t:Nat}:(strKind prog w).is x (.str x t)=true:=by
  show Value.isStrOf x (.str x t)=true;simp[Value.isStrOf]
noncomputable def tC (prog:Program)(w:World):eK:=⟨List (Str×Dat),fun kvs o F=>∃kvv,o.IsDictOf (strKind prog w) kvv∧jS F kvv kvs,fun Z Z Z Z h x=>let⟨vs,e,r⟩:=x;⟨vs,e,r.mono h⟩⟩
section
variable {prog:Program}{w:World}{W:Wd}{k:Nat}{sc:Scope}{Γ:xK}{K:eK}
theorem lK {elt:Expr}{d:Dat}{a:List Dat}(he:Ev prog w W k sc false Γ elt (.dat d))(hz:a.length≤sizeLine) :
    X8 prog w W k sc Γ vD (fun acc env=>do let _←call (.builtin "list.append") [acc,← eval elt env]) a (a++[d]):=by
  intro fr P s F D o hsc st hD hPD hok A Q E rm q;refine zS fun nG=>?_;obtain⟨vs,n,rfl,hr⟩:=hok;refine nG ?_;refine qC (he fr _ s F hsc st A _ E rm fun v s₁ F₁ g₁ hv=>?_);have st₁:=st.step g₁;obtain⟨hDo,hDt,hDF⟩:=st₁.prv _ (.head _);refine qC (wpAny_list_append_plain ⟨n,hDo⟩ (fun h' hp hs=>qI ?_) (by simp only[List.size_toArray,hr.length];exact hz));obtain⟨n',hp⟩:=hp;rw[(by simp:(vs.toArray).push v=(vs++[v]).toArray)] at hp
  have st₂:=St.stepX (N:=[(D,listOf vs.toArray n)]) (N':=[(D,listOf (vs++[v]).toArray n')]) (P:=P) st₁ (s':={s₁ with heap:=h',toks:=s₁.toks}) (zX.same st₁.base hs hDF hDt (qH _)) (fun p hp=>by cases qF hp;exact .head _)
    (fun p h=>by cases qF h;exact hp) (fun p hp q hq=>by cases qF hq;exact xW (hPD p hp)) (fun p hp=>by cases qF hp;exact hD)
  exact q _ F₁ _ st₂ ⟨vs++[v],n',rfl,(hr.mono g₁.sub).append (.one hv)⟩ g₁.sub
theorem KK {kx vx:Expr}{x:Str}{d:Dat}{a:List (Str×Dat)}(hk:Ev prog w W k sc false Γ kx (.dat (.str x)))(he:Ev prog w W k sc false Γ vx (.dat d))(hz:a.length≤sizeLine) :
    X8 prog w W k sc Γ (tC prog w) (fun acc env=>do
        let kv←eval kx env;let vv←holding [kv] (eval vx env)
        match acc with
        | .ref d=>do
          standAt {kx.pos with endLine:=vx.pos.endLine,endCol:=vx.pos.endCol}
          holding [kv,vv] (dictSet d kv vv)
        | _=>unsupported "internal:dictcomp") a (kU a x d):=by
  intro fr P s F D o hsc st hD hPD hok A Q E rm q;obtain⟨kvv,hdic,hr⟩:=hok;refine qC (hk fr _ s F hsc st A _ E rm fun kv s₀ F₀ g₀ hkv=>?_);have st₀:=st.step g₀;refine qC (xS (he fr _ s₀ F₀ hsc st₀ A _ E rm fun v s₁ F₁ g₁ hv=>?_));have st₁:=st₀.step g₁;obtain⟨hDo,hDt,hDF⟩:=st₁.prv _ (.head _);refine xQ.eStr hkv fun Z hm=>?_;refine qC (wA (xS (wpAny_dictSet_pairs (knd:=strKind prog w) (k:=x) mV (Heap.dictOf_iff.mpr ⟨o,hDo,hdic⟩) (fun h' hp hs=>?_) (by rw[hr.length];exact hz))));obtain⟨o',ho',hd'⟩:=Heap.dictOf_iff.mp hp
  have st₂:=St.stepX (N:=[(D,o)]) (N':=[(D,o')]) (P:=P) st₁ (s':={s₁ with heap:=h',toks:=s₁.toks+1}) (zX.same st₁.base hs hDF hDt (xI _)) (fun p hp=>by cases qF hp;exact .head _)
    (fun p h=>by cases qF h;exact ho') (fun p hp q hq=>by cases qF hq;exact xW (hPD p hp)) (fun p hp=>by cases qF hp;exact hD)
  exact q _ F₁ _ st₂ ⟨_,hd',((hr.mono g₀.sub).mono g₁.sub).stored hv⟩ (g₀.sub.trans g₁.sub)
theorem lJ {e iter tgt:Expr}{d:Nat}{p:Pos}{xs:List V}{a a':K.σ}(hit:wR prog w W k sc false Γ tgt iter xs)(hl:uU prog w W k sc Γ K e d tgt xs a a')
    (hst:∀(it:Value) (D:Addr) (env:Env) (A:Around) (R:Result→Shared→Prop) (s:Shared),codeAny (model prog w) A (.compLoop e d it (.ref D) env) R s →
      wpAny (model prog w) A (pyIter it) (fun it' s'=>codeAny (model prog w) A (.compLoop e d it' (.ref D) env) R s') (notedBy (model prog w) A env fun x s'=>R (.error x) s') s→codeAny (model prog w) A (.compStart e d it (.ref D) env) R s)
    (hs:autoParam (∀env x,foldedSetIterable iter env x=pure x) au5) :
    X8 prog w W k sc Γ K (fun acc env=>do
        let x←eval iter env
        standAt p
        let x←foldedSetIterable iter env x;let _←runOwn (.compStart e d (← holding [x] (pyIter x)) acc env) env) a a':=by
  intro fr P s F D o hsc st hD hPD hok A Q E rm q;refine qC (xT (hit fr _ s F hsc st A (fun it s'=>wpAny (model prog w) A (runOwn (.compStart e d it (.ref D) fr.env) fr.env) (fun Z s''=>Q () s'') E s') E rm ?_) (fun v s₁ h₁=>?_) fun Z Z e=>e)
  · intro it s₁ F₁ N g₁ hN hI hS;refine wpAny_runOwn ?_;have hold:∀p∈(D,o)::P,∀q∈N,q.1≠p.1:=fun p hp r hr e=>absurd (qJ (st.prv p hp).1) (xB (e▸(hN r hr).2.1))
    have loop:codeAny (model prog w) (A.mark none) (.compLoop e d it (.ref D) fr.env) (fun r s'=>match r with | .ok f=>Q () s' | .error e=>cameBackBy (model prog w) A fr.env E e s') s₁ :=
      hl fr P s₁ F₁ it D N o hsc (St.frame (N:=N) st g₁ hN) (fun p hp=>qB st.grow.size (hN p hp).2.1:∀p∈N,fr.sb.heap.objs.size≤p.1) hD (fun q hq=>hold _ (.head _) q hq) (fun p hp q hq=>hold p (.tail _ hp) q hq) hPD (K.mono _ _ _ _ g₁.sub hok) hI _ _ rm.mark fun s' F' o' st' hok' hF'=>q s' F' o' st' hok' (g₁.sub.trans hF')
    exact hst _ _ _ _ _ _ loop (hS _ _ _ _ (fun p hp=>(hN p hp).1) loop)
  · refine qC (wA (qC (x7 (hs _ _) (qC (xS (xT h₁ (fun it s₂ h₂=>qC (xT h₂ (fun Z s₃ h₃=>qI h₃) fun Z Z e=>e)) fun Z Z e=>e))))))
end
end Mine
namespace Mine
noncomputable def vM (sc scope:Scope):Scope :=
  {scope with names:=scope.names.map fun(n,k)=>if(k==.free&&sc.kind==.function&&sc.names.lookup n==some .cell) then(n,.cell) else(n,k)}
theorem m9 {scope:Scope}{env:Env}:relabel scope env=vM env.scope scope:=rfl
noncomputable def pZ (cells:List (Str×Addr)):List (Str×NameKind)→List (Str×Addr)
  | []=>[]
  | (n,k)::r=>pZ cells r++(if k==.free then[(n,(cells.lookup n).getD 0)] else[])
theorem uJ {scope:Scope}{env:Env}(h:∀x∈scope.names,x.2=.free→∃c,env.cells.lookup x.1=some c):closureFor scope env=pure (pZ env.cells scope.names):=by
  have key:∀(names:List (Str×NameKind)) (cs:List (Str×Addr)),(∀x∈names,x.2=.free→∃c,env.cells.lookup x.1=some c) →
      (forIn names cs fun x cs=>do if x.2==.free then pure (ForInStep.yield ((x.1,← cellOf env x.1)::cs)) else pure (ForInStep.yield cs):Sem (List (Str×Addr)))=pure (pZ env.cells names++cs):=by
    intro names
    induction names with
    | nil=>intro cs _;rfl
    | cons x r ih =>
      intro cs hx;obtain⟨n,k⟩:=x;rw[List.forIn_cons];cases hk:(k==NameKind.free) with
      | true =>
        obtain⟨c,hc⟩:=hx _ (.head _) (eq_of_beq hk);have e:cellOf env n=pure c:=by
          unfold cellOf;rw[(hc:env.cells.lookup n=some c)]
        dsimp only[pZ];simp only[hk,if_true];simp only[e];simp only[(hc:env.cells.lookup n=some c),Option.getD_some,List.append_assoc];exact ih _ fun y hy=>hx y (.tail _ hy)
      | false =>
        dsimp only[pZ];simp only[hk,Bool.false_eq_true,if_false,List.append_nil];exact ih _ fun y hy=>hx y (.tail _ hy)
  have e:=congrArg (fun(m:Sem (List (Str×Addr)))=>m >>= fun cs=>pure cs) (key scope.names [] h);rw[List.append_nil] at e;exact e
set_option tactic.hygienic true in
theorem pY {cells:List (Str×Addr)}:∀{names:List (Str×NameKind)} {n:Str} {c:Addr},(n,c)∈pZ cells names→(n,NameKind.free)∈names∧(cells.lookup n).getD 0=c
  | [],_,_,h=>nomatch h
  | (m,k)::r,n,c,h=>by
    rcases qP (show _∈_++_ from h) with h | h
    · exact⟨.tail _ (pY h).1,(pY h).2⟩
    · split at h
      · rename_i hk
        cases qF h;rw[eq_of_beq hk];exact⟨.head _,rfl⟩
      · cases h
theorem nR {cells:List (Str×Addr)}{names:List (Str×NameKind)}{n:Str}{c:Addr}(hn:(n,NameKind.free)∈names)(hc:cells.lookup n=some c):(pZ cells names).lookup n=some c:=by
  induction names with
  | nil=>cases hn
  | cons x r ih =>
    obtain⟨m,k⟩:=x;dsimp only[pZ];rw[List.lookup_append];rcases qG hn with h | h
    · cases h;cases e:(pZ cells r).lookup n with
      | none=>simp[hc]
      | some c' =>
        have:=(pY (mem_of_lookup e)).2;rw[hc] at this;simp at this;simp[this]
    · simp only[ih h];rfl
noncomputable def capt (sc scope:Scope)(Γ:xK):xK:=scope.names.filterMap fun(y,k) =>
  if k==.free&&sc.names.lookup y==some .cell&&scope.names.lookup y==some .free then(match Γ.lookup y with | some (.val x)=>some (y,.val x) | _=>none) else none
set_option tactic.hygienic true in
theorem bU {sc scope:Scope}{Γ:xK}{y:Str}{b:Bd}(h:(capt sc scope Γ).lookup y=some b) :
    (y,NameKind.free)∈scope.names∧scope.names.lookup y=some .free∧sc.names.lookup y=some .cell∧∃x,b=.val x∧Γ.lookup y=some (.val x):=by
  obtain⟨⟨z,k⟩,hm,e⟩:=List.mem_filterMap.mp (mem_of_lookup h);dsimp only at e;split at e
  · rename_i hc
    simp only[Bool.and_eq_true,beq_iff_eq] at hc;obtain⟨⟨rfl,h1⟩,h2⟩:=hc;split at e
    · rename_i x hx
      cases e;exact⟨hm,h2,h1,x,rfl,hx⟩
    · cases e
  · cases e
noncomputable def iE (sc scope:Scope):Bool :=
  scope.kind==.function&&sc.kind==.function&&scope.names.all (fun x=>x.2 != .cell)&&scope.names.all (fun x=>x.2 != .local||scope.names.lookup x.1==some .local) &&
    scope.names.all (fun x=>x.2 != .free||sc.names.lookup x.1==some .cell)
structure F5 (sc scope:Scope):Prop where
  kind:scope.kind=.function
  kind':sc.kind=.function
  cell:∀x∈scope.names,x.2≠.cell
  loc:∀x∈scope.names,x.2=.local→scope.names.lookup x.1=some .local
  free:∀x∈scope.names,x.2=.free→sc.names.lookup x.1=some .cell
theorem tK {sc scope:Scope}(h:iE sc scope=true):F5 sc scope:=by
  unfold iE at h;simp only[Bool.and_eq_true,List.all_eq_true,beq_iff_eq,bne_iff_ne,Bool.or_eq_true] at h;obtain⟨⟨⟨⟨h1,h2⟩,h3⟩,h4⟩,h5⟩:=h;exact⟨h1,h2,h3,fun x hx e=>(h4 x hx).resolve_left fun q=>q e,fun x hx e=>(h5 x hx).resolve_left fun q=>q e⟩
theorem dQ {sc:Scope}:∀{names:List (Str×NameKind)} {x:Str},(names.map fun(n,k)=>if(k==NameKind.free&&sc.kind==.function&&sc.names.lookup n==some .cell) then(n,NameKind.cell) else(n,k)).lookup x =
    (names.lookup x).map fun k=>if(k==NameKind.free&&sc.kind==.function&&sc.names.lookup x==some .cell) then NameKind.cell else k
  | [],_=>rfl
  | (n,k)::r,x=>by
    rw[List.map_cons];cases hx:x==n with
    | true =>
      have e:=eq_of_beq hx;subst e;dsimp only;by_cases hc:(k==NameKind.free&&sc.kind==.function&&sc.names.lookup x==some .cell)=true
      · rw[if_pos hc];simp only[List.lookup_cons,beq_self_eq_true,Option.map_some,hc,if_true]
      · rw[if_neg hc];simp only[List.lookup_cons,beq_self_eq_true,Option.map_some,hc,Bool.false_eq_true,if_false]
    | false =>
      dsimp only;split<;>simp only[List.lookup_cons,hx]<;>exact(@dQ sc r x)
section
variable {prog:Program}{w:World}{W:Wd}{k:Nat}{sc:Scope}{fn:Bool}{Γ:xK}{K:eK}
set_option tactic.hygienic true in
theorem f9 {fr:p4}{P N:yW}{s s₂:Shared}{F F₂:Fz}{scope:Scope}{o:Obj}{h₁:Heap}(st:St prog w W fr fn Γ P s F)(hsc:fr.env.scope=sc)(hok:F5 sc scope)(g:q0 W s s₂ F F₂)
    (hN:∀p∈N,s₂.heap.get? p.1=some p.2∧s.heap.objs.size≤p.1∧∀q∈F₂.obs,q.1≠p.1)(hfr:o.isFreed=false)(cenv:Env)
    (hns:h₁.Ns (s₂.heap.objs.size+1) (fun Z=>none))(hsb:Heap.SameBut (s₂.heap.objs.size+1) ((s₂.heap.push o).push {cls:=.type "dict",data:=.dict #[]}) h₁)
    (e1:cenv.scope=vM sc scope)(e2:cenv.locals=s₂.heap.objs.size+1)(e3:cenv.globals=fr.env.globals)(e4:cenv.cells=pZ fr.env.cells scope.names)(e5:cenv.builtins=fr.env.builtins){t:Nat}(ht:s₂.toks≤t) :
    St prog w W ⟨s,F,cenv⟩ false (capt sc scope Γ) (N++[(s₂.heap.objs.size,o)]) {s₂ with heap:=h₁,toks:=t} F₂:=by
  have st₂:=st.step g;have b₂:=st₂.base;have keep:∀a o',s₂.heap.get? a=some o'→h₁.get? a=some o':=fun a o' e=>by
    have hlt:=qJ e;exact(hsb.2 a (fun q=>by rw[q] at hlt;exact absurd hlt (by simp))).trans (Heap.get?_push_of_some _ (Heap.get?_push_of_some _ e))
  have hD:h₁.get? s₂.heap.objs.size=some o:=(hsb.2 _ (qM (wE _))).trans (Heap.get?_push_of_some _ (Heap.get?_push_size _ hfr));have g':q0 W s₂ {s₂ with heap:=h₁,toks:=t} F₂ F₂:=q0.of_keeps [] b₂ keep (fun Z h=>nomatch h) (by show _≤h₁.objs.size;simp only[hsb.1];simp;exact(qW (qR _ _))) ht rfl .rfl;have st₄:=st₂.step g';have off:∀a,s₂.heap.objs.size≤a→∀p∈F₂.obs,p.1≠a:=fun a ha p hp e=>absurd (qJ (b₂.has p hp)) (xB (e▸ha));have bk:cenv.scope.names=(vM sc scope).names:=by rw[e1]
  have hk:∀x,cenv.kindOf x=(scope.names.lookup x).map fun k=>if(k==NameKind.free&&sc.kind==.function&&sc.names.lookup x==some .cell) then NameKind.cell else k:=fun x=>by
    show cenv.scope.names.lookup x=_;simp only[e1];exact dQ
  have hout:∀n c,cenv.cells.lookup n=some c→fr.env.cells.lookup n=some c∧(n,NameKind.free)∈scope.names:=fun n c h=>by
    rw[e4] at h;obtain⟨h1,h2⟩:=pY (mem_of_lookup h);obtain⟨c',hc'⟩:=st.cells n (by have:=hok.free _ h1 rfl;rw[← hsc] at this;exact this);rw[hc'] at h2;exact⟨hc'.trans (congrArg some h2),h1⟩
  refine⟨st₄.base,g.trans g',qB st.base.size (qH _),e3▸st.glob,e5▸st.blt,by show cenv.scope.kind=_;rw[e1];exact hok.kind,⟨_,by rw[e2];exact hns⟩,?_,fun p hp=>?_,fun p hp=>?_,fun p hp=>?_,fun n c hc=>?_,fun n n' c h1 h2=>?_,fun x hx=>?_,fun x b hx=>?_,?_⟩
  · show s.heap.objs.size≤cenv.locals;simp only[e2];exact(qW g.size)
  · show p.1≠cenv.locals;simp only[e2];exact off _ (xI _) p hp
  · show p.1≠cenv.locals;simp only[e2];rcases qP hp with h | h
    · have:=qJ (hN p h).1;exact qM (yL this)
    · cases qF h;exact qM (wE _)
  · rcases qP hp with h | h
    · exact⟨keep _ _ (hN p h).1,st.base.not_tab_of_size (hN p h).2.1,(hN p h).2.2⟩
    · cases qF h;exact⟨hD,b₂.not_tab_of_size (qH _),off _ (qH _)⟩
  · obtain⟨hc',_⟩:=hout n c hc;refine zS fun nG=>?_;obtain⟨⟨v,h1⟩,h2,h3,h4,h5,h6⟩:=st₄.cell n c hc';obtain⟨⟨v₀,h1₀⟩,_⟩:=st.cell n c hc';obtain⟨⟨v₂,h1₂⟩,_⟩:=st₂.cell n c hc';have hlt₂:=h1₂.lt;refine nG ?_;refine⟨⟨v,h1⟩,?_,(fun h=>by cases h),fun p hp=>?_,h5,fun h=>by cases h⟩
    · show c≠cenv.locals;simp only[e2];exact qM (yL hlt₂)
    · rcases qP hp with h | h
      · exact fun e=>absurd h1₀.lt (xB (e▸(hN p h).2.1))
      · cases qF h;exact xE hlt₂
  · exact st.inj _ _ _ (hout _ _ h1).1 (hout _ _ h2).1
  · have hx':=(hk x).symm.trans hx;cases hl:scope.names.lookup x with
    | none=>rw[hl] at hx';cases hx'
    | some kd =>
      have hm:=mem_of_lookup hl;rw[hl,Option.map_some] at hx';have hfree:kd=.free:=by
        injection hx' with hx'
        split at hx'
        · rename_i hc;simp only[Bool.and_eq_true,beq_iff_eq] at hc;exact hc.1.1
        · exact absurd hx' (hok.cell _ hm)
      subst hfree;obtain⟨c',hc'⟩:=st.cells x (by have:=hok.free _ hm rfl;rw[← hsc] at this;exact this);exact⟨c',by show cenv.cells.lookup x=_;rw[e4];exact nR hm hc'⟩
  · obtain⟨h1,h2,h3,y,rfl,h4⟩:=bU hx;obtain⟨v,hv,hd⟩:=st₄.vars x _ h4;refine⟨v,?_,hd⟩;rcases hv with⟨kk,_⟩ | ⟨_,c,hc,hv⟩
    · rw[(by have:=h3;rw[← hsc] at this;exact this:fr.env.kindOf x=some .cell)] at kk;cases kk
    · refine .inr ⟨.inl ?_,c,by show cenv.cells.lookup x=_;rw[e4];exact nR h1 hc,hv⟩;show cenv.kindOf x=_;rw[hk,h2,h3,hok.kind'];rfl
  · intro x y bx by' a hne h1 h2 o1 o2
    refine zS fun nG=>?_;obtain⟨_,_,_,z,rfl,_⟩:=bU h1;refine nG ?_;cases o1
theorem sB {fr:p4}{P:yW}{s:Shared}{F:Fz}{scope:Scope}{e iter tgt:Expr}{ifs:List Expr}{gs:List Comprehension}{pos:Pos}{newAcc:Sem Value}{a a':K.σ}{xs:List V}{o₀:Obj}{use:Option (Value→Sem Unit)}
    {A:Around}{Q:Value→Shared→Prop}{E:Value→Shared→Prop}
    (st:St prog w W fr fn Γ P s F)(hsc:fr.env.scope=sc)(rm:zZ k A)(hok:iE sc scope=true)(hcl:clausesOf e=⟨tgt,iter,ifs,0⟩::gs)(hit:wR prog w W k sc fn Γ tgt iter xs)
    (hacc:∀(s:Shared) (Q:Value→Shared→Prop),Q (.ref s.heap.objs.size) {s with heap:=s.heap.push o₀}→wpAny (model prog w) A newAcc Q E s)(hfr:o₀.isFreed=false)(hok₀:∀F,K.ok a o₀ F)
    (hl:uU prog w W k (vM sc scope) (capt sc scope Γ) K e 0 tgt xs a a')
    (hst:∀(it:Value) (D:Addr) (env:Env) (A:Around) (R:Result→Shared→Prop) (s:Shared),codeAny (model prog w) A (.compLoop e 0 it (.ref D) env) R s →
      wpAny (model prog w) A (pyIter it) (fun it' s'=>codeAny (model prog w) A (.compLoop e 0 it' (.ref D) env) R s') (notedBy (model prog w) A env fun x s'=>R (.error x) s') s→codeAny (model prog w) A (.compStart e 0 it (.ref D) env) R s)
    (hs:∀x,foldedSetIterable iter fr.env x=pure x)
    (q:∀s' F' C D o m,q0 W s s' F F'→s'.heap.get? D=some o→K.ok a' o F'→s.heap.objs.size≤D→(∀p∈F'.obs,p.1≠D)→s'.heap.Ns C m→s.heap.objs.size≤C→(∀p∈F'.obs,p.1≠C)→C≠D→compPost (model prog w) A E use Q (.ref D) C (.ok .next) s') :
    wpAny (model prog w) A (comprehension e scope fr.env pos newAcc false (eval iter fr.env) use) Q E s:=by
  have ok:=tK hok;refine fJ hcl hs (uJ (scope:=scope) (env:=fr.env) fun x hx hf=>st.cells x.1 (by have:=ok.free x hx hf;rw[← hsc] at this;exact this)) ok.kind ok.loc ?_;refine hit fr P s F hsc st A _ E rm fun it s₂ F₂ N g hN hI hS=>?_;refine hacc s₂ _ ?_;refine jJ ok.cell (by intro y hy;simp at hy) (fun h₁ hns hsb=>?_) ok.kind;dsimp only at hns hsb ⊢;rw[show(s₂.heap.push o₀).objs.size=s₂.heap.objs.size+1 by simp] at hns hsb ⊢;rw[(by rw[m9,hsc]:relabel scope fr.env=vM sc scope)];let cenv:Env:={newEnv scope (s₂.heap.objs.size+1) fr.env.globals (pZ fr.env.cells scope.names) fr.env.qual none .none (some fr.env) fr.env.builtins with scope:=vM sc scope};have st₄:=f9 (P:=P) (N:=N) (t:=s₂.toks+([]:List (Str×Value)).length) st hsc ok g hN hfr cenv hns hsb rfl rfl rfl rfl rfl (by exact qH _);have hg:=g.size;have loop:codeAny (model prog w) A (.compLoop e 0 it (.ref s₂.heap.objs.size) cenv) (compPost (model prog w) A E use Q (.ref s₂.heap.objs.size) cenv.locals) {s₂ with heap:=h₁,toks:=s₂.toks+([]:List (Str×Value)).length}:=by
    refine hl ⟨s,F,cenv⟩ [] _ F₂ it s₂.heap.objs.size N o₀ rfl st₄ (fun p hp=>(hN p hp).2.1) g.size (fun q hq=>qM (qJ (hN q hq).1)) (fun Z h=>nomatch h) (fun Z h=>nomatch h) (hok₀ _) hI A _ rm fun s' F' o' st' hok' hF'=>?_;refine zS fun nG=>?_;obtain⟨m,hm⟩:=st'.ns;obtain⟨hDo,_,hDF⟩:=st'.prv _ (.head _);refine nG ?_;exact q s' F' (s₂.heap.objs.size+1) s₂.heap.objs.size o' m st'.grow hDo hok' g.size hDF hm (qW g.size) st'.nsF (xE (wE _))
  refine hst _ _ _ _ _ _ loop (hS _ _ _ _ (fun p hp=>?_) loop);exact(st₄.prv p (qT _ hp)).1
end
end Mine
namespace Mine
noncomputable abbrev u8 (elt:Expr):Value→Env→Sem Unit:=fun acc env=>do let _←call (.builtin "list.append") [acc,← eval elt env]
noncomputable abbrev fD (e:Expr)(d:Nat)(iter:Expr):Value→Env→Sem Unit:=fun acc env=>do
        let x←eval iter env
        standAt iter.pos
        let x←foldedSetIterable iter env x;let _←runOwn (.compStart e d (← holding [x] (pyIter x)) acc env) env
section
variable (prog:Program)(w:World)(W:Wd)
noncomputable def V6 (k:Nat)(sc:Scope)(Γ:xK)(M:Value→Env→Sem Unit)(out:List Dat):Prop :=
  ∀a:List Dat,a.length+out.length≤sizeLine→X8 prog w W k sc Γ vD M a (a++out)
noncomputable def sP (k:Nat)(sc:Scope)(Γ:xK)(tgt:Expr)(ifs:List Expr)(M:Value→Env→Sem Unit)(x:V)(out:List Dat):Prop :=
  ∃Γ₁ b,B7 prog w W k sc false Γ tgt x Γ₁∧(∀y b,Γ.lookup y=some b→Γ₁.lookup y=some b)∧HE prog w W k sc Γ₁ ifs b ∧
    (b=true→V6 prog w W k sc Γ₁ M out)∧(b=false→out=[])
end
section
variable {prog:Program}{w:World}{W:Wd}{k:Nat}{sc:Scope}{fn:Bool}{Γ:xK}
theorem x9 {elt:Expr}{d:Dat}(he:Ev prog w W k sc false Γ elt (.dat d)):V6 prog w W k sc Γ (u8 elt) [d]:=fun a ha=>lK he (qB (qR _ _) ha)
theorem rJ {α:Type}{f:α→List Dat}{l:List α}{i:Nat}{x:α}(h:l[i]?=some x):(l.take (i+1)).flatMap f=(l.take i).flatMap f++f x:=by
  simp only[List.take_add_one,h,List.flatMap_append];simp
theorem aA {α:Type}{f:α→List Dat}{l:List α}{i:Nat}:((l.take i).flatMap f).length≤(l.flatMap f).length:=by
  simp only[(by rw[← List.flatMap_append,List.take_append_drop]:l.flatMap f=(l.take i).flatMap f++(l.drop i).flatMap f),List.length_append];exact(qR _ _)
theorem J8 {α:Type}{e:Expr}{d:Nat}{tgt:Expr}{ifs:List Expr}{M:Value→Env→Sem Unit}{l:List α}{g:α→V}{f:α→List Dat}{p:Pos}{a:List Dat}(ha:a.length+(l.flatMap f).length≤sizeLine)
    (turn:∀x∈l,sP prog w W k sc Γ tgt ifs M (g x) (f x))
    (hden:∀(it:Value) (D:Addr) (env:Env),(model prog w).den (.compLoop e d it (.ref D) env)=(compTurn e d it (.ref D) env).onRaise (fun x=>do noteFrame x env;theTreesLotGoes x))
    (hq:∀(it:Value) (D:Addr) (env:Env),Code.quiet (.compLoop e d it (.ref D) env)=true)
    (hu:∀(A:Around) (it:Value) (D:Addr) (env:Env),A.under (.compLoop e d it (.ref D) env)=A)
    (heq:∀(it:Value) (D:Addr) (env:Env),compTurn e d it (.ref D) env=(do
      standAt p
      match←pyNext it with
      | none=>pure (.done .next)
      | some v =>
        letOwnedTupleGo tgt it v
        assign tgt env v
        let mut ok:=true
        for c in ifs do
          if ok then ok←isTrue c env (eval c env)
        if ok then
          M (.ref D) env
        again (.compLoop e d it (.ref D) env))):uU prog w W k sc Γ vD e d tgt (l.map g) a (a++l.flatMap f):=by
  have:=tZ (prog:=prog) (w:=w) (W:=W) (k:=k) (sc:=sc) (Γ:=Γ) (K:=vD) (e:=e) (d:=d) (tgt:=tgt) (ifs:=ifs) (M:=M) (xs:=l.map g) (as:=fun i=>a++(l.take i).flatMap f) (p:=p) (fun i x hx=>?_) hden hq hu heq
  · simpa using this
  · rw[List.getElem?_map] at hx;cases h:l[i]? with
    | none=>rw[h] at hx;cases hx
    | some y =>
      rw[h] at hx;cases hx;refine zS fun nG=>?_;obtain⟨Γ₁,b,h1,h2,h3,h4,h5⟩:=turn y (List.mem_of_getElem? h);have e1:a++(l.take (i+1)).flatMap f=(a++(l.take i).flatMap f)++f y:=by rw[rJ h,List.append_assoc]
      have le:=aA (f:=f) (l:=l) (i:=i+1);refine nG ?_;rw[rJ h,List.length_append] at le;refine⟨Γ₁,b,h1,h2,h3,fun hb=>?_,fun hb=>?_⟩
      · show X8 prog w W k sc Γ₁ vD M (a++(l.take i).flatMap f) (a++(l.take (i+1)).flatMap f);simp only[e1];exact h4 hb _ (by rw[List.length_append];exact(kN [_,_,_,_] [] (.l (.p (.v 0) (.v 3)) (.n 16777216)) (.l (.p (.v 1) (.v 2)) (.v 3)) [1,1] (.l (.p (.p (.v 0) (.v 1)) (.v 2)) (.n 16777216)) 1 rfl ha le))
      · show a++(l.take (i+1)).flatMap f=a++(l.take i).flatMap f;rw[e1,h5 hb,List.append_nil]
theorem UT {elt:Expr}{g0:Comprehension}{target iter:Expr}{ifs:List Expr}{scope:Scope}{pos:Pos}{A:Around}{R:Result→Shared→Prop}{s:Shared}{it acc:Value}{env:Env}
    (h0:codeAny (model prog w) A (.compLoop (.ListComp elt [g0,⟨target,iter,ifs,0⟩] scope pos) 1 it acc env) R s)
    (h:wpAny (model prog w) A (pyIter it) (fun it' s'=>codeAny (model prog w) A (.compLoop (.ListComp elt [g0,⟨target,iter,ifs,0⟩] scope pos) 1 it' acc env) R s')
      (notedBy (model prog w) A env fun x s'=>R (.error x) s') s) :
    codeAny (model prog w) A (.compStart (.ListComp elt [g0,⟨target,iter,ifs,0⟩] scope pos) 1 it acc env) R s:=by
  refine codeAny_of_tree ?_;show wpAny _ A ((compStart (.ListComp elt [g0,⟨target,iter,ifs,0⟩] scope pos) 1 it acc env).onRaise (fun x=>do noteFrame x env;standAt theWindowsPlace)) _ _ s;refine wpAny_notedAt ?_;unfold compStart;show wpAny _ _ (ask >>= _) _ _ s;refine qC (QF (QE ?_));split
  · first
      | exact qC (qI (qI (And.intro rfl h0)))
      | exact qI (And.intro rfl h0)
  · first
      | exact qC (jO (qC (wA (qC (xT h (fun it' s' h'=>qI (And.intro rfl h')) fun Z Z x=>x)))))
      | (refine qC (jO ?_);show wpAny _ _ (standAt iter.pos >>= _) _ _ s;exact qC (wA (qC (xT h (fun it' s' h'=>qI (And.intro rfl h')) fun Z Z x=>x))))
theorem rE (elt target iter:Expr)(ifs:List Expr)(g1:Comprehension)(hg:g1.is_async=0)(scope:Scope)(pos:Pos)(it acc:Value)(env:Env) :
    compTurn (.ListComp elt [⟨target,iter,ifs,0⟩,g1] scope pos) 0 it acc env=(do
      standAt iter.pos
      match←pyNext it with
      | none=>pure (.done .next)
      | some v =>
        letOwnedTupleGo target it v
        assign target env v
        let mut ok:=true
        for c in ifs do
          if ok then ok←isTrue c env (eval c env)
        if ok then
          fD (.ListComp elt [⟨target,iter,ifs,0⟩,g1] scope pos) 1 g1.iter acc env
        again (.compLoop (.ListComp elt [⟨target,iter,ifs,0⟩,g1] scope pos) 0 it acc env)):=by
  obtain⟨a,b,c,d⟩:=g1;have hg':d=0:=hg;subst hg';refine bind_congr fun Z=>bind_congr fun r=>?_;cases r with
  | none=>rfl
  | some v =>
    refine bind_congr fun Z=>bind_congr fun Z=>bind_congr fun ok=>?_;cases ok with
    | false=>rfl
    | true =>
      simp only[fD,if_true,bind_assoc];rfl
theorem sC (elt target iter:Expr)(ifs:List Expr)(g0:Comprehension)(scope:Scope)(pos:Pos)(it acc:Value)(env:Env) :
    compTurn (.ListComp elt [g0,⟨target,iter,ifs,0⟩] scope pos) 1 it acc env=(do
      standAt iter.pos
      match←pyNext it with
      | none=>pure (.done .next)
      | some v =>
        letOwnedTupleGo target it v
        assign target env v
        let mut ok:=true
        for c in ifs do
          if ok then ok←isTrue c env (eval c env)
        if ok then
          u8 elt acc env
        again (.compLoop (.ListComp elt [g0,⟨target,iter,ifs,0⟩] scope pos) 1 it acc env)):=by rfl
theorem UE {α:Type}{elt tgt iter:Expr}{ifs:List Expr}{scope:Scope}{pos:Pos}{l:List α}{g:α→V}{f:α→List Dat}{a:List Dat}(ha:a.length+(l.flatMap f).length≤sizeLine)
    (turn:∀x∈l,sP prog w W k sc Γ tgt ifs (u8 elt) (g x) (f x)):uU prog w W k sc Γ vD (.ListComp elt [⟨tgt,iter,ifs,0⟩] scope pos) 0 tgt (l.map g) a (a++l.flatMap f) :=
  J8 (ifs:=ifs) (M:=u8 elt) (p:=iter.pos) ha turn (fun Z Z Z=>rfl) (fun Z Z Z=>rfl) (fun Z Z Z Z=>rfl) (fun Z Z Z=>rfl)
theorem cl2 {α:Type}{elt tgt iter:Expr}{ifs:List Expr}{g0:Comprehension}{scope:Scope}{pos:Pos}{l:List α}{g:α→V}{f:α→List Dat}{a:List Dat}(ha:a.length+(l.flatMap f).length≤sizeLine)
    (turn:∀x∈l,sP prog w W k sc Γ tgt ifs (u8 elt) (g x) (f x)):uU prog w W k sc Γ vD (.ListComp elt [g0,⟨tgt,iter,ifs,0⟩] scope pos) 1 tgt (l.map g) a (a++l.flatMap f) :=
  J8 (ifs:=ifs) (M:=u8 elt) (p:=iter.pos) ha turn (fun Z Z Z=>rfl) (fun Z Z Z=>rfl) (fun Z Z Z Z=>rfl) (fun Z Z Z=>sC ..)
theorem cl0 {α:Type}{elt tgt iter tgt' iter':Expr}{ifs ifs':List Expr}{scope:Scope}{pos:Pos}{l:List α}{g:α→V}{f:α→List Dat}{a:List Dat}(ha:a.length+(l.flatMap f).length≤sizeLine)
    (turn:∀x∈l,sP prog w W k sc Γ tgt ifs (fD (.ListComp elt [⟨tgt,iter,ifs,0⟩,⟨tgt',iter',ifs',0⟩] scope pos) 1 iter') (g x) (f x)) :
    uU prog w W k sc Γ vD (.ListComp elt [⟨tgt,iter,ifs,0⟩,⟨tgt',iter',ifs',0⟩] scope pos) 0 tgt (l.map g) a (a++l.flatMap f) :=
  J8 (ifs:=ifs) (M:=fD (.ListComp elt [⟨tgt,iter,ifs,0⟩,⟨tgt',iter',ifs',0⟩] scope pos) 1 iter') (p:=iter.pos) ha turn (fun Z Z Z=>rfl) (fun Z Z Z=>rfl) (fun Z Z Z Z=>rfl) (fun Z Z Z=>rE _ _ _ _ _ rfl ..)
theorem uH {α:Type}{elt tgt iter:Expr}{ifs:List Expr}{g0:Comprehension}{scope:Scope}{pos:Pos}{l:List α}{g:α→V}{f:α→List Dat}(hit:wR prog w W k sc false Γ tgt iter (l.map g))
    (turn:∀x∈l,sP prog w W k sc Γ tgt ifs (u8 elt) (g x) (f x))(hs:autoParam (∀env x,foldedSetIterable iter env x=pure x) au5) :
    V6 prog w W k sc Γ (fD (.ListComp elt [g0,⟨tgt,iter,ifs,0⟩] scope pos) 1 iter) (l.flatMap f):=fun a ha=>
  lJ hit (cl2 ha turn) (fun Z Z Z Z Z Z h h'=>UT h h') hs
theorem ZZ {elt iter tgt:Expr}{ifs:List Expr}{gs:List Comprehension}{scope:Scope}{pos:Pos}{xs:List V}{out:List Dat}(hok:iE sc scope=true)(hit:wR prog w W k sc fn Γ tgt iter xs)
    (hl:uU prog w W k (vM sc scope) (capt sc scope Γ) vD (.ListComp elt (⟨tgt,iter,ifs,0⟩::gs) scope pos) 0 tgt xs [] out)
    (hs:autoParam (∀env x,foldedSetIterable iter env x=pure x) au5):Ev prog w W k sc fn Γ (.ListComp elt (⟨tgt,iter,ifs,0⟩::gs) scope pos) (.dat (.list out)):=by
  intro fr P s F hsc st A Q E rm q;simp only[eval_ListComp];refine sB (K:=vD) (a:=[]) (o₀:=listOf ([]:List Value).toArray 0) st hsc rm hok rfl hit (fun s Q h=>zF h) rfl (fun F=>⟨[],0,rfl,.nil⟩) hl (fun Z Z Z Z Z Z h h'=>codeAny_compStart_list h h') (hs _) ?_;intro s' F' C D o m g hD hok' hDn hDF hC hCn hCF hCD;refine zS fun nG=>?_;obtain⟨vs,n,rfl,hr⟩:=hok';refine nG ?_;refine⟨m,hC,fun h' hs'=>?_⟩;have b':=st.base.grow g;have hCl:=hC.lt;have g₁:q0 W s {s' with heap:=h'} F F':=by
    refine⟨fun a o ht e=>(hs'.2 a (fun q=>?_)).trans (g.keep a o ht e),fun p hp=>(hs'.2 _ (hCF p hp)).trans (g.has p hp),g.sub,g.new,g.tok,g.toks,?_,g.os,g.gens,g.tabs.keeps fun a o ha e=>(hs'.2 a fun q=>?_).trans e⟩
    · rw[q] at e;exact absurd (qJ e) (xB hCn)
    · show _≤h'.objs.size;simp only[hs'.1];exact g.size
    · rw[q] at ha;exact st.base.not_tab_of_size hCn ha
  exact q _ _ _ (g₁.freeze hDn ((hs'.2 _ (xW hCD)).trans hD)) (.list (.head _) (hr.mono (Fz.le_ob _ _ _)))
theorem vJ {α:Type}{elt iter tgt:Expr}{ifs:List Expr}{scope:Scope}{pos:Pos}{l:List α}{g:α→V}(f:α→List Dat)(hok:iE sc scope=true)(hit:wR prog w W k sc fn Γ tgt iter (l.map g))
    (turn:∀x∈l,sP prog w W k (vM sc scope) (capt sc scope Γ) tgt ifs (u8 elt) (g x) (f x))(hz:(l.flatMap f).length≤sizeLine)
    (hs:autoParam (∀env x,foldedSetIterable iter env x=pure x) au5):Ev prog w W k sc fn Γ (.ListComp elt [⟨tgt,iter,ifs,0⟩] scope pos) (.dat (.list (l.flatMap f))) :=
  ZZ hok hit (by have:=UE (a:=[]) (elt:=elt) (iter:=iter) (scope:=scope) (pos:=pos) (by simpa using hz) turn;simpa using this) hs
theorem aW {α:Type}{elt tgt iter tgt' iter':Expr}{ifs ifs':List Expr}{scope:Scope}{pos:Pos}{l:List α}{g:α→V}(f:α→List Dat)(hok:iE sc scope=true)(hit:wR prog w W k sc fn Γ tgt iter (l.map g))
    (turn:∀x∈l,sP prog w W k (vM sc scope) (capt sc scope Γ) tgt ifs (fD (.ListComp elt [⟨tgt,iter,ifs,0⟩,⟨tgt',iter',ifs',0⟩] scope pos) 1 iter') (g x) (f x))(hz:(l.flatMap f).length≤sizeLine)
    (hs:autoParam (∀env x,foldedSetIterable iter env x=pure x) au5):Ev prog w W k sc fn Γ (.ListComp elt [⟨tgt,iter,ifs,0⟩,⟨tgt',iter',ifs',0⟩] scope pos) (.dat (.list (l.flatMap f))) :=
  ZZ hok hit (by have:=cl0 (a:=[]) (elt:=elt) (iter:=iter) (scope:=scope) (pos:=pos) (by simpa using hz) turn;simpa using this) hs
noncomputable def QN (sc scope:Scope)(y:Str)(p pos:Pos):Bool :=
  (if sc.kind.isAnnotationScope then ScopeKind.function else sc.kind)==.function&&sc.names.lookup y==some .local&&p.line==pos.line&&!(scope.names.any fun(n,k)=>n==y&&(k==.local||k==.cell))
theorem QM {sc scope:Scope}{y:Str}{p pos:Pos}{elt:Expr}{gens:List Comprehension}{line:Nat}(h:QN sc scope y p pos=true)(env:Env)(he:env.scope=sc):swapsWith (.ListComp elt gens scope pos) (some (.Name y p)) line env=pure true:=by
  subst he;have e:swapsWith (.ListComp elt gens scope pos) (some (.Name y p)) line env=pure (QN env.scope scope y p pos):=rfl;rw[e,h]
theorem kG {y:Str}{pos pos' spos:Pos}{elt iter tgt:Expr}{ifs:List Expr}{gs:List Comprehension}{scope:Scope}{xs:List V}{out:List Dat}(hok:iE sc scope=true)(hit:wR prog w W k sc fn Γ tgt iter xs)
    (hl:uU prog w W k (vM sc scope) (capt sc scope Γ) vD (.ListComp elt (⟨tgt,iter,ifs,0⟩::gs) scope pos) 0 tgt xs [] out)
    (hk:sc.names.lookup y=some .local)(hsw:QN sc scope y pos' pos=true)
    (hs:autoParam (∀env x,foldedSetIterable iter env x=pure x) au5) :
    nX prog w W k sc fn Γ (.Assign [.Name y pos'] (.ListComp elt (⟨tgt,iter,ifs,0⟩::gs) scope pos) spos) (.next ((y,.val (.dat (.list out)))::Γ)):=by
  intro fr P s F hsc st A Q E rm q;rw[exec_Assign_Name_used _ _ _ _ (QM hsw _ hsc)];refine qC (wA (qC ?_));show wpAny _ A (do let _←comprehension (.ListComp elt (⟨tgt,iter,ifs,0⟩::gs) scope pos) scope fr.env _ (newList []) false (eval iter fr.env) (some (assign (.Name y pos') fr.env))) _ _ s
  refine qC (xT (sB (Q:=fun Z s'=>Q .next s') (K:=vD) (a:=[]) (o₀:=listOf ([]:List Value).toArray 0) st hsc rm hok rfl hit (fun s Q h=>zF h) rfl (fun F=>⟨[],0,rfl,.nil⟩) hl (fun Z Z Z Z Z Z h h'=>codeAny_compStart_list h h') (hs _) ?_)
    (fun Z s' hq=>qI (qI hq)) fun Z Z e=>e)
  intro s' F' C D o m g hD hok' hDn hDF hC hCn hCF hCD;refine zS fun nG=>?_;obtain⟨vs,n,rfl,hr⟩:=hok';obtain⟨oC,esC,epC,hoC,rC⟩:=id hC;have g₁:q0 W s s' F (F'.ob D (listOf vs.toArray n)):=g.freeze hDn hD;refine nG ?_;have st₁:=St.frame (N:=[(C,oC)]) st g₁ (fun p hp=>by
    cases qF hp;refine⟨hoC,hCn,fun q hq=>?_⟩;rcases qG hq with rfl | hq
    · exact xW hCD
    · exact hCF q hq)
  have hd:V.is prog w (F'.ob D (listOf vs.toArray n)) (.ref D) (.dat (.list out)):=by
    refine xQ.list (.head _) (xV.mono (F:=F') (Fz.le_ob _ _ _) ?_);simpa using hr
  show wpAny _ A (assign (.Name y pos') fr.env (.ref D)) _ _ _;refine yJ (st₁.storeV (d:=.dat (.list out)) hd (.inl (by rw[← hsc] at hk;exact hk)) fun s₂ st₂=>?_);obtain⟨h2,h3,h4⟩:=st₂.prv _ (.head _);refine⟨m,⟨oC,esC,epC,h2,rC⟩,fun h' hs'=>?_⟩
  have st₃:=St.stepX (N:=[(C,oC)]) (N':=[]) (P:=P) st₂ (s':={s₂ with heap:=h',toks:=s₂.toks}) (zX.same st₂.base hs' h4 h3 (qH _)) (fun Z h=>nomatch h) (fun Z h=>nomatch h)
    (fun p hp q hq=>by cases qF hq;exact xW ((fun p hp e=>absurd (qJ (st.prv p hp).1) (xB (by simp only[e];exact hCn)):∀p∈P,p.1≠C) p hp)) (fun p hp=>by cases qF hp;exact qB st.grow.size hCn)
  exact q _ _ _ ⟨rfl,st₃⟩ g₁.sub
end
end Mine
namespace Mine
structure mA (W:Wd)(d:DefRec)(a:Nat):Prop where
  glob:W.mg d.name=some (.ref a)
  obj:∃o pm code doc,W.base.get? a=some o∧o.data=.func (docDef d.name d.params d.body d.scope pm code doc)∧W.base.CodeRec code d.name
theorem lQ {ko:Str→Option NameKind}{y:Str}:∀{binds:List (Str×Value)} {m:Str→Option Value},y∉binds.map (·.1)→bindL ko binds m y=m y
  | [],_,_=>rfl
  | (n,v)::r,m,h=>by
    simp only[List.map_cons,List.mem_cons,not_or] at h;unfold bindL;rw[lQ h.2];split
    · exact if_neg h.1
    · rfl
theorem lR {ko:Str→Option NameKind}{y:Str}:∀{binds:List (Str×Value)} {m:Str→Option Value},y∉binds.map (·.1)→bindC ko binds m y=m y
  | [],_,_=>rfl
  | (n,v)::r,m,h=>by
    simp only[List.map_cons,List.mem_cons,not_or] at h;unfold bindC;rw[lR h.2];split
    · rfl
    · exact if_neg h.1
theorem sN {ko:Str→Option NameKind}{y:Str}{v:Value}(hk:ko y=some .local):∀{binds:List (Str×Value)} {m:Str→Option Value},(binds.map (·.1)).Nodup→binds.lookup y=some v→bindL ko binds m y=some v
  | [],_,_,h=>nomatch h
  | (n,v')::r,m,hn,h=>by
    simp only[List.map_cons,List.nodup_cons] at hn;unfold bindL;simp only[List.lookup_cons] at h;by_cases e:y=n
    · subst e;rw[beq_self_eq_true] at h;cases h;rw[lQ hn.1,if_pos hk,if_pos rfl]
    · rw[beq_eq_false_iff_ne.mpr e] at h;exact sN hk hn.2 h
theorem o5 {ko:Str→Option NameKind}{y:Str}{v:Value}(hk:ko y=some .cell):∀{binds:List (Str×Value)} {m:Str→Option Value},(binds.map (·.1)).Nodup→binds.lookup y=some v→bindC ko binds m y=some v
  | [],_,_,h=>nomatch h
  | (n,v')::r,m,hn,h=>by
    simp only[List.map_cons,List.nodup_cons] at hn;unfold bindC;simp only[List.lookup_cons] at h;by_cases e:y=n
    · subst e;rw[beq_self_eq_true] at h;cases h;rw[lR hn.1,if_neg (by rw[hk];intro h;cases h),if_pos rfl]
    · rw[beq_eq_false_iff_ne.mpr e] at h;exact o5 hk hn.2 h
set_option tactic.hygienic true in
theorem wO {y:Str}:∀{names:List (Str×NameKind)} {n:Nat} {acc:List (Str×Addr)},((y,NameKind.cell)∈names ∨ ∃c,acc.lookup y=some c)→∃c,(cellsFrom n names acc).lookup y=some c
  | [],_,_,h=>by
    rcases h with h | h
    · cases h
    · exact h
  | (m,kd)::r,n,acc,h=>by
    unfold cellsFrom;split
    · rename_i hc
      refine wO ?_;rcases h with h | ⟨c,hc⟩
      · rcases qG h with h | h
        · cases h;exact .inr ⟨n,by rw[List.lookup_cons,beq_self_eq_true]⟩
        · exact .inl h
      · right;simp only[List.lookup_cons];cases y==m with
        | true=>exact⟨_,rfl⟩
        | false=>exact⟨c,hc⟩
    · rename_i hc
      refine wO ?_;rcases h with h | h
      · rcases qG h with h | h
        · cases h;exact absurd rfl hc
        · exact .inl h
      · exact .inr h
noncomputable def uR (sc:Scope)(names:List Str):Bool :=
  sc.kind==.function&&!sc.isCoroutine&&!sc.isGenerator&&names.all fun n=>sc.names.lookup n==some .local||sc.names.lookup n==some .cell
section
variable {prog:Program}{w:World}{W:Wd}
theorem y5 {s s₁:Shared}{F:Fz}{sc:Scope}{env:Env}{binds:List (Str×Value)}{Γ:xK}(b:wC W s F)(hsz:hz s≤hz s₁)(htk:s.toks≤s₁.toks)
    (hg:env.globals=mainGlobals)(hb:env.builtins=builtinsNs)(hsc:env.scope=sc)(hk:sc.kind=.function)(hcl:∃n,env.cells=cellsFrom n sc.names [])
    (X:InCallC s env.locals (bindL env.kindOf binds fun Z=>none) env.cells (bindC env.kindOf binds fun Z=>none) s₁)(hn:(binds.map (·.1)).Nodup)
    (hΓ:∀y bd,Γ.lookup y=some bd→(sc.names.lookup y=some .local ∨ sc.names.lookup y=some .cell)∧∃x v,bd=.val x∧binds.lookup y=some v∧x.is prog w F v) :
    St prog w W ⟨s,F,env⟩ true Γ [] s₁ F:=by
  refine zS fun nG=>?_;obtain⟨⟨h',tk,e⟩,hns,keep,hL⟩:=X.toInCall;have g:q0 W s s₁ F F:=q0.of_keeps [] b keep (fun Z h=>nomatch h) hsz htk (by rw[e]) (by rw[e];exact .rfl);have offF:∀a,s.heap.objs.size≤a→∀p∈F.obs,p.1≠a:=fun a ha p hp q=>absurd (qJ (b.has p hp)) (xB (q▸ha));have hcell:∀n c,env.cells.lookup n=some c→s₁.heap.IsCell c (bindC env.kindOf binds (fun Z=>none) n)∧env.locals<c:=fun n c hc=>⟨X.cell n c hc,X.above n c (mem_of_lookup hc)⟩;refine nG ?_;refine⟨b.grow g,g,b.size,hg,hb,by show env.scope.kind=_;rw[hsc];exact hk,⟨_,hns⟩,hL,offF _ hL,fun Z h=>(nomatch h),fun Z h=>(nomatch h),fun n c hc=>?_,fun n n' c h1 h2=>?_,fun x hx=>?_,fun y bd hy=>?_,?_⟩
  · obtain⟨h1,h2⟩:=hcell n c hc;exact⟨⟨_,h1⟩,xE h2,(fun Z=>offF _ (qB hL (qU h2))),fun Z h=>(nomatch h),b.not_tab_of_size (qB hL (qU h2)),fun Z=>qB hL (qU h2)⟩
  · exact name_of_addr X.apart (mem_of_lookup h1) (mem_of_lookup h2)
  · obtain⟨n,hcl⟩:=hcl;show ∃c,env.cells.lookup x=some c;rw[hcl];exact wO (.inl (mem_of_lookup (by rw[← hsc];exact hx)))
  · obtain⟨hkd,x,v,rfl,hv,hx⟩:=hΓ y bd hy;refine⟨v,?_,hx⟩;rcases hkd with hkd | hkd
    · have hk':env.kindOf y=some .local:=by show env.scope.names.lookup y=_;rw[hsc];exact hkd
      exact .inl ⟨hk',_,hns,sN hk' hn hv⟩
    · have hk':env.kindOf y=some .cell:=by show env.scope.names.lookup y=_;rw[hsc];exact hkd
      obtain⟨n,hcl⟩:=hcl;obtain⟨c,hc⟩:=wO (n:=n) (acc:=[]) (.inl (mem_of_lookup hkd));rw[← hcl] at hc;exact .inr ⟨.inl hk',c,hc,by have:=(hcell y c hc).1;rw[o5 hk' hn hv] at this;exact this⟩
  · intro x y bx by' a hne h1 h2 o1 o2
    refine zS fun nG=>?_;obtain⟨_,z,v,rfl,_⟩:=hΓ x bx h1;refine nG ?_;cases o1
theorem w8.length {F:Fz}{vs:List Value}{xs:List V}(h:w8 prog w F vs xs):vs.length=xs.length:=by
  induction h with
  | nil=>rfl
  | cons _ _ ih=>simp[ih]
theorem wW {F:Fz}{y:Str}{bd:Bd}:∀{names:List Str} {vs:List Value} {xs:List V},w8 prog w F vs xs→(names.zip (xs.map Bd.val)).lookup y=some bd→y∈names∧∃x v,bd=.val x∧(names.zip vs).lookup y=some v∧x.is prog w F v
  | [],_,_,_,h=>by simp at h
  | n::names,_,_,.nil,h=>by simp at h
  | n::names,_,_,.cons (v:=v) (x:=x) hv hr,h=>by
    simp only[List.map_cons,List.zip_cons_cons,List.lookup_cons] at h ⊢;cases e:y==n with
    | true =>
      rw[e] at h;cases h;exact⟨by simp only[eq_of_beq e];exact .head _,x,v,rfl,rfl,hv⟩
    | false =>
      rw[e] at h;obtain⟨h1,h2⟩:=wW hr h;exact⟨.tail _ h1,h2⟩
theorem KT {d:DefRec}{k:Nat}{a:Nat}{xs:List V}{r:V}(fn:mA W d a)(names:List Str)
    (hb:∀pm code doc (vs:List Value),vs.length=xs.length→bindArgs (docDef d.name d.params d.body d.scope pm code doc) ⟨vs,[]⟩=pure (names.zip vs))
    (hp:uR d.scope names=true)(hn:names.Nodup)(hl:names.length=xs.length)(hex:Ex prog w W k d.scope true (names.zip (xs.map Bd.val)) d.body (.ret r)):Calls prog w W (k+1) (.ref a) xs r:=by
  intro s F vs b hv A Q E rm q;refine zS fun nG=>?_;obtain⟨o,pm,code,doc,ho,hd,hc⟩:=fn.obj;refine nG ?_;unfold uR at hp;simp only[Bool.and_eq_true,beq_iff_eq,Bool.not_eq_true',List.all_eq_true,Bool.or_eq_true] at hp;refine zS fun nG=>?_;obtain⟨⟨⟨hk,hco⟩,hgen⟩,hkinds⟩:=hp;have vl:=hv.length;refine nG ?_;refine vI ?_;refine codeAny_call_function (fd:=docDef d.name d.params d.body d.scope pm code doc) rm.depth (b.base _ _ ho) hd hco hgen rfl (hc.keeps b.base) ?_;rw[hb _ _ _ _ vl];have hbm:(names.zip vs).map (·.1)=names:=by
    rw[List.map_fst_zip];exact(qL (jN hl vl.symm))
  have key:∀x∈names.zip vs,d.scope.names.lookup x.1=some .local ∨ d.scope.names.lookup x.1=some .cell:=fun x hx=>hkinds x.1 (z0 hx).1;refine qI (wD (z9 hk (fun x hx=>?_) fun env he s₁ X hz1 ht1=>?_))
  · rcases key x hx with h | h
    · exact .inl h
    · obtain⟨c,hc⟩:=wO (n:=s.heap.objs.size+1) (acc:=[]) (.inl (mem_of_lookup h));exact .inr ⟨h,by show((cellsFrom (s.heap.objs.size+1) d.scope.names []).lookup x.1).isSome=true;rw[hc];rfl⟩
  · have es:env.scope=d.scope:=by rw[he];rfl
    have st:St prog w W ⟨s,F,env⟩ true (names.zip (xs.map Bd.val)) [] s₁ F:=y5 (sc:=d.scope) (binds:=names.zip vs) b hz1 ht1 (by rw[he];rfl) (by rw[he];rfl) es hk ⟨s.heap.objs.size+1,by simp only[he];rfl⟩ X (by simp only[hbm];exact hn) fun y bd hy=>by
      refine zS fun nG=>?_;obtain⟨h1,x,v,e1,e2,e3⟩:=wW hv hy;refine nG ?_;exact⟨hkinds y h1,x,v,e1,e2,e3⟩
    refine⟨W.nolimit.keeps (fun a o e=>X.toInCall.keep a o (b.base a o e)),codeAny_func ?_⟩;refine hex ⟨s,F,env⟩ [] s₁ F es st _ _ _ (rm.deeper env) fun fl s' F' ho' hF'=>?_;obtain⟨v,rfl,hv',st'⟩:=ho';exact q v s' F' st'.grow hv'
end
end Mine
namespace Mine
variable {prog:Program}{w:World}{W:Wd}{k:Nat}
theorem kB {a b:Int}:nB prog w W k .Add (.dat (.int a)) (.dat (.int b)) (.dat (.int (a+b))):=fun s F u v bs hu hv A Q E rm q=>by
  refine xQ.eInt hu fun Z hu=>?_;refine xQ.eInt hv fun Z hv=>?_;exact P.add_int (q _ _ _ (q0.tk bs _) xQ.tk_int)
theorem j7 {a b:Int}:nB prog w W k .Sub (.dat (.int a)) (.dat (.int b)) (.dat (.int (a-b))):=fun s F u v bs hu hv A Q E rm q=>by
  refine xQ.eInt hu fun Z hu=>?_;refine xQ.eInt hv fun Z hv=>?_;exact P.sub_int (q _ _ _ (q0.tk bs _) xQ.tk_int)
theorem j8 {a b:Int}(hm:IntMulOk a b):nB prog w W k .Mult (.dat (.int a)) (.dat (.int b)) (.dat (.int (a*b))):=fun s F u v bs hu hv A Q E rm q=>by
  refine xQ.eInt hu fun Z hu=>?_;refine xQ.eInt hv fun Z hv=>?_;exact P.mul_int (q _ _ _ (q0.tk bs _) xQ.tk_int) hm
theorem yU {a b:Int}(hb:b≠0):nB prog w W k .Mod (.dat (.int a)) (.dat (.int b)) (.dat (.int (a.fmod b))):=fun s F u v bs hu hv A Q E rm q=>by
  refine xQ.eInt hu fun Z hu=>?_;refine xQ.eInt hv fun Z hv=>?_;exact PyProof.Rows.mod_int' hb (q _ _ _ (q0.tk bs _) xQ.tk_int)
theorem vV {a b:Int}(hb:b≠0)(hp:Builtin.divisionGoesByPylong a b=false):nB prog w W k .FloorDiv (.dat (.int a)) (.dat (.int b)) (.dat (.int (a.fdiv b))):=fun s F u v bs hu hv A Q E rm q=>by
  refine xQ.eInt hu fun Z hu=>?_;refine xQ.eInt hv fun Z hv=>?_;exact PyProof.Rows.floordiv_int hb (q _ _ _ (q0.tk bs _) xQ.tk_int) (.inl hp)
theorem uL {a n:Int}(hn:0≤n)(hz:(Builtin.Int.intBits a:Int)+n≤2^27):nB prog w W k .LShift (.dat (.int a)) (.dat (.int n)) (.dat (.int (a*2^n.toNat))):=fun s F u v bs hu hv A Q E rm q=>by
  refine xQ.eInt hu fun Z hu=>?_;refine xQ.eInt hv fun Z hv=>?_;exact PyProof.Rows.lshift_int hn hz (q _ _ _ (q0.tk bs _) xQ.tk_int)
theorem hV {a n:Int}(hn:0≤n):nB prog w W k .RShift (.dat (.int a)) (.dat (.int n)) (.dat (.int (a.fdiv (2^n.toNat)))):=fun s F u v bs hu hv A Q E rm q=>by
  refine xQ.eInt hu fun Z hu=>?_;refine xQ.eInt hv fun Z hv=>?_;exact PyProof.Rows.rshift_int hn (q _ _ _ (q0.tk bs _) xQ.tk_int)
theorem WC {a b:Int}:nB prog w W k .BitXor (.dat (.int a)) (.dat (.int b)) (.dat (.int (Builtin.bitXor a b))):=fun s F u v bs hu hv A Q E rm q=>by
  refine xQ.eInt hu fun Z hu=>?_;refine xQ.eInt hv fun Z hv=>?_;exact PyProof.Rows.xor_int (q _ _ _ (q0.tk bs _) xQ.tk_int)
theorem eC {a b:Bool}:nB prog w W k .Sub (.dat (.bool a)) (.dat (.bool b)) (.dat (.int (PyProof.Rows.b2i a-PyProof.Rows.b2i b))):=fun s F u v bs hu hv A Q E rm q=>by
  refine xQ.eBool hu ?_;refine xQ.eBool hv ?_;exact PyProof.Rows.sub_bool (q _ _ _ (q0.tk bs _) xQ.tk_int)
theorem fK {a:Int}:UnG prog w W k .USub (.dat (.int a)) (.dat (.int (-a))):=fun s F u bs hu A Q E rm q=>by
  refine xQ.eInt hu fun Z hu=>?_;exact P.neg_int (q _ _ _ (q0.tk bs _) xQ.tk_int)
theorem QH {a:Int}:UnG prog w W k .Invert (.dat (.int a)) (.dat (.int (Builtin.bitNot a))):=fun s F u bs hu A Q E rm q=>by
  refine xQ.eInt hu fun Z hu=>?_;exact PyProof.Rows.invert_int (q _ _ _ (q0.tk bs _) xQ.tk_int)
theorem uI {a b:Int}:p5 prog w W k .Eq (.dat (.int a)) (.dat (.int b)) (.dat (.bool (a==b))):=fun s F u v bs hu hv A Q E rm q=>by
  cases hu;refine xQ.eInt hv fun Z hv=>?_;exact P.eq_int (q _ _ _ (q0.refl bs) (.bool _))
theorem VQ {a b:Int}:p5 prog w W k .NotEq (.dat (.int a)) (.dat (.int b)) (.dat (.bool (a != b))):=fun s F u v bs hu hv A Q E rm q=>by
  refine xQ.eInt hu fun Z hu=>?_;refine xQ.eInt hv fun Z hv=>?_;exact P.ne_int (q _ _ _ (q0.refl bs) (.bool _))
theorem hH {a b:Int}:p5 prog w W k .Lt (.dat (.int a)) (.dat (.int b)) (.dat (.bool (decide (a<b)))):=fun s F u v bs hu hv A Q E rm q=>by
  cases hu;refine xQ.eInt hv fun Z hv=>?_;exact P.lt_int (q _ _ _ (q0.refl bs) (.bool _))
theorem BS {a b:Int}:p5 prog w W k .GtE (.dat (.int a)) (.dat (.int b)) (.dat (.bool (decide (a≥b)))):=fun s F u v bs hu hv A Q E rm q=>by
  refine xQ.eInt hu fun Z hu=>?_;refine xQ.eInt hv fun Z hv=>?_;exact P.ge_int (q _ _ _ (q0.refl bs) (.bool _))
theorem XV {a b:Int}:p5 prog w W k .LtE (.dat (.int a)) (.num b) (.dat (.bool (decide (a≤b)))):=fun s F u v bs hu hv A Q E rm q=>by
  refine xQ.eInt hu fun Z hu=>?_;obtain⟨t,rfl⟩:=hv;exact P.le_int (q _ _ _ (q0.refl bs) (.bool _))
theorem o6 {x y:Str}(hz:(x++y).length≤sizeLine):nB prog w W k .Add (.dat (.str x)) (.dat (.str y)) (.dat (.str (x++y))):=fun s F u v bs hu hv A Q E rm q=>by
  refine xQ.eStr hu fun Z hx=>?_;refine xQ.eStr hv fun Z hy=>?_;refine P.add_str ?_;by_cases h1:(x.length==0)=true
  · rw[if_pos h1];have e:x++y=y:=by
      have:x.cps.size=0:=beq_iff_eq.mp h1;show(⟨x.cps++y.cps⟩:Str)=y;rw[Array.size_eq_zero_iff.mp this];simp
    rw[e] at q;exact q _ _ _ (q0.refl bs) (.str hy)
  · rw[if_neg h1];by_cases h2:(y.length==0)=true
    · rw[if_pos h2];have e:x++y=x:=by
        have:y.cps.size=0:=beq_iff_eq.mp h2;show(⟨x.cps++y.cps⟩:Str)=x;rw[Array.size_eq_zero_iff.mp this];exact rfl
      rw[e] at q;exact q _ _ _ (q0.refl bs) (.str hx)
    · rw[if_neg h2];exact⟨hz,q _ _ _ (q0.tk bs _) xQ.tk_str⟩
theorem XU {x y:Str}:p5 prog w W k .Lt (.dat (.str x)) (.dat (.str y)) (.dat (.bool (decide (x.cps.toList<y.cps.toList)))):=fun s F u v bs hu hv A Q E rm q=>by
  cases hu;refine xQ.eStr hv fun Z hv=>?_;exact P.lt_str (q _ _ _ (q0.refl bs) (.bool _))
theorem XY {x y:Str}:p5 prog w W k .Gt (.dat (.str x)) (.dat (.str y)) (.dat (.bool (decide (y.cps.toList<x.cps.toList)))):=fun s F u v bs hu hv A Q E rm q=>by
  refine xQ.eStr hu fun Z hu=>?_;refine xQ.eStr hv fun Z hv=>?_;exact P.gt_str (q _ _ _ (q0.refl bs) (.bool _))
noncomputable def ZF (y x:Str):Bool:=!(Builtin.Str.occurrences x y 0 x.length 1).isEmpty
theorem XW {x y:Str}:p5 prog w W k .In (.dat (.str y)) (.dat (.str x)) (.dat (.bool (ZF y x))):=fun s F u v bs hu hv A Q E rm q=>by
  cases hu;refine xQ.eStr hv fun Z hv=>?_;exact P.in_str (q _ _ _ (q0.refl bs) (.bool _))
theorem rG {x y:Str}:p5 prog w W k .NotIn (.dat (.str y)) (.dat (.str x)) (.dat (.bool (!ZF y x))):=fun s F u v bs hu hv A Q E rm q=>by
  refine xQ.eStr hu fun Z hu=>?_;refine xQ.eStr hv fun Z hv=>?_;exact P.notIn_str (q _ _ _ (q0.refl bs) (.bool _))
theorem x8 {b:Bool}:PW prog w W k (.dat (.bool b)) b:=fun s F u bs hu A Q E rm q=>by
  refine xQ.eBool hu ?_;exact wY (q _ _ (q0.refl bs))
theorem UO {a:Int}:PW prog w W k (.dat (.int a)) (a != 0):=fun s F u bs hu A Q E rm q=>by
  refine xQ.eInt hu fun Z hu=>?_;exact P.truthy_int (q _ _ (q0.refl bs))
theorem dO {F:Fz}{s:Shared}(b:wC W s F):News {objs:=#[]} s.heap.objs.size s.heap F.obs:=fun p hp=>
  ⟨b.has p hp,qM (qJ (b.has p hp)),by exact rfl⟩
open Classical in
theorem pF {ds es:List Dat}{c:Bool}(hc:c=true↔ds=es)(ha:∀d∈ds,kqdOk 8 d=true)(hb:∀d∈es,kqdOk 8 d=true):p5 prog w W k .Eq (.dat (.list ds)) (.dat (.list es)) (.dat (.bool c)):=fun s F u v bs hu hv A Q E rm q=>by
  refine xQ.eList hu fun Z Z Z hm hr=>?_;refine xQ.eList hv fun Z Z Z hm' hr'=>?_;exact kqd_eq (dO bs) hm rfl rfl hr.dat (fun p h=>h) hm' rfl rfl hr'.dat (fun p h=>h) ha hb rm.units (by
    rw[(by cases c<;>simp_all:decide (ds=es)=c)];exact q _ _ _ (q0.refl bs) (.bool _))
open Classical in
theorem vF {ds es:List Dat}{c:Bool}(hc:c=true↔ds=es)(ha:∀d∈ds,kqdOk 8 d=true)(hb:∀d∈es,kqdOk 8 d=true):p5 prog w W k .NotEq (.dat (.list ds)) (.dat (.list es)) (.dat (.bool (!c))):=fun s F u v bs hu hv A Q E rm q=>by
  refine xQ.eList hu fun Z Z Z hm hr=>?_;refine xQ.eList hv fun Z Z Z hm' hr'=>?_;exact kqd_ne (dO bs) hm rfl rfl hr.dat (fun p h=>h) hm' rfl rfl hr'.dat (fun p h=>h) ha hb rm.units (by
    rw[(by cases c<;>simp_all:decide (ds=es)=c)];exact q _ _ _ (q0.refl bs) (.bool _))
open Classical in
theorem sG {ds:List Dat}{d:Dat}{c:Bool}(hc:c=true↔d∈ds)(ha:∀d∈ds,kqdOk 8 d=true)(hd:kqdOk 8 d=true):p5 prog w W k .NotIn (.dat d) (.dat (.list ds)) (.dat (.bool (!c))):=fun s F u v bs hu hv A Q E rm q=>by
  refine xQ.eList hv fun Z Z Z hm hr=>?_;exact kqd_notIn (dO bs) hm rfl rfl hr.dat (fun p h=>h) (xQ.dat hu) (fun p h=>h) ha hd rm.units (by
      rw[(by cases c<;>simp_all:decide (d∈ds)=c)];exact q _ _ _ (q0.refl bs) (.bool _))
theorem YJ {F:Fz}{s:Shared}(b:wC W s F){l n:Nat}{vs:List Value}(h:(l,listOf vs.toArray n)∈F.obs):IsL s.heap l vs.toArray n:=b.has _ h
theorem zU {ds es:List Dat}(hz:ds.length+es.length≤sizeLine):nB prog w W k .Add (.dat (.list ds)) (.dat (.list es)) (.dat (.list (ds++es))):=fun s F u v bs hu hv A Q E rm q=>by
  refine xQ.eList hu fun a1 vs1 n1 hm hr=>?_;refine xQ.eList hv fun a2 vs2 n2 hm' hr'=>?_;refine P.add_list (YJ bs hm) (YJ bs hm') ?_ (by simpa[hr.length,hr'.length] using hz);rw[show vs1.toArray++vs2.toArray=(vs1++vs2).toArray by simp];exact q _ _ _ (q0.push bs _ (qH _) rfl) (.list (.head _) ((hr.append hr').mono (Fz.le_ob _ _ _)))
theorem v5 {F:Fz}{vs:List Value}{ds:List Dat}(h:xV F vs ds):∀n:Nat,xV F ((List.replicate n vs).flatten) ((List.replicate n ds).flatten)
  | 0=>.nil
  | n+1=>by
    simp only[List.replicate_succ,List.replicate_succ,List.flatten_cons,List.flatten_cons];exact h.append (v5 h n)
end Mine
namespace Mine
variable {prog:Program}{w:World}{W:Wd}{k:Nat}{sc:Scope}{fn:Bool}{Γ:xK}
section
variable (prog w W)
noncomputable def K0 (k:Nat)(x i z:V):Prop :=
  ∀s F u v,wC W s F→x.is prog w F u→i.is prog w F v→(∃T id,s.TypeIs u T∧typeLookup (.type T) "__getitem__"=pure (some (.builtin id)))∧yA prog w W k (getItem u v) s F (Is prog w z)
end
theorem jG {value slice:Expr}{pos:Pos}{x i z:V}(hx:Ev prog w W k sc fn Γ value x)(hi:Ev prog w W k sc fn Γ slice i)(hg:K0 prog w W k x i z)
    (hs:autoParam (∀o v,subscripted slice false o v=operate [o,v] (getItem o v)) au5):Ev prog w W k sc fn Γ (.Subscript value slice pos) z:=fun fr P s F hsc st A Q E rm q=>
  Subscript_ (hx fr P s F hsc st A _ E rm fun u s₁ F₁ g₁ hu=>hi fr P s₁ F₁ hsc (st.step g₁) A _ E rm fun v s₂ F₂ g₂ hv=>by
    refine zS fun nG=>?_;obtain⟨⟨T,id,hT,hl⟩,hg'⟩:=hg s₂ F₂ u v ((st.step g₁).step g₂).base (V.is.mono g₂.sub hu) hv;refine nG ?_;exact tail_any hT hl (hg' A _ E rm fun z s₃ F₃ g₃ hz=>q z s₃ F₃ ((g₁.trans g₂).trans g₃) hz) (hs u v))
theorem kO {ds:List Dat}{i:Int}{d:Dat}(h0:0≤i)(hfit:i<2^63)(hd:ds[i.toNat]?=some d):K0 prog w W k (.dat (.list ds)) (.dat (.int i)) (.dat d):=fun s F u v b hu hv=>by
  refine xQ.eList hu fun Z Z Z hm hr=>?_;refine xQ.eInt hv fun Z ht=>?_;have hl:=zL b hm;obtain⟨x,hx,hd'⟩:=hr.get hd;exact⟨⟨_,_,hl.typeIs,slot_list_getitem.lookup⟩,fun A Q E rm q=>wpAny_getItem_list hl h0 hfit (by simpa using hx) (q _ _ _ (q0.refl b) hd')⟩
theorem lD {bs:Array UInt8}{i:Int}{c:UInt8}(h0:0≤i)(hc:bs[i.toNat]?=some c)(hz:bs.size≤1099511627776):K0 prog w W k (.dat (.bytes bs)) (.dat (.int i)) (.dat (.int (c.toNat:Int))):=fun s F u v b hu hv=>by
  refine xQ.eBytes hu fun t₁=>?_;refine xQ.eInt hv fun t₂ ht=>?_;refine⟨⟨"bytes",_,typeIs_bytes _ _ _,FB.slot_bytes_getitem.lookup⟩,fun A Q E rm q=>?_⟩;have hlt:i.toNat<bs.size:=by
    rw[Array.getElem?_eq_some_iff] at hc;exact hc.1
  refine getItem_gives (typeIs_bytes s _ _) (by exact rfl) FB.slot_bytes_getitem FB.entry_bytes_getitem (FB.args_bytes_getitem_2 _ _) (gives_bytes_getitem _ i _ _ c ?_ ?_) (q _ _ _ (q0.tk b _) xQ.tk_int)
  · simp only[Builtin.Bytes.fitsIndex,Bool.and_eq_true,decide_eq_true_eq];exact⟨(zT [] [i] (.L (.n 0) (.z 0)) [1] (.L (.g (.n 9223372036854775808)) (.z 0)) 1 rfl h0),(bW [bs.size,i.toNat] [i] (.l (.v 0) (.n 1099511627776)) (.t (.v 1) (.v 0)) (.L (.z 0) (.c (.v 1))) [1,1,1] (.T (.z 0) (.n 9223372036854775808)) 1 rfl hz hlt (zI _))⟩
  · rw[seqIndex_of h0 (by exact(GC h0 hlt))];simpa using hc
theorem ZR {x:Str}{i:Int}{c:Nat}(h0:0≤i)(hc:x.cps[i.toNat]?=some c)(hz:x.length≤sizeLine):K0 prog w W k (.dat (.str x)) (.dat (.int i)) (.dat (oS c)):=fun s F u v b hu hv=>by
  refine xQ.eStr hu fun Z hx=>?_;refine xQ.eInt hv fun Z ht=>?_;refine⟨⟨"str",_,typeIs_str _ _ _,PySem.F.slot_str_getitem.lookup⟩,fun A Q E rm q=>?_⟩;have hlt:i.toNat<x.cps.size:=by
    rw[Array.getElem?_eq_some_iff] at hc;exact hc.1
  refine P.getItem_str (c:=c) ?_ ?_ (q _ _ _ (q0.tk b _) xQ.tk_str)
  · simp;exact⟨(zT [] [i] (.L (.n 0) (.z 0)) [1] (.L (.n (-9223372036854775808)) (.z 0)) 1 rfl h0),(bW [i.toNat,x.cps.size] [i] (.t (.v 0) (.v 1)) (.l (.v 1) (.n 16777216)) (.L (.z 0) (.c (.v 0))) [1,1,1] (.T (.z 0) (.n 9223372036854775808)) 1 rfl hlt (hz:x.cps.size≤16777216) (zI _))⟩
  · rw[seqIndex_of (n:=x.length) h0 (by show i<(x.cps.size:Int);exact(GC h0 hlt))];simpa using hc
theorem lC {ds:List Dat}{i:Int}{d:Dat}(h0:0≤i)(hfit:i<2^63)(hd:ds[i.toNat]?=some d):K0 prog w W k (.dat (.tuple ds)) (.dat (.int i)) (.dat d):=fun s F u v b hu hv=>by
  refine xQ.eTuple hu fun a vs n hm hr=>?_;refine xQ.eInt hv fun t ht=>?_;have hl:=y4 b hm;obtain⟨x,hx,hd'⟩:=hr.get hd;have hlt:i.toNat<vs.length:=by
    rw[List.getElem?_eq_some_iff] at hx;exact hx.1
  exact⟨⟨"tuple",_,⟨_,b.has _ hm,rfl⟩,slot_tuple_getitem.lookup⟩,fun A Q E rm q=>getItem_tuple (j:=i.toNat) (items:=vs.toArray) (y4 b hm) (by exact(zT [] [_] (.L (.n 0) (.z 0)) [1] (.L (.g (.n 9223372036854775808)) (.z 0)) 1 rfl h0)) hfit (by rw[seqIndex_of h0 (by simp;exact(GC h0 hlt))]) (by simpa using hx) (q _ _ _ (q0.refl b) hd')⟩
noncomputable def pT (ds:List Dat)(lo hi st:Option Int):List Dat :=
  (sliceRange (sliceBounds lo hi st ds.length).1 (sliceBounds lo hi st ds.length).2.1 (sliceBounds lo hi st ds.length).2.2).filterMap (ds[·]?)
theorem u7 {F:Fz}{vs:List Value}{ds:List Dat}(h:xV F vs ds):∀(r:List Nat),xV F (r.filterMap (vs[·]?)) (r.filterMap (ds[·]?))
  | []=>.nil
  | i::r=>by
    have ih:=u7 h r;cases hd:ds[i]? with
    | none=>simp only[List.filterMap_cons,hd,h.get_none hd];exact ih
    | some d =>
      obtain⟨v,hv,hr⟩:=h.get hd;simp only[List.filterMap_cons,hd,hv];exact .cons hr ih
theorem rT {F:Fz}{vs:List Value}{ds:List Dat}(h:xV F vs ds)(lo hi st:Option Int):∃ws:List Value,slicePick vs.toArray lo hi st=ws.toArray∧xV F ws (pT ds lo hi st):=by
  refine⟨_,rfl,?_⟩;unfold pT;rw[(by rw[List.size_toArray,h.length]:vs.toArray.size=ds.length)];have:=u7 h (sliceRange (sliceBounds lo hi st ds.length).1 (sliceBounds lo hi st ds.length).2.1 (sliceBounds lo hi st ds.length).2.2);simpa using this
section
variable (prog w W)
noncomputable def K3 (k:Nat)(sc:Scope)(fn:Bool)(Γ:xK)(e:Option Expr)(i:Option Int):Prop :=
  ∀fr P s F,fr.env.scope=sc→St prog w W fr fn Γ P s F→∀(A:Around) (Q:Value→Shared→Prop) (E:Value→Shared→Prop),zZ k A →
    (∀v s' F',q0 W s s' F F'→(∃p:Option (Int×Tok),v=partValue p∧p.map (·.1)=i)→Q v s')→wpAny (model prog w) A (evalPart e fr.env) Q E s
end
theorem gE:K3 prog w W k sc fn Γ none none:=fun fr P s F hsc st A Q E rm q=>qI (q _ _ _ (q0.refl st.base) ⟨none,rfl,rfl⟩)
theorem kH {e:Expr}{i:Int}(h:Ev prog w W k sc fn Γ e (.dat (.int i))):K3 prog w W k sc fn Γ (some e) (some i):=fun fr P s F hsc st A Q E rm q=>
  h fr P s F hsc st A Q E rm fun v s' F' g hv=>by
    refine xQ.eInt hv fun Z ht=>?_;exact q _ _ _ g ⟨some (i,_),rfl,rfl⟩
theorem bM {p:Option (Int×Tok)}{i:Option Int}(h:p.map (·.1)=i):IsPart (partValue p) i:=by
  cases p with
  | none=>cases h;exact .none
  | some q=>cases h;exact .int _ _
theorem vA {value:Expr}{lower upper:Option Expr}{p pos:Pos}{ds:List Dat}{lo hi:Option Int}(hx:Ev prog w W k sc fn Γ value (.dat (.list ds)))(hl:K3 prog w W k sc fn Γ lower lo)(hu:K3 prog w W k sc fn Γ upper hi)(hz:ds.length≤sizeLine) :
    Ev prog w W k sc fn Γ (.Subscript value (.Slice lower upper none p) pos) (.dat (.list (pT ds lo hi none))):=fun fr P s F hsc st A Q E rm q=>
  Subscript_ (hx fr P s F hsc st A _ E rm fun u s₁ F₁ g₁ hu₁=>wpAny_Slice (hl fr P s₁ F₁ hsc (st.step g₁) A _ E rm fun vl s₂ F₂ g₂ hvl=>
    hu fr P s₂ F₂ hsc ((st.step g₁).step g₂) A _ E rm fun vu s₃ F₃ g₃ hvu=>qI (by
      have b₃:=(((st.step g₁).step g₂).step g₃).base;have g₄:=q0.pushed b₃ {cls:=.type "slice",data:=.fields #[vl,vu,.none]} (qH s₃.toks);have b₄:=b₃.grow g₄;have hu₄:=V.is.mono g₃.sub (V.is.mono g₂.sub hu₁);obtain⟨pl,rfl,hpl⟩:=hvl;obtain⟨pu,rfl,hpu⟩:=hvu;refine xQ.eList hu₄ fun Z Z Z hm hr=>?_;obtain⟨ws,he,hw⟩:=rT hr lo hi none;have hls:=zL b₄ hm;refine tail_any hls.typeIs list_getitem_lookup (wpAny_getItem_list_slice hls (Heap.IsSliceOf.new ..) (bM hpl) (bM hpu) .none (by decide) ?_ (by simp only[List.size_toArray,hr.length];exact hz)) rfl;rw[he];exact q _ _ _ ((((g₁.trans g₂).trans g₃).trans g₄).trans (q0.push b₄ _ (qH _) rfl)) (.list (.head _) (hw.mono (Fz.le_ob _ _ _))))))
theorem rD {value step:Expr}{lower upper:Option Expr}{p pos:Pos}{ds:List Dat}{lo hi:Option Int}{c:Int}(hx:Ev prog w W k sc fn Γ value (.dat (.list ds)))(hl:K3 prog w W k sc fn Γ lower lo)(hu:K3 prog w W k sc fn Γ upper hi)
    (hc:Ev prog w W k sc fn Γ step (.dat (.int c)))(hc0:c≠0)(hz:ds.length≤sizeLine) :
    Ev prog w W k sc fn Γ (.Subscript value (.Slice lower upper (some step) p) pos) (.dat (.list (pT ds lo hi (some c)))):=fun fr P s F hsc st A Q E rm q=>
  Subscript_ (hx fr P s F hsc st A _ E rm fun u s₁ F₁ g₁ hu₁=>wpAny_Slice (hl fr P s₁ F₁ hsc (st.step g₁) A _ E rm fun vl s₂ F₂ g₂ hvl=>
    hu fr P s₂ F₂ hsc ((st.step g₁).step g₂) A _ E rm fun vu s₃ F₃ g₃ hvu=>hc fr P s₃ F₃ hsc (((st.step g₁).step g₂).step g₃) A _ E rm fun vc s₅ F₅ g₅ hvc=>(by
      have b₃:=((((st.step g₁).step g₂).step g₃).step g₅).base;have g₄:=q0.pushed b₃ {cls:=.type "slice",data:=.fields #[vl,vu,vc]} (qH s₅.toks);have b₄:=b₃.grow g₄;have hu₄:=V.is.mono g₅.sub (V.is.mono g₃.sub (V.is.mono g₂.sub hu₁));obtain⟨pl,rfl,hpl⟩:=hvl;obtain⟨pu,rfl,hpu⟩:=hvu;cases hvc with
      | int htc =>
      cases hu₄ with
      | list hm hr =>
        obtain⟨ws,he,hw⟩:=rT hr lo hi (some c);have hls:=zL b₄ hm;refine tail_any hls.typeIs list_getitem_lookup (wpAny_getItem_list_slice hls (Heap.IsSliceOf.new ..) (bM hpl) (bM hpu) (.int _ _) (by simpa using hc0) ?_ (by simp only[List.size_toArray,hr.length];exact hz)) rfl;rw[he];exact q _ _ _ (((((g₁.trans g₂).trans g₃).trans g₅).trans g₄).trans (q0.push b₄ _ (qH _) rfl)) (.list (.head _) (hw.mono (Fz.le_ob _ _ _))))))
noncomputable def cE (x:Str)(lo hi:Option Int):Str:=⟨((Builtin.Str.strSliceIndices lo hi 1 x.length).filterMap (x.cps[·]?)).toArray⟩
theorem d8 {value:Expr}{lower upper:Option Expr}{p pos:Pos}{x:Str}{lo hi:Option Int}(hx:Ev prog w W k sc fn Γ value (.dat (.str x)))(hl:K3 prog w W k sc fn Γ lower lo)(hu:K3 prog w W k sc fn Γ upper hi)
    (hz:(cE x lo hi).length≤sizeLine)(hw:(Builtin.Str.strSliceIndices lo hi 1 x.length).length=x.length→cE x lo hi=x) :
    Ev prog w W k sc fn Γ (.Subscript value (.Slice lower upper none p) pos) (.dat (.str (cE x lo hi))):=fun fr P s F hsc st A Q E rm q=>
  Subscript_ (hx fr P s F hsc st A _ E rm fun u s₁ F₁ g₁ hu₁=>wpAny_Slice (hl fr P s₁ F₁ hsc (st.step g₁) A _ E rm fun vl s₂ F₂ g₂ hvl=>
    hu fr P s₂ F₂ hsc ((st.step g₁).step g₂) A _ E rm fun vu s₃ F₃ g₃ hvu=>qI (by
      have b₃:=(((st.step g₁).step g₂).step g₃).base;have g₄:=q0.pushed b₃ {cls:=.type "slice",data:=.fields #[vl,vu,.none]} (qH s₃.toks);have b₄:=b₃.grow g₄;have hu₄:=V.is.mono g₃.sub (V.is.mono g₂.sub hu₁);obtain⟨pl,rfl,hpl⟩:=hvl;obtain⟨pu,rfl,hpu⟩:=hvu;refine xQ.eStr hu₄ fun tx hm=>?_;have hpost:(sliceMade x tx pl pu none).post Q {s₃ with heap:=s₃.heap.push {cls:=.type "slice",data:=.fields #[partValue pl,partValue pu,.none]}}:=by
        unfold sliceMade slicePicked;rw[hpl,hpu];by_cases hc:((((none:Option (Int×Tok)).map (·.1)).getD 1==1&&(Builtin.Str.strSliceIndices lo hi (((none:Option (Int×Tok)).map (·.1)).getD 1) x.length).length==x.length))=true
        · rw[if_pos hc];rw[(hw (by simpa using hc))] at q;exact q _ _ _ (((g₁.trans g₂).trans g₃).trans g₄) (.str hm)
        · rw[if_neg hc];exact⟨hz,q _ _ _ ((((g₁.trans g₂).trans g₃).trans g₄).trans (q0.tk b₄ _)) xQ.tk_str⟩
      exact tail_any (typeIs_str _ _ _) PySem.F.slot_str_getitem.lookup (wpAny_getItem_str_slice (l:=pl) (u:=pu) (st:=none) ⟨_,Heap.get?_push_size _ rfl,rfl,rfl⟩ rfl hpost) rfl)))
end Mine
namespace Mine
variable {prog:Program}{w:World}{W:Wd}{k:Nat}{sc:Scope}{fn:Bool}{Γ:xK}
theorem w7 {ds:List Dat}(hz:ds.length≤sizeLine):Calls prog w W k (.builtin "len") [.dat (.list ds)] (.dat (.int (ds.length:Int))):=fun s F vs b hv A Q E rm q=>by
  refine hv.e1 fun Z h1=>?_;refine xQ.eList h1 fun Z Z Z hm hr=>?_;have e:=hr.length;refine Calls.call_len_list (zL b hm) (by simp;exact(lX (qL e) (lX (hz:ds.length≤16777216) (by decide)))) ?_;simp only[List.size_toArray,e];exact q _ _ _ ((q0.more b (xI _)).trans (q0.tk (b.grow (q0.more b (xI _))) _)) xQ.tk_int
theorem vW {x:Str}(hz:x.length≤sizeLine):Calls prog w W k (.builtin "len") [.dat (.str x)] (.dat (.int (x.length:Int))):=fun s F vs b hv A Q E rm q=>by
  refine hv.e1 fun Z h1=>?_;refine xQ.eStr h1 fun Z hm=>?_;exact P.len_str (by exact(Int.not_le.mpr (zT [x.length] [] (.l (.v 0) (.n 16777216)) [1] (.T (.c (.v 0)) (.n 9223372036854775808)) 1 rfl (hz:x.length≤16777216)))) (q _ _ _ ((q0.more b (xI _)).trans (q0.tk (b.grow (q0.more b (xI _))) _)) xQ.tk_int)
theorem nT {x:Array UInt8}(hz:x.size≤sizeLine):Calls prog w W k (.builtin "len") [.dat (.bytes x)] (.dat (.int (x.size:Int))):=fun s F vs b hv A Q E rm q=>by
  refine hv.e1 fun Z h1=>?_;refine xQ.eBytes h1 fun Z=>?_;exact len_bytes (by exact(qB (hz:x.size≤16777216) (by exact qA rfl))) (q _ _ _ ((q0.more b (xI _)).trans (q0.tk (b.grow (q0.more b (xI _))) _)) xQ.tk_int)
theorem X1 {c:Bool}:Calls prog w W k (.type "int") [.dat (.bool c)] (.dat (.int (if c then 1 else 0))):=fun s F vs b hv A Q E rm q=>by
  refine hv.e1 fun Z h1=>?_;refine xQ.eBool h1 ?_;exact call_int_bool (q _ _ _ (q0.tk b _) xQ.tk_int)
theorem eB {a:Int}:Calls prog w W k (.builtin "int.bit_length") [.dat (.int a)] (.dat (.int (Builtin.Int.intBits a:Int))):=fun s F vs b hv A Q E rm q=>by
  refine hv.e1 fun Z h1=>?_;refine xQ.eInt h1 fun Z h1=>?_;exact call_int_bit_length (q _ _ _ (q0.tk b _) xQ.tk_int)
theorem VV {a c:Int}(hc:c≠0)(hp:Builtin.divisionGoesByPylong a c=false):Calls prog w W k (.builtin "divmod") [.dat (.int a),.dat (.int c)] (.dat (.tuple [.int (a.fdiv c),.int (a.fmod c)])):=fun s F vs b hv A Q E rm q=>by
  refine hv.e2 fun Z Z h1 h2=>?_;refine xQ.eInt h1 fun Z h1=>?_;refine xQ.eInt h2 fun Z h2=>?_;refine divmod_int hc ?_ (.inl hp);have g1:=q0.tk b (.int (a.fdiv c));have b1:=b.grow g1;have g2:=q0.tk b1 (.int (a.fmod c));refine q _ _ _ ((g1.trans g2).trans (q0.push (b1.grow g2) {cls:=.type "tuple",data:=.seq [.int (a.fdiv c) s.toks,.int (a.fmod c) (s.toks+1)].toArray} (qH _) rfl)) (.tuple (.head _) (.cons (.int ?_) (.cons (.int ?_) .nil)))
  · exact .tail _ (.head _)
  · exact .head _
theorem BW {a c:Int}:Calls prog w W k (.builtin "max") [.dat (.int a),.dat (.int c)] (.dat (.int (if c>a then c else a))):=fun s F vs b hv A Q E rm q=>by
  refine hv.e2 fun Z Z h1 h2=>?_;refine xQ.eInt h1 fun Z h1=>?_;refine xQ.eInt h2 fun Z h2=>?_;refine wD (max_two_ints rm.handled fun h' tk hk hz1 ht1=>?_);refine q _ _ F (q0.of_keeps [] b hk (fun Z h=>nomatch h) hz1 ht1 rfl .rfl) ?_;show xQ F _ _;split<;>exact .int (by assumption)
theorem BV {a c:Int}:Calls prog w W k (.builtin "min") [.dat (.int a),.dat (.int c)] (.dat (.int (if c<a then c else a))):=fun s F vs b hv A Q E rm q=>by
  refine hv.e2 fun Z Z h1 h2=>?_;refine xQ.eInt h1 fun Z h1=>?_;refine xQ.eInt h2 fun Z h2=>?_;refine wD (min_two_ints rm.handled fun h' tk hk hz1 ht1=>?_);refine q _ _ F (q0.of_keeps [] b hk (fun Z h=>nomatch h) hz1 ht1 rfl .rfl) ?_;show xQ F _ _;split<;>exact .int (by assumption)
theorem rV {F:Fz}:∀{vs:List Value} {ns:List Int},xV F vs (ns.map Dat.int)→IntsAre vs ns
  | _,[],h=>by cases h;exact .nil
  | _,n::ns,h=>by
    refine h.eCons fun Z Z h r=>?_;refine xQ.eInt h fun Z h=>?_;exact .cons _ _ (rV r)
theorem WA {ns:List Int}(hr:∀n∈ns,0≤n∧n<256)(hz:ns.length≤sizeLine):Calls prog w W k (.type "bytes") [.dat (.list (ns.map Dat.int))] (.dat (.bytes (byteArr ns))):=fun s F vs b hv A Q E rm q=>by
  refine hv.e1 fun Z h1=>?_;refine xQ.eList h1 fun Z Z Z hm hd=>?_;refine wD (call_bytes_ints (zL b hm) (rV hd) hr (by rw[hd.length];simpa using hz) rm.handled fun h' t k hk hz1 ht1=>?_);exact q _ _ F (q0.of_keeps [] b hk (fun Z h=>nomatch h) hz1 ht1 rfl .rfl) .bytes
theorem BX {ds:List Dat}(hz:ds.length≤sizeLine):Calls prog w W k (.type "list") [.dat (.list ds)] (.dat (.list ds)):=fun s F vs b hv A Q E rm q=>by
  refine hv.e1 fun Z h1=>?_;refine xQ.eList h1 fun Z Z Z hm hd=>?_;refine wD (call_list_seq _ (.inl rfl) (b.has _ hm) rfl rfl (fun h' c' hk hD hz1 ht1=>?_) (by simp only[List.size_toArray,hd.length];exact hz));exact q _ _ _ ((q0.of_keeps [] b hk (fun Z h=>nomatch h) hz1 ht1 rfl .rfl).freeze (qH _) hD) (.list (.head _) (hd.mono (Fz.le_ob _ _ _)))
theorem uW {a:Int}:Calls prog w W k (.builtin "isinstance") [.dat (.int a),.con (.type "bool")] (.dat (.bool false)):=fun s F vs b hv A Q E rm q=>by
  refine hv.e2 fun Z Z h1 h2=>?_;refine xQ.eInt h1 fun Z h1=>?_;refine V.is.eCon h2 ?_;refine call_isinstance_of ?_;have g:=q0.more b (xI s.toks);obtain⟨h,gg,d,t,os⟩:=s;exact isinstance_nested_false_int (by exact rfl) (by kernel_rfl) sub_int_bool (q _ _ _ g (.bool _))
theorem hO {a:Array UInt8}:Calls prog w W k (.builtin "isinstance") [.dat (.bytes a),.con (.type "bytes")] (.dat (.bool true)):=fun s F vs b hv A Q E rm q=>by
  refine hv.e2 fun Z Z h1 h2=>?_;refine xQ.eBytes h1 fun Z=>?_;refine V.is.eCon h2 ?_;exact call_isinstance_yes (Tx:="bytes") (typeIs_bytes _ _ _) (by kernel_rfl) (by rw[isSubtype_type];kernel_rfl) (q _ _ _ (q0.refl b) (.bool _))
theorem oM {y:Str}{pos:Pos}{f:Value}(hB:kZ W sc y f):Ev prog w W k sc fn Γ (.Name y pos) (.con f):=fun fr P s F hsc st A Q E rm q=>
  wN st (hsc▸hB.kind) hB.glob hB.boot hB.nn (q _ _ _ (q0.refl st.base) rfl) hB.nd
theorem yI {y:Str}{es:List Expr}{xs:List V}{p pos:Pos}{f:Value}{r:V}(hB:kZ W sc y f)(ha:sY prog w W k sc fn Γ es xs)(hc:Calls prog w W k f xs r)
    (hs:autoParam (∀env,(starEach es env).any (·.1)=false) au1):Ev prog w W k sc fn Γ (.Call (.Name y p) es [] pos) r :=
  Y7 hB.kind hB.glob hB.boot hB.nn hB.call ha hc hs hB.nd
theorem tV:∀(l:List (Array Value)) (acc:Array Value),l.foldl (fun x1 x2=>x1++x2) acc=acc++(l.map Array.toList).flatten.toArray
  | [],acc=>by exact rfl
  | a::l,acc=>by
    simp only[List.foldl_cons,tV l];apply Array.ext';simp
theorem uK {ds:List Dat}{n:Int}(h0:0≤n)(hz:ds.length*n.toNat≤2^24)(hn:n<2^62):nB prog w W k .Mult (.dat (.list ds)) (.dat (.int n)) (.dat (.list (List.replicate n.toNat ds).flatten)):=fun s F u v bs hu hv A Q E rm q=>by
  refine xQ.eList hu fun l vs c hm hr=>?_;refine xQ.eInt hv fun t ht=>?_;have hl:=bs.has _ hm;have hsz:vs.toArray.size*n.toNat≤2^24:=by rw[List.size_toArray,hr.length];exact hz
  have e:List.foldl (fun x1 x2=>x1++x2) #[] (List.replicate (if vs.toArray.isEmpty=true then 0 else n.toNat) vs.toArray)=((List.replicate n.toNat vs).flatten).toArray:=by
    rw[tV];cases vs with
    | nil=>simp
    | cons a r=>simp
  refine wpAny_binaryOp_repeat_ref (T:="list") (U:="int") (by exact rfl) ⟨_,hl,rfl⟩ (fun s'=>typeIs_int s' n t) noFill_list_mul PySem.F.fills_int_mul pG repeat_list PySem.F.slot_int_index.lookup
    (call_meets pG (typeIs_int s n t) PySem.F.entry_int_rmul (PySem.F.args_int_rmul_2 _ _) (int___rmul___int_list n t l vs.toArray c)
      ⟨hl,rfl,⟨_,hl,rfl⟩,call_meets PySem.F.slot_list_mul ⟨_,hl,rfl⟩ PySem.F.entry_list_mul (PySem.F.args_list_mul_2 _ _)
        (eN l vs.toArray c n t (by simp[Builtin.List.listFitsIndex];exact⟨(zT [] [_] (.L (.n 0) (.z 0)) [1] (.L (.n (-9223372036854775808)) (.z 0)) 1 rfl h0),(zT [] [_] (.T (.z 0) (.n 4611686018427387904)) [1] (.T (.z 0) (.n 9223372036854775808)) 1 rfl hn)⟩) (by exact(tG (qB hsz (by exact qA rfl)))) (by simp[Builtin.List.listTooLong,sizeLine];omega))
        ⟨hl,?_⟩⟩)
  rw[e];exact q _ _ _ (q0.push bs _ (qH _) rfl) (.list (.head _) ((v5 hr _).mono (Fz.le_ob _ _ _)))
theorem Y4 {o:Expr}{name:Str}{apos pos:Pos}{x r:V}{id:String}(ho:Ev prog w W k sc fn Γ o x)
    (hm:∀(s:Shared) (F:Fz) (u:Value) (pl:Sem Bool) (A:Around) (Q:Value×List Value→Shared→Prop) (E:Value→Shared→Prop),x.is prog w F u→Q (.builtin id,[u]) s→wpAny (model prog w) A (getMethod u name pl) Q E s)
    (hc:Calls prog w W k (.builtin id) [x] r)
    (he:autoParam (∃pl:Env→Sem Bool,∀env,eval (.Call (.Attribute o name apos) [] [] pos) env=(do
      let ov←eval o env
      standAt apos.atName
      let(f,first)←holding [ov] (getMethod ov name (pl env))
      callWith pos f first (backTo pos (starEach [] env)) [])) au11):Ev prog w W k sc fn Γ (.Call (.Attribute o name apos) [] [] pos) r:=fun fr P s F hsc st A Q E rm q=>by
  obtain⟨pl,he⟩:=he;refine MethodCall_ (pl:=pl fr.env) (ho fr P s F hsc st A _ E rm fun u s₁ F₁ g₁ hu=>?_) (he _);refine hm s₁ F₁ u _ A _ E hu ?_;exact callWith_method0 (hc s₁ F₁ [u] (st.step g₁).base (.cons hu .nil) A Q E rm fun z s₂ F₂ g₂ hz=>q z s₂ F₂ (g₁.trans g₂) hz)
theorem Y3 {o e:Expr}{name:Str}{apos pos:Pos}{x y r:V}{id:String}(ho:Ev prog w W k sc fn Γ o x)(hy:Ev prog w W k sc fn Γ e y)
    (hm:∀(s:Shared) (F:Fz) (u:Value) (pl:Sem Bool) (A:Around) (Q:Value×List Value→Shared→Prop) (E:Value→Shared→Prop),x.is prog w F u→Q (.builtin id,[u]) s→wpAny (model prog w) A (getMethod u name pl) Q E s)
    (hc:Calls prog w W k (.builtin id) [x,y] r)
    (he:autoParam (∃pl:Env→Sem Bool,∀env,eval (.Call (.Attribute o name apos) [e] [] pos) env=(do
      let ov←eval o env
      standAt apos.atName
      let(f,first)←holding [ov] (getMethod ov name (pl env))
      callWith pos f first (backTo pos (starEach [e] env)) [])) au11)
    (hs:autoParam (∀env,starEach [e] env=[(false,eval e env)]) au1):Ev prog w W k sc fn Γ (.Call (.Attribute o name apos) [e] [] pos) r:=fun fr P s F hsc st A Q E rm q=>by
  obtain⟨pl,he⟩:=he;refine MethodCall_ (pl:=pl fr.env) (ho fr P s F hsc st A _ E rm fun u s₁ F₁ g₁ hu=>?_) (he _);refine hm s₁ F₁ u _ A _ E hu ?_;refine callWith_method1 ((qE hy qN (fun env=>by rw[hs];rfl):sY prog w W k sc fn Γ [e] [y]) fr P s₁ F₁ hsc (st.step g₁) pos A _ E rm fun vs s₂ F₂ g₂ hv=>?_) (hs _) rfl;refine hv.e1 fun Z h1=>?_;exact hc s₂ F₂ _ ((st.step g₁).step g₂).base (.cons (V.is.mono g₂.sub hu) (.cons h1 .nil)) A Q E rm fun z s₃ F₃ g₃ hz=>q z s₃ F₃ ((g₁.trans g₂).trans g₃) hz
theorem kP {o:Expr}{apos pos:Pos}{a:Int}(ho:Ev prog w W k sc fn Γ o (.dat (.int a)))
    (hpl:autoParam (∃pl:Env→Sem Bool,∀env,eval (.Call (.Attribute o "bit_length" apos) [] [] pos) env=(do
      let ov←eval o env
      standAt apos.atName
      let(f,first)←holding [ov] (getMethod ov "bit_length" (pl env))
      callWith pos f first (backTo pos (starEach [] env)) [])) au11) :
    Ev prog w W k sc fn Γ (.Call (.Attribute o "bit_length" apos) [] [] pos) (.dat (.int (Builtin.Int.intBits a:Int))) :=
  Y4 (id:="int.bit_length") ho (fun s F u pl A Q E hu h=>by cases hu;exact getMethod_int_bit_length h) eB hpl
theorem rS {F:Fz}:∀{vs:List Value} {xs:List Str},xV F vs (xs.map Dat.str)→∃l:List (Str×Tok),vs=strValues l∧l.map (·.1)=xs∧∀p∈l,(p.2,Dat.str p.1)∈F.tks
  | _,[],h=>by cases h;exact⟨[],rfl,rfl,fun Z h=>nomatch h⟩
  | _,x::xs,h=>by
    refine h.eCons fun Z Z h r=>?_;refine xQ.eStr h fun Z ht=>?_;obtain⟨l,rfl,e,hl⟩:=rS r;refine⟨(x,_)::l,rfl,by simp[e],fun p hp=>?_⟩;rcases qG hp with rfl | hp
    · exact ht
    · exact hl p hp
theorem BY {x:Str}{xs:List Str}(hok:JoinOk x xs=true):Calls prog w W k (.builtin "str.join") [.dat (.str x),.dat (.list (xs.map Dat.str))] (.dat (.str (Txt.join x xs))):=fun s F vs b hv A Q E rm q=>by
  refine hv.e2 fun Z Z h1 h2=>?_;refine xQ.eStr h1 fun Z hx=>?_;refine xQ.eList h2 fun Z Z Z hm hd=>?_;obtain⟨l,rfl,rfl,hl⟩:=rS hd;unfold JoinOk at hok;rw[Bool.not_eq_true'] at hok;refine call_meets PySem.F.slot_str_join (typeIs_str _ _ _) PySem.F.entry_str_join (PySem.F.args_str_join_2 _ _) (meets_str_join_list x _ _ l hok) ⟨(zL b hm),?_⟩;have hlen:=joinFit_length hok
  match l,hl,q,hlen with
  | [],_,q,hlen=>exact⟨hlen,q _ _ _ (q0.tk b _) xQ.tk_str⟩
  | [p],hl,q,_=>exact q (.str p.1 p.2) s F (q0.refl b) (.str (hl p (.head _)))
  | _::_::_,_,q,hlen=>exact⟨hlen,q _ _ _ (q0.tk b _) xQ.tk_str⟩
theorem ZY {o e:Expr}{apos pos:Pos}{x:Str}{xs:List Str}(ho:Ev prog w W k sc fn Γ o (.dat (.str x)))(he:Ev prog w W k sc fn Γ e (.dat (.list (xs.map Dat.str))))(hok:JoinOk x xs=true)
    (hpl:autoParam (∃pl:Env→Sem Bool,∀env,eval (.Call (.Attribute o "join" apos) [e] [] pos) env=(do
      let ov←eval o env
      standAt apos.atName
      let(f,first)←holding [ov] (getMethod ov "join" (pl env))
      callWith pos f first (backTo pos (starEach [e] env)) [])) au11)
    (hs:autoParam (∀env,starEach [e] env=[(false,eval e env)]) au1) :
    Ev prog w W k sc fn Γ (.Call (.Attribute o "join" apos) [e] [] pos) (.dat (.str (Txt.join x xs))) :=
  Y3 (id:="str.join") ho he (fun s F u pl A Q E hu h=>by cases hu;exact GM.join h) (BY hok) hpl hs
end Mine
namespace Mine
noncomputable abbrev pw:Program:=PySem.Challenge.pw_wy0028_01
noncomputable def US (i:Nat):Stmt:=(pw.main.body)[i]?.getD (.Pass ⟨0,0,0,0⟩)
noncomputable def JT:Stmt→DefRec
  | .FunctionDef name args body _ _ _ scope _ _ pos=>⟨name,args,body,scope,pos⟩
  | _=>⟨Str.empty,⟨[],[],none,[],[],none,[]⟩,[],⟨.function,[],false,false,[]⟩,⟨0,0,0,0⟩⟩
noncomputable def xC (i:Nat):DefRec:=JT (US i)
noncomputable def nI:List Nat:=[1,4,5,6,7,8,9,11,12,14,16,17,18,19,20,21,22,23,25,26,27,28,29,30,31,32,33,34,35,36]
structure bX (W:Wd):Prop where
  fns:∀i∈nI,∃a,mA W (xC i) a
  free:∀x∈(["len","range","enumerate","zip","reversed","bytearray","bytes","divmod","sum","isinstance","bool","str","list","max","min","int","sorted","ValueError"]:List Str),W.mg x=none
  lim:∃t,W.mg "_DIV_LIMIT"=some (.int 4000 t)
  cmax:∃t,W.mg "CHAR_MAX"=some (.int 127 t)
noncomputable def jM (w:World)(W:Wd)(k:Nat)(i:Nat)(xs:List V)(r:V):Prop:=∀a,mA W (xC i) a→Calls pw w W k (.ref a) xs r
section
variable {w:World}{W:Wd}{k:Nat}
theorem kX {i:Nat}{xs:List V}{r:V}(names:List Str)
    (hb:∀pm code doc (vs:List Value),vs.length=xs.length→bindArgs (docDef (xC i).name (xC i).params (xC i).body (xC i).scope pm code doc) ⟨vs,[]⟩=pure (names.zip vs))
    (hp:uR (xC i).scope names=true)(hn:names.Nodup)(hl:names.length=xs.length)(hex:Ex pw w W k (xC i).scope true (names.zip (xs.map Bd.val)) (xC i).body (.ret r)):jM w W (k+1) i xs r :=
  fun a fn=>KT fn names hb hp hn hl hex
theorem zW {sc:Scope}{fn:Bool}{Γ:xK}(ok:bX W){i:Nat}{y:Str}{es:List Expr}{xs:List V}{p pos:Pos}{r:V}(hc:jM w W k i xs r)(ha:sY pw w W k sc fn Γ es xs)
    (hk:autoParam (sc.names.lookup y=some .globalImplicit) au4)(hm:autoParam (i∈nI) au2)(hn:autoParam ((xC i).name=y) au4)
    (hs:autoParam (∀env,(starEach es env).any (·.1)=false) au1)(hd:autoParam ((y==("__debug__":Str))=false) au2):Ev pw w W k sc fn Γ (.Call (.Name y p) es [] pos) r:=by
  refine zS fun nG=>?_;obtain⟨a,f⟩:=ok.fns i hm;obtain⟨o,pm,code,doc,h1,h2,_⟩:=f.obj;refine nG ?_;exact Z0 (vU hk (by rw[← hn];exact f.glob) hd) h1 h2 ha (hc a f) hs
end
end Mine
namespace Mine
section
variable {prog:Program}{w:World}{W:Wd}{fr:p4}{fn:Bool}{Γ:xK}{P:yW}{s:Shared}{F:Fz}{k:Nat}{sc:Scope}
theorem St.turn (x:St prog w W fr fn Γ P s F){y:Str}{a t:Nat}{b₀ b':Bd}{h':Heap}(hy:Γ.lookup y=some b₀)(ho:b₀.own=true)(hv:z7 s.heap fr.env y (.ref a))(hp:y6 fr P F a)
    (hs:Heap.SameBut a s.heap h')(ht:s.toks≤t)(hb:b'.ok prog w fr P F h' (.ref a)):St prog w W fr fn ((y,b')::Γ) P {s with heap:=h',toks:=t} F:=by
  obtain⟨b1,g1⟩:=K7 x hs hp.new hp.frz ht;have hL:fr.env.locals≠a:=xW hp.loc;have hC:∀n c,fr.env.cells.lookup n=some c→c≠a:=fun n c hc=>hp.cel n c hc;have va:∀z u,z7 s.heap fr.env z u→z7 h' fr.env z u:=fun z u q=>q.keeps (fun m h=>h.sameBut hs hL) fun c v hc h=>h.sameBut hs (hC _ _ hc);refine⟨b1,g1,x.bsize,x.glob,x.blt,x.kind,let⟨m,hm⟩:=x.ns;⟨m,hm.sameBut hs hL⟩,x.nsNew,x.nsF,x.nsP,fun p hq=>?_,fun n c hc=>?_,x.inj,x.cells,fun z bz hz=>?_,?_⟩
  · obtain⟨h1,h2⟩:=x.prv p hq;exact⟨(hs.2 _ (hp.prv p hq)).trans h1,h2⟩
  · obtain⟨⟨u,h1⟩,h2⟩:=x.cell n c hc;exact⟨⟨u,h1.sameBut hs (hC _ _ hc)⟩,h2⟩
  · by_cases e:z=y
    · subst e;rw[x6] at hz;cases hz;exact⟨_,va _ _ hv,hb⟩
    · rw[qY e] at hz;obtain⟨u,h1,h2⟩:=x.vars z bz hz;refine⟨u,va z u h1,?_⟩;cases hbz:bz.own with
      | false =>
        cases bz with
        | val x=>exact h2
        | _=>cases hbz
      | true =>
        refine Bd.ok_same h2 hs fun c Z hc q=>?_;subst q;rw[hc] at h1;exact x.apart z y bz b₀ _ e hz hy hbz ho h1 hv
  · intro z z' bz bz' c hne h1 h2 o1 o2 v1 v2;have back:∀z bz,z≠y→Γ.lookup z=some bz→z7 h' fr.env z (.ref c)→z7 s.heap fr.env z (.ref c):=fun z bz Z hz v=>by
      obtain⟨u,w1,_⟩:=x.vars z bz hz;cases(va _ _ w1).unique v;exact w1
    by_cases e:z=y
    · have e':z'≠y:=fun q=>hne (e.trans q.symm);rw[qY e'] at h2;rw[e] at v1;cases(va _ _ hv).unique v1;exact x.apart z' y bz' b₀ a e' h2 hy o2 ho (back _ _ e' h2 v2) hv
    · rw[qY e] at h1;by_cases e':z'=y
      · rw[e'] at v2;cases(va _ _ hv).unique v2;exact x.apart z y bz b₀ a e h1 hy o1 ho (back _ _ e h1 v1) hv
      · rw[qY e'] at h2;exact x.apart z z' bz bz' c hne h1 h2 o1 o2 (back _ _ e h1 v1) (back _ _ e' h2 v2)
theorem St.new (x:St prog w W fr fn Γ P s F):y6 fr P F s.heap.objs.size where
  new:=x.grow.size
  loc:=by obtain⟨m,hm⟩:=x.ns;exact xE hm.lt
  cel:=fun n c hc=>by obtain⟨⟨v,h1⟩,_⟩:=x.cell n c hc;exact qM h1.lt
  prv:=fun p hp=>qM (qJ (x.prv p hp).1)
  frz:=fun p hp=>qM (qJ (x.base.has p hp))
theorem St.new_apart (x:St prog w W fr fn Γ P s F){z:Str}{bz:Bd}{a:Nat}(hz:Γ.lookup z=some bz)(ho:bz.own=true)(hv:z7 s.heap fr.env z (.ref a)):a<s.heap.objs.size:=by
  obtain⟨u,h1,h2⟩:=x.vars z bz hz;cases h1.unique hv;cases bz with
  | val x=>cases ho
  | lst ds=>obtain⟨c,vs,n,e,h3,_⟩:=h2;cases e;exact qJ h3
  | byt b=>obtain⟨c,n,e,h3,_⟩:=h2;cases e;exact qJ h3
  | dic kvs=>obtain⟨c,kvv,e,h3,_⟩:=h2;cases e;exact DictOf.lt h3
theorem St.store_new (x:St prog w W fr fn Γ P s F){y:Str}{o:Obj}{b:Bd}{A:Around}(hb:b.ok prog w fr P F (s.heap.push o) (.ref s.heap.objs.size))
    (hk:fr.env.kindOf y=some .local ∨ (fr.env.kindOf y=some .cell∧fn=true))
    {Q:Unit→Shared→Prop}{E:Value→Shared→Prop}(h:∀s',St prog w W fr fn ((y,b)::Γ) P s' F→Q () s'):wpAny (model prog w) A (storeName fr.env y (.ref s.heap.objs.size)) Q E {s with heap:=s.heap.push o}:=by
  have g:q0 W s {s with heap:=s.heap.push o,toks:=s.toks} F F:=q0.pushed x.base o (qH _);refine(x.step g).store hb hk (fun z bz a hz h1 h2 Z h4 e=>?_) h;cases e;obtain⟨u,w1,_⟩:=x.vars z bz h1;have hv:z7 (s.heap.push o) fr.env z u:=w1.keeps (fun m h=>Ns.off (W:=W) h x.tabL g.keep) fun c v hc hv=>IsCell.off (W:=W) hv (x.cell _ _ hc).2.2.2.2.1 g.keep;cases hv.unique h4;exact zK _ (x.new_apart h1 h2 w1)
theorem u9 {y:Str}{pos pos' lpos:Pos}{es:List Expr}{ds:List Dat}(he:sY prog w W k sc fn Γ es (ds.map V.dat))(hk:sc.names.lookup y=some .local ∨ (sc.names.lookup y=some .cell∧fn=true))(hz:autoParam (ds.length≤sizeLine) au6) :
    nX prog w W k sc fn Γ (.Assign [.Name y pos'] (.List es lpos) pos) (.next ((y,.lst ds)::Γ)):=fun fr P s F hsc st A Q E rm q=>
  kI (List_ (he fr P s F hsc st lpos A _ E rm fun vs s₁ F₁ g₁ hv=>by
    have st₁:=st.step g₁;have hr:=w8.reps hv
    refine zF (st₁.store_new (o:={cls:=.type "list",data:=.seq vs.toArray}) (b:=.lst ds) ⟨_,vs,_,rfl,Heap.get?_push_size _ rfl,hr,st₁.new⟩ (by rw[← hsc] at hk;exact hk) fun s' st'=>q _ s' F₁ ⟨rfl,st'⟩ g₁.sub)
      (by show vs.toArray.size≤sizeLine;simp only[List.size_toArray,hr.length];exact hz)))
theorem i6 {y:Str}{pos pos' lpos:Pos}(hk:sc.names.lookup y=some .local ∨ (sc.names.lookup y=some .cell∧fn=true)) :
    nX prog w W k sc fn Γ (.Assign [.Name y pos'] (.Dict [] [] lpos) pos) (.next ((y,.dic [])::Γ)):=fun fr P s F hsc st A Q E rm q=>
  kI (wpAny_Dict_empty (st.store_new (o:={cls:=.type "dict",data:=.dict #[]}) (b:=.dic []) ⟨_,[],rfl,Heap.DictOf.new s.heap,.nil,st.new⟩ (by rw[← hsc] at hk;exact hk) fun s' st'=>q _ s' F ⟨rfl,st'⟩ .rfl))
theorem cK {y:Str}{pos:Pos}{b:Bd}{A:Around}{Q:Value→Shared→Prop}{E:Value→Shared→Prop}(st:St prog w W fr fn Γ P s F)(hy:Γ.lookup y=some b)(q:∀v,z7 s.heap fr.env y v→b.ok prog w fr P F s.heap v→Q v s)
    (hd:(y==("__debug__":Str))=false)(hn:(y==("__classdict__":Str))=false):wpAny (model prog w) A (eval (.Name y pos) fr.env) Q E s:=by
  obtain⟨v,h1,h2⟩:=st.vars y b hy;exact st.load_any h1 (q v h1 h2) hd hn
theorem cV {y:Str}{p apos pos spos:Pos}{e:Expr}{ds:List Dat}{d:Dat}(hy:Γ.lookup y=some (.lst ds))(he:Ev prog w W k sc fn Γ e (.dat d))(hz:ds.length≤sizeLine)
    (hev:autoParam (∃pl:Env→Sem Bool,∀env,eval (.Call (.Attribute (.Name y p) "append" apos) [e] [] pos) env=(do
      let ov←eval (.Name y p) env
      standAt apos.atName
      let(f,first)←holding [ov] (getMethod ov "append" (pl env))
      callWith pos f first (backTo pos (starEach [e] env)) [])) au11)
    (hs:autoParam (∀env,starEach [e] env=[(false,eval e env)]) au1)(hi:autoParam (∀env,env.scope.kind=.function→interactive env=false) au8)
    (hsw:autoParam (∀env,swapsWith (.Call (.Attribute (.Name y p) "append" apos) [e] [] pos) none spos.line env=pure false) au1)
    (hd:autoParam ((y==("__debug__":Str))=false) au2)(hn:autoParam ((y==("__classdict__":Str))=false) au2) :
    nX prog w W k sc fn Γ (.Expr (.Call (.Attribute (.Name y p) "append" apos) [e] [] pos) spos) (.next ((y,.lst (ds++[d]))::Γ)):=fun fr P s F hsc st A Q E rm q=>by
  obtain⟨pl,hev⟩:=hev;refine wpAny_Expr ?_ (hi _ st.kind) (hsw _);refine MethodCall_ (pl:=pl fr.env) (cK st hy (fun v hv hb=>?_) hd hn) (hev _);refine zS fun nG=>?_;obtain⟨a,vs,n,rfl,ho,hr,hp⟩:=hb;refine nG ?_;refine getMethod_list_append ho rfl rfl ?_;refine callWith_method1 ((qE he qN (fun env=>by rw[hs];rfl):sY prog w W k sc fn Γ [e] [.dat d]) fr P s F hsc st pos A _ E rm fun us s₁ F₁ g₁ hu=>?_) (hs _) rfl;refine hu.e1 fun u h1=>?_;refine zS fun nG=>?_;have st₁:=st.step g₁;obtain⟨v,hv₁,a',vs',n',e₁,ho₁,hr₁,hp₁⟩:=st₁.vars y _ hy;have hv₀:z7 s₁.heap fr.env y (.ref a):=hv.keeps (fun m h=>Ns.off (W:=W) h st.tabL g₁.keep) fun c v hc hv=>IsCell.off (W:=W) hv (st.cell _ _ hc).2.2.2.2.1 g₁.keep;refine nG ?_;cases hv₁.unique hv₀;cases e₁;refine wpAny_list_append_plain ⟨n',ho₁⟩ (fun h' hpl hs'=>?_) (by simp only[List.size_toArray,hr₁.length];exact hz);obtain⟨n'',hpl⟩:=hpl;rw[(by simp:(vs'.toArray).push u=(vs'++[u]).toArray)] at hpl;exact q _ _ F₁ ⟨rfl,st₁.turn hy rfl hv₀ hp₁ hs' (qH s₁.toks) ⟨a,vs'++[u],n'',rfl,hpl,hr₁.append (.one h1),hp₁⟩⟩ g₁.sub
theorem St.freeze (x:St prog w W fr fn Γ P s F){y:Str}{ds:List Dat}(hy:Γ.lookup y=some (.lst ds)):∃F',F.le F'∧St prog w W fr fn ((y,.val (.dat (.list ds)))::Γ) P s F':=by
  refine zS fun nG=>?_;obtain⟨v,hv,a,vs,n,rfl,ho,hr,hp⟩:=x.vars y _ hy;have le:F.le (F.ob a (listOf vs.toArray n)):=Fz.le_ob _ _ _;refine nG ?_;refine⟨F.ob a (listOf vs.toArray n),le,?_⟩;have off:∀c,c≠a→(∀p∈F.obs,p.1≠c)→∀p∈(F.ob a (listOf vs.toArray n)).obs,p.1≠c:=fun c hc h p hq=>by
    rcases qG hq with rfl | hq
    · exact xW hc
    · exact h p hq
  have has:∀p∈(F.ob a (listOf vs.toArray n)).obs,s.heap.get? p.1=some p.2:=fun p hq=>by
    rcases qG hq with rfl | hq
    · exact ho
    · exact x.base.has p hq
  have offT:∀p∈(F.ob a (listOf vs.toArray n)).obs,¬W.tab p.1:=fun p hq=>by
    rcases qG hq with rfl | hq
    · exact hp.tab x.bsize
    · exact x.base.off p hq
  refine⟨⟨x.base.base,has,x.base.tok,x.base.tabs.mono le,offT,x.base.size⟩,⟨x.grow.keep,has,x.grow.sub.trans le,fun p hq=>?_,x.grow.tok,x.grow.toks,x.grow.size,x.grow.os,x.grow.gens,x.grow.tabs.mono le⟩,
    x.bsize,x.glob,x.blt,x.kind,x.ns,x.nsNew,off _ (xW hp.loc) x.nsF,x.nsP,fun p hq=>?_,fun n c hc=>?_,x.inj,x.cells,fun z bz hz=>?_,?_⟩
  · rcases qG hq with rfl | hq
    · exact .inr hp.new
    · exact x.grow.new p hq
  · obtain⟨h1,h2,h3⟩:=x.prv p hq;exact⟨h1,h2,off _ (hp.prv p hq) h3⟩
  · obtain⟨h1,h2,h3,h4⟩:=x.cell n c hc;exact⟨h1,h2,fun hf=>off _ (hp.cel n c hc) (h3 hf),h4⟩
  · by_cases e:z=y
    · subst e;rw[x6] at hz;cases hz;exact⟨_,hv,xQ.list (.head _) (hr.mono le)⟩
    · rw[qY e] at hz;obtain⟨u,h1,h2⟩:=x.vars z bz hz;refine⟨u,h1,?_⟩;have pr:∀c,u=.ref c→bz.own=true→y6 fr P F c→y6 fr P (F.ob a (listOf vs.toArray n)) c:=fun c hc hown q=>⟨q.new,q.loc,q.cel,q.prv,off _ (fun e'=>by
        subst e';rw[hc] at h1;exact x.apart z y bz _ _ e hz hy hown rfl h1 hv) q.frz⟩
      cases bz with
      | val x=>exact V.is.mono le h2
      | lst ds=>obtain⟨c,us,m,e,h3,h4,h5⟩:=h2;exact⟨c,us,m,e,h3,h4.mono le,pr c e rfl h5⟩
      | byt bs=>obtain⟨c,m,e,h3,h5⟩:=h2;exact⟨c,m,e,h3,pr c e rfl h5⟩
      | dic kvs=>obtain⟨c,kvv,e,h3,h4,h5⟩:=h2;exact⟨c,kvv,e,h3,h4.mono le,pr c e rfl h5⟩
  · intro z z' bz bz' c hne h1 h2 o1 o2 v1 v2;by_cases e:z=y
    · rw[e,x6] at h1;cases h1;cases o1
    · rw[qY e] at h1;by_cases e':z'=y
      · rw[e',x6] at h2;cases h2;cases o2
      · rw[qY e'] at h2;exact x.apart z z' bz bz' c hne h1 h2 o1 o2 v1 v2
theorem pW {y:Str}{ds:List Dat}{ss:List Stmt}{o:dA}(hy:Γ.lookup y=some (.lst ds))(h:Ex prog w W k sc fn ((y,.val (.dat (.list ds)))::Γ) ss o):Ex prog w W k sc fn Γ ss o:=fun fr P s F hsc st A Q E rm q=>by
  obtain⟨F',le,st'⟩:=st.freeze hy;exact h fr P s F' hsc st' A Q E rm fun fl s' F'' ho hF=>q fl s' F'' ho (le.trans hF)
end
end Mine
namespace Mine
section
variable {prog:Program}{w:World}{W:Wd}{fr:p4}{fn:Bool}{Γ Γ':xK}{P:yW}{s:Shared}{F:Fz}{k:Nat}{sc:Scope}
theorem ZC {A:Around}{Q:List Value→Shared→Prop}{E:Value→Shared→Prop}{v:Value}{d e:Dat}(b:wC W s F)(rm:zZ k A)(hv:V.is prog w F v (.dat (.tuple [d,e])))
    (q:∀u t s',q0 W s s' F F→xQ F u d→xQ F t e→Q [u,t] s'):wpAny (model prog w) A (unpackItems v 2 none) Q E s:=by
  refine xQ.eTuple hv fun Z Z Z hm hr=>?_;revert hm;refine xV.e2 hr fun u t h1 h2=>?_;intro hm;refine wD (wpAny_unpackItems_tuple (items:=[u,t].toArray) rm.handled (y4 b hm) fun h' hx hz1 ht1=>?_);exact q u t _ (q0.of_keeps [] b (fun a o e=>hx a o (qM (qJ e)) e) (fun Z h=>nomatch h) hz1 (qH _) rfl .rfl) h1 h2
theorem lY {M:Model}{A:Around}{t:Value→Sem Unit}{ts:List (Value→Sem Unit)}{x:Value}{xs:List Value}{Q:Unit→Shared→Prop}{E:Value→Shared→Prop}{s:Shared}(h:wpAny M A (holding xs (t x)) (fun Z s=>wpAny M A (assignInOrder ts xs) Q E s) E s):wpAny M A (assignInOrder (t::ts) (x::xs)) Q E s:=qC h
theorem kQ {y z:Str}{p1 p2 pos:Pos}{x1:Nat}{d e:Dat}(hy:sc.names.lookup y=some .local ∨ (sc.names.lookup y=some .cell∧fn=true))(hz:sc.names.lookup z=some .local ∨ (sc.names.lookup z=some .cell∧fn=true))
    (he:autoParam (∀env,assignEach [.Name y p1,.Name z p2] env=[(false,assign (.Name y p1) env),(false,assign (.Name z p2) env)]) au1) :
    B7 prog w W k sc fn Γ (.Tuple [.Name y p1,.Name z p2] x1 pos) (.dat (.tuple [d,e])) ((z,.val (.dat e))::(y,.val (.dat d))::Γ):=fun fr P s F v hsc st hv A Q E rm q=>by
  simp only[arm_assign_Tuple,he];refine qC (wA ?_);unfold unpack;refine qC (xS (ZC st.base rm hv fun u t s' g h1 h2=>?_));show wpAny _ A (assignInOrder [assign (.Name y p1) fr.env,assign (.Name z p2) fr.env] [u,t]) Q E s';refine lY (xS (yJ ?_));refine(st.step g).storeV (d:=.dat d) h1 (by rw[← hsc] at hy;exact hy) fun s₁ st₁=>?_;refine lY (xS (yJ (st₁.storeV (d:=.dat e) h2 (by rw[← hsc] at hz;exact hz) fun s₂ st₂=>?_)));dsimp only[assignInOrder];exact qI (q s₂ F st₂ .rfl)
theorem pB {y z:Str}{p1 p2 tpos pos:Pos}{x1:Nat}{value:Expr}{d e:Dat}(hv:Ev prog w W k sc fn Γ value (.dat (.tuple [d,e])))
    (hy:sc.names.lookup y=some .local ∨ (sc.names.lookup y=some .cell∧fn=true))(hz:sc.names.lookup z=some .local ∨ (sc.names.lookup z=some .cell∧fn=true))
    (hs:autoParam (∀env,env.scope=sc→swapsWithSole [.Tuple [.Name y p1,.Name z p2] x1 tpos] value pos.line env=pure false) au5)
    (hw:autoParam (∀env,env.scope=sc→swappedStores [.Tuple [.Name y p1,.Name z p2] x1 tpos] value env=pure none) au5) :
    nX prog w W k sc fn Γ (.Assign [.Tuple [.Name y p1,.Name z p2] x1 tpos] value pos) (.next ((z,.val (.dat e))::(y,.val (.dat d))::Γ)):=fun fr P s F hsc st A Q E rm q=>
  Assign_Tuple (hv fr P s F hsc st A _ E rm fun v s₁ F₁ g₁ hv₁=>kQ hy hz (fun Z=>rfl) fr P s₁ F₁ v hsc (st.step g₁) hv₁ A _ E rm fun s₂ F₂ st₂ hF₂=>q _ s₂ F₂ ⟨rfl,st₂⟩ (g₁.sub.trans hF₂)) (hs _ hsc) (hw _ hsc)
theorem YA {y:Str}{x:V}{A:Around}{Q:Value→Shared→Prop}{E:Value→Shared→Prop}(st:St prog w W fr fn Γ P s F)(hy:Γ.lookup y=some (.val x))(q:∀v,x.is prog w F v→Q v s)
    (hn:(y==("__classdict__":Str))=false):wpAny (model prog w) A (loadName fr.env y) Q E s:=by
  obtain⟨v,h1,h2⟩:=st.vars y _ hy;rcases h1 with⟨kk,m,hm,hv⟩ | ⟨kk | kk,c,hc,hv⟩
  · exact pQ st.kind kk hm hv (q v h2)
  · exact wpAny_loadName_cell st.kind kk hc hv (q v h2)
  · exact wpAny_loadName_free st.kind kk hc hv (q v h2) hn
theorem i8 {y:Str}{pos' pos:Pos}{e:Expr}{a b:Int}(hy:Γ.lookup y=some (.val (.dat (.int a))))(he:Ev prog w W k sc fn Γ e (.dat (.int b)))(hk:sc.names.lookup y=some .local ∨ (sc.names.lookup y=some .cell∧fn=true))
    (hn:autoParam ((y==("__classdict__":Str))=false) au2):nX prog w W k sc fn Γ (.AugAssign (.Name y pos') .Add e pos) (.next ((y,.val (.dat (.int (a+b))))::Γ)):=fun fr P s F hsc st A Q E rm q=>
  wpAny_AugAssign_Name (YA st hy (fun v hv=>he fr P s F hsc st A _ E rm fun u s₁ F₁ g₁ hu=>by
    have hv':=V.is.mono g₁.sub hv;have st₁:=st.step g₁;refine xQ.eInt hv' fun Z hv'=>?_;refine xQ.eInt hu fun Z hu=>?_;have g₂:=q0.tk st₁.base (.int (a+b));exact PySem.P.iadd_int ((st₁.step g₂).storeV (d:=.dat (.int (a+b))) xQ.tk_int (by rw[← hsc] at hk;exact hk) fun s₂ st₂=>q _ s₂ _ ⟨rfl,st₂⟩ (g₁.sub.trans g₂.sub))) hn)
theorem QG {test:Expr}{body:List Stmt}{pos:Pos}{Γs:Nat→xK}(n:Nat)(h0:∀y b,(Γs 0).lookup y=some b→Γ.lookup y=some b)
    (turn:∀i,i<n→eM prog w W k sc fn (Γs i) test true∧Ex prog w W k sc fn (Γs i) body (.next (Γs (i+1))))(last:eM prog w W k sc fn (Γs n) test false) :
    nX prog w W k sc fn Γ (.While test body [] pos) (.next (Γs n)):=fun fr P s F hsc st A Q E rm q=>by
  refine wpAny_While ?_;refine codeAny_whileLoop (fun m s'=>∃i F',m=n-i∧i≤n∧F.le F'∧St prog w W fr fn (Γs i) P s' F') ?_ n ⟨0,F,rfl,wJ _,.rfl,st.weaken h0⟩;rintro m s' ⟨i,F',rfl,hi,hF,st'⟩;by_cases hlt:i<n
  · obtain⟨h1,h2⟩:=turn i hlt;refine h1 fr P s' F' hsc st' A _ _ rm fun s₁ F₁ g₁=>?_;rw[if_pos rfl];refine h2 fr P s₁ F₁ hsc (st'.step g₁) A _ _ rm fun fl s₂ F₂ ho hF₂=>?_;obtain⟨rfl,st₂⟩:=ho;exact⟨n-(i+1),by exact(rX hlt),i+1,F₂,rfl,hlt,(hF.trans g₁.sub).trans hF₂,st₂⟩
  · have:i=n:=by exact(kK hi (wV hlt))
    subst this;refine last fr P s' F' hsc st' A _ _ rm fun s₁ F₁ g₁=>?_;rw[if_neg Bool.false_ne_true];exact vG (q _ s₁ F₁ ⟨rfl,st'.step g₁⟩ (hF.trans g₁.sub))
theorem fV {x:Int}{t:Nat}:(intKind prog w).is x (.int x t)=true:=by
  show Value.isInt x (.int x t)=true;simp[Value.isInt]
theorem y6.notModules {a:Nat}(p:y6 fr P F a)(st:St prog w W fr fn Γ P s F):(a==sysModules)=false:=by
  obtain⟨mc,hm,_⟩:=W.nodigits;have h2:=qB st.bsize p.new;have h3:(2:Nat)<W.base.objs.size:=hm.lt;have:a≠1:=by lia
  exact beq_eq_false_iff_ne.mpr this
theorem bJ (st:St prog w W fr fn Γ P s F){y:Str}{kvs:List (Int×Dat)}(hy:Γ.lookup y=some (.dic kvs)):∃a kvv,z7 s.heap fr.env y (.ref a)∧s.heap.DictOf (intKind prog w) a kvv∧jS F kvv kvs∧y6 fr P F a∧(a==sysModules)=false:=by
  refine zS fun nG=>?_;obtain⟨v,h1,a,kvv,rfl,h2,h3,h4⟩:=st.vars y _ hy;refine nG ?_;exact⟨a,kvv,h1,h2,h3,h4,h4.notModules st⟩
theorem z7.step {s':Shared}{F':Fz}{v:Value}{y:Str}(st:St prog w W fr fn Γ P s F)(g:q0 W s s' F F')(h:z7 s.heap fr.env y v):z7 s'.heap fr.env y v :=
  h.keeps (fun m h=>Ns.off (W:=W) h st.tabL g.keep) fun c v hc hv=>IsCell.off (W:=W) hv (st.cell _ _ hc).2.2.2.2.1 g.keep
theorem pD {y:Str}{pos:Pos}{v:Value}{A:Around}{Q:Value→Shared→Prop}{E:Value→Shared→Prop}(st:St prog w W fr fn Γ P s F)(hv:z7 s.heap fr.env y v)(q:Q v s)
    (hd:(y==("__debug__":Str))=false)(hn:(y==("__classdict__":Str))=false):wpAny (model prog w) A (eval (.Name y pos) fr.env) Q E s:=st.load_any hv q hd hn
theorem XG {y:Str}{p spos pos:Pos}{i e:Expr}{kvs:List (Int×Dat)}{x:Int}{d:Dat}(hy:Γ.lookup y=some (.dic kvs))(he:Ev prog w W k sc fn Γ e (.dat d))(hi:Ev prog w W k sc fn Γ i (.dat (.int x)))(hz:kvs.length≤sizeLine)
    (hs:autoParam (∀env,swapsWith e (some (.Subscript (.Name y p) i spos)) pos.line env=pure false) au1)
    (hd:autoParam ((y==("__debug__":Str))=false) au2)(hn:autoParam ((y==("__classdict__":Str))=false) au2) :
    nX prog w W k sc fn Γ (.Assign [.Subscript (.Name y p) i spos] e pos) (.next ((y,.dic (kU kvs x d))::Γ)):=fun fr P s F hsc st A Q E rm q=>
  tI (he fr P s F hsc st A _ E rm fun u s₁ F₁ g₁ hu=>by
    refine zS fun nG=>?_;have st₁:=st.step g₁;obtain⟨a,kvv,hv,_⟩:=bJ st₁ hy;refine nG ?_;refine pD st₁ hv ?_ hd hn;refine hi fr P s₁ F₁ hsc st₁ A _ E rm fun iv s₂ F₂ g₂ hiv=>?_;refine zS fun nG=>?_;have st₂:=st₁.step g₂;obtain⟨a',kvv',hv',hD,hpr,hp,hm⟩:=bJ st₂ hy;refine nG ?_;cases(hv.step st₁ g₂).unique hv';refine xQ.eInt hiv fun Z hiv=>?_;refine wpAny_setItem_pairs (knd:=intKind prog w) (k:=x) fV hD (fun h' hD' hs'=>?_) (by rw[hpr.length];exact hz);exact q _ _ F₂ ⟨rfl,st₂.turn hy rfl hv' hp hs' (xI s₂.toks) ⟨_,_,rfl,hD',hpr.stored (xQ.mono g₂.sub hu),hp⟩⟩ (g₁.sub.trans g₂.sub)) (hs _)
theorem nE {F:Fz}{x:Int}:∀{es:List (Int×Value)} {kvs:List (Int×Dat)},jS F es kvs→(valueAt es x).isSome=kvs.any (fun p=>decide (p.1=x))
  | _,_,.nil=>rfl
  | _,_,.cons (k:=k) h r=>by
    have ih:=nE (x:=x) r;unfold valueAt at ih ⊢;rw[List.find?_cons,List.any_cons];by_cases e:k=x
    · simp[e]
    · simp only[e,decide_false,Bool.false_or];exact ih
noncomputable def FA (kvs:List (Int×Dat))(x:Int):Option Dat:=(kvs.find? fun kv=>kv.1=x).map (·.2)
theorem iJ {F:Fz}{x:Int}{d:Dat}:∀{es:List (Int×Value)} {kvs:List (Int×Dat)},jS F es kvs→FA kvs x=some d→∃v,valueAt es x=some v∧xQ F v d
  | _,_,.nil,h=>nomatch h
  | _,_,.cons (k:=k) (v:=v) h r,hd=>by
    unfold valueAt;unfold FA at hd;rw[List.find?_cons] at hd ⊢;by_cases e:k=x
    · simp only[e,decide_true] at hd ⊢;cases hd;exact⟨v,rfl,h⟩
    · simp only[e,decide_false] at hd ⊢;exact iJ r hd
theorem cX {y:Str}{p pos:Pos}{e:Expr}{kvs:List (Int×Dat)}{x:Int}(hy:Γ.lookup y=some (.dic kvs))(he:Ev prog w W k sc fn Γ e (.dat (.int x)))
    (hm:autoParam (behindInMarks .In (.Name y p)=false) au9)(hd:autoParam ((y==("__debug__":Str))=false) au2)(hn:autoParam ((y==("__classdict__":Str))=false) au2) :
    eM prog w W k sc fn Γ (.Compare e [.In] [.Name y p] pos) (kvs.any fun p=>decide (p.1=x)):=fun fr P s F hsc st A Q E rm q=>
  wK (he fr P s F hsc st A _ E rm fun u s₁ F₁ g₁ hu=>by
    refine zS fun nG=>?_;have st₁:=st.step g₁;obtain⟨a,kvv,hv,hD,hpr,hp,hm'⟩:=bJ st₁ hy;refine nG ?_;refine pD st₁ hv ?_ hd hn;refine xQ.eInt hu fun Z hu=>?_;refine wpAny_in_of (knd:=intKind prog w) (k:=x) fV hm' hD.mapOf ?_;rw[nE hpr];exact wY (q _ F₁ (g₁.trans (q0.more st₁.base (xI _))))) hm
theorem XM {y:Str}{p pos:Pos}{i:Expr}{kvs:List (Int×Dat)}{x:Int}{d:Dat}(hy:Γ.lookup y=some (.dic kvs))(hi:Ev prog w W k sc fn Γ i (.dat (.int x)))(hx:FA kvs x=some d)
    (hs:autoParam (∀o v,subscripted i false o v=operate [o,v] (getItem o v)) au5)(hd:autoParam ((y==("__debug__":Str))=false) au2)(hn:autoParam ((y==("__classdict__":Str))=false) au2) :
    Ev prog w W k sc fn Γ (.Subscript (.Name y p) i pos) (.dat d):=fun fr P s F hsc st A Q E rm q=>by
  obtain⟨a,kvv,hv,_⟩:=bJ st hy;refine Subscript_ (pD st hv (hi fr P s F hsc st A _ E rm fun u s₁ F₁ g₁ hu=>?_) hd hn);have st₁:=st.step g₁;obtain⟨a',kvv',hv',hD,hpr,hp,hm'⟩:=bJ st₁ hy;cases(hv.step st g₁).unique hv';refine xQ.eInt hu fun Z hu=>?_;obtain⟨v,hv₁,hr⟩:=iJ hpr hx;exact tail_any (T:="dict") hD.mapOf.typeIs slot_dict_getitem.lookup (wpAny_getItem_of (knd:=intKind prog w) (k:=x) fV hD.mapOf hv₁ (q v _ F₁ (g₁.trans (q0.more st₁.base (xI s₁.toks))) hr)) (hs _ _)
theorem XL {y f:Str}{p p' pos:Pos}{kvs:List (Int×Dat)}(hB:kZ W sc f (.builtin "len"))(hy:Γ.lookup y=some (.dic kvs))(hz:kvs.length≤sizeLine)
    (hs:autoParam (∀env,starEach [.Name y p] env=[(false,eval (.Name y p) env)]) au1)(hd:autoParam ((y==("__debug__":Str))=false) au2)(hn:autoParam ((y==("__classdict__":Str))=false) au2) :
    Ev prog w W k sc fn Γ (.Call (.Name f p') [.Name y p] [] pos) (.dat (.int (kvs.length:Int))):=fun fr P s F hsc st A Q E rm q=>by
  rw[(rfl:eval (.Call (.Name f p') [.Name y p] [] pos) fr.env=(do callWith pos (← eval (.Name f p') fr.env) [] (backTo pos (starEach [.Name y p] fr.env)) []))];refine qC (wN st (hsc▸hB.kind) hB.glob hB.boot hB.nn ?_ hB.nd);refine zS fun nG=>?_;obtain⟨a,kvv,hv,hD,hpr,hp,hm'⟩:=bJ st hy;refine nG ?_;refine callWith_builtin (by rw[hs];rfl) ?_;rw[hs];refine evalArgs_plain (spliced_cons (pD st hv (spliced_nil ?_) hd hn));refine call_len_dict hm' hD (by rw[hpr.length];exact(lX (hz:kvs.length≤16777216) (by decide))) ?_;rw[hpr.length];exact q _ _ _ ((q0.more st.base (xI _)).trans (q0.tk (st.base.grow (q0.more st.base (xI _))) _)) xQ.tk_int
end
end Mine
namespace Mine
variable {w:World}{W:Wd}{k:Nat}
theorem QT {a b:Int}:jM w W (k+1) 16 [.dat (.int a),.dat (.int b)] (.dat (.int (a+b))) :=
  kX ["a","b"] (fun Z Z Z=>gQ fun Z Z=>rfl) (by exact rfl) (by decide) rfl
    (xR (xN (xF (qD rfl) (qD rfl) kB)))
theorem m4 {a b:Str}(hz:(a++b).length≤sizeLine):jM w W (k+1) 16 [.dat (.str a),.dat (.str b)] (.dat (.str (a++b))) :=
  kX ["a","b"] (fun Z Z Z=>gQ fun Z Z=>rfl) (by exact rfl) (by decide) rfl
    (xR (xN (xF (qD rfl) (qD rfl) (o6 hz))))
theorem rM {a b:Int}(hn:0≤b)(hz:(Builtin.Int.intBits a:Int)+b≤2^27):jM w W (k+1) 17 [.dat (.int a),.dat (.int b)] (.dat (.int (a*2^b.toNat))) :=
  kX ["a","b"] (fun Z Z Z=>gQ fun Z Z=>rfl) (by exact rfl) (by decide) rfl
    (xR (xN (xF (qD rfl) (qD rfl) (uL hn hz))))
theorem JL {a b:Int}(hm:IntMulOk a b):jM w W (k+1) 18 [.dat (.int a),.dat (.int b)] (.dat (.int (a*b))) :=
  kX ["a","b"] (fun Z Z Z=>gQ fun Z Z=>rfl) (by exact rfl) (by decide) rfl
    (xR (xN (xF (qD rfl) (qD rfl) (j8 hm))))
theorem JH {a b:Int}:jM w W (k+1) 19 [.dat (.int a),.dat (.int b)] (.dat (.int (a-b))) :=
  kX ["a","b"] (fun Z Z Z=>gQ fun Z Z=>rfl) (by exact rfl) (by decide) rfl
    (xR (xN (xF (qD rfl) (qD rfl) j7)))
theorem QR {a b:Int}:jM w W (k+1) 20 [.dat (.int a),.dat (.int b)] (.dat (.int (Builtin.bitXor a b))) :=
  kX ["a","b"] (fun Z Z Z=>gQ fun Z Z=>rfl) (by exact rfl) (by decide) rfl
    (xR (xN (xF (qD rfl) (qD rfl) WC)))
theorem cG {F:Fz}{x:Str}:∀{es:List (Str×Value)} {kvs:List (Str×Dat)},jS F es kvs→(valueAt es x).isSome=kvs.any (fun p=>decide (p.1=x))
  | _,_,.nil=>rfl
  | _,_,.cons (k:=k) h r=>by
    have ih:=cG (x:=x) r;unfold valueAt at ih ⊢;rw[List.find?_cons,List.any_cons];by_cases e:k=x
    · simp[e]
    · simp only[e,decide_false,Bool.false_or];exact ih
theorem XX {x:Str}{kvs:List (Str×Dat)}:p5 pw w W k .In (.dat (.str x)) (.dic kvs) (.dat (.bool (kvs.any fun p=>decide (p.1=x)))):=fun s F u v bs hu hv A Q E rm q=>by
  refine xQ.eStr hu fun Z hx=>?_;refine zS fun nG=>?_;obtain⟨a,o,kvv,rfl,hm,hs,hd,hp⟩:=hv;refine nG ?_;refine wpAny_in_of (knd:=PySem.strKind pw w) (k:=x) mV hs (Heap.dictOf_iff.mpr ⟨o,bs.has _ hm,hd⟩:s.heap.DictOf (PySem.strKind pw w) a kvv).mapOf ?_;rw[cG hp];exact q _ _ _ (q0.more bs (xI _)) (.bool _)
theorem iA {x:Str}{kvs:List (Str×Dat)}:jM w W (k+1) 21 [.dic kvs,.dat (.str x)] (.dat (.bool (kvs.any fun p=>decide (p.1=x)))) :=
  kX ["a","b"] (fun Z Z Z=>gQ fun Z Z=>rfl) (by exact rfl) (by decide) rfl
    (xR (xN (fZ (qD rfl) (qD rfl) XX)))
theorem fN {a b:Str}:jM w W (k+1) 11 [.dat (.str a),.dat (.str b)] (.dat (.int (PyProof.Rows.b2i (decide (b.cps.toList<a.cps.toList))-PyProof.Rows.b2i (decide (a.cps.toList<b.cps.toList))))) :=
  kX ["a","b"] (fun Z Z Z=>gQ fun Z Z=>rfl) (by exact rfl) (by decide) rfl
    (xR (xN (xF (fZ (qD rfl) (qD rfl) XY) (fZ (qD rfl) (qD rfl) XU) eC)))
theorem mX {x:V}:jM w W (k+1) 12 [x] x :=
  kX ["s"] (fun Z Z Z=>Q7 fun Z=>rfl) (by exact rfl) (by decide) rfl
    (xR (xN (qD rfl)))
theorem BO {prog:Program}{sc:Scope}{fn:Bool}{Γ:xK}{y:Str}{pos:Pos}{i:Int}(hk:sc.names.lookup y=some .globalImplicit)(hg:∃t,W.mg y=some (.int i t))(hd:autoParam ((y==("__debug__":Str))=false) au2) :
    Ev prog w W k sc fn Γ (.Name y pos) (.num i):=fun fr P s F hsc st A Q E rm q=>by
  obtain⟨t,hg⟩:=hg;exact Name_function_global st.kind (by rw[← hsc] at hk;exact hk) (loadGlobal_global (by rw[st.glob];exact W.g.keeps st.base.base) hg (q _ _ _ (q0.refl st.base) ⟨t,rfl⟩)) hd
theorem zA (ok:bX W){sc:Scope}{y:Str}{f:Value}(hy:y∈(["len","range","enumerate","zip","reversed","bytearray","bytes","divmod","sum","isinstance","bool","str","list","max","min","int","sorted","ValueError"]:List Str))
    (hk:sc.names.lookup y=some .globalImplicit)(hb:bootBuiltins y=some f)(hn:autoParam (y≠"__name__") au2)(hd:autoParam ((y==("__debug__":Str))=false) au2)(hc:autoParam ((∃id,f=.builtin id) ∨ ∃T,f=.type T) au7):kZ W sc y f :=
  ⟨hk,ok.free y hy,hb,hn,hd,hc⟩
theorem QS (ok:bX W){a b n:Int}(hz:(Builtin.Int.intBits a:Int)-n≤4000)(hb:b≠0)(hp:Builtin.divisionGoesByPylong a b=false) :
    jM w W (k+1) 4 [.dat (.int a),.dat (.int b),.dat (.int n)] (.dat (.tuple [.int (a.fdiv b),.int (a.fmod b)])) :=
  kX ["a","b","n"] (fun Z Z Z=>YC fun Z Z Z=>rfl) (by exact rfl) (by decide) rfl
    (xR (kY (b:=true) (zR (xF (kP (qD rfl)) (qD rfl) j7) (BO rfl ok.lim) XV (by rw[decide_eq_true hz];exact x8))
      (fun Z=>xR (xN (yI (zA ok (by decide) rfl PyProof.Rows.boot_divmod) (qE (qD rfl) (qE (qD rfl) qN)) (VV hb hp)))) (fun h=>nomatch h)))
end Mine
namespace Mine
variable {prog:Program}{w:World}{W:Wd}{k:Nat}{sc:Scope}{fn:Bool}{Γ:xK}
set_option tactic.hygienic true in
theorem dI {M:Model}{A:Around}{E:Value→Shared→Prop}{s:Shared}{p:Bool}{t u:Nat}{Q:Bool→Shared→Prop}(ht:0<t)(hu:0<u)(hb:NoneBooked s.heap)(hc:t=u→p=true)(q:∀b,(b=true→p=true)→Q b s) :
    wpAny M A (isSame.created p t u) Q E s:=by
  unfold isSame.created;refine QE ?_;split
  · rename_i h
    simp only[Bool.or_eq_true,beq_iff_eq] at h;rcases h with h | h
    · exact absurd ht (by rw[show t=0 from h];exact zK _)
    · exact absurd hu (by rw[show u=0 from h];exact zK _)
  refine QE ?_;split
  · rename_i h
    exact qI (q _ fun Z=>hc (beq_iff_eq.mp h))
  refine QE ?_;split
  · exact qI (q _ fun h=>nomatch h)
  · rename_i hp
    refine qC (wpAny_sharingNotTold_none hb ?_)
    first | rw[if_neg Bool.false_ne_true] | simp only[Bool.false_eq_true,if_false]
    refine qC (wpAny_sharingNotTold_none hb ?_)
    first | rw[if_neg Bool.false_ne_true] | simp only[Bool.false_eq_true,if_false]
    exact qC (jO (qC (QF (qI (q _ fun Z=>(by simpa using hp:p=true))))))
inductive mB:Dat→Prop
  | int (i:Int):mB (.int i)
  | str (x:Str):mB (.str x)
theorem QY {A:Around}{E:Value→Shared→Prop}{s:Shared}{F:Fz}{u v:Value}{d e:Dat}{Q:Bool→Shared→Prop}(b:wC W s F)(hd:mB d)(he:mB e)(hu:xQ F u d)(hv:xQ F v e)(q:∀c,(c=true→d=e)→Q c s) :
    wpAny (model prog w) A (isSame u v) Q E s:=by
  have hb:NoneBooked s.heap:=let⟨mc,h1,h2⟩:=W.booked;⟨mc,h1.keeps b.base,h2⟩;cases hd with
  | int i=>cases he with
    | int j =>
      refine xQ.eInt hu fun t hu=>?_;refine xQ.eInt hv fun t' hv=>?_;have h1:=b.tok.rng _ hu;have h2:=b.tok.rng _ hv;show wpAny _ A (if(i==j&&smallInt i)=true then isSame.cachedInt t t' else isSame.created (i==j) t t') Q E s;by_cases hc:(i==j&&smallInt i)=true
      · rw[if_pos hc];simp only[Bool.and_eq_true,beq_iff_eq] at hc;unfold isSame.cachedInt;rw[if_neg (by
          simp only[Bool.or_eq_true,beq_iff_eq,not_or];exact⟨Nat.ne_of_gt h1.1,Nat.ne_of_gt h2.1⟩)]
        exact qC (jO (qI (q _ fun Z=>by rw[hc.1])))
      · rw[if_neg hc];exact dI h1.1 h2.1 hb (fun e=>beq_iff_eq.mpr ((fun e=>by have:=b.tok.one _ hu _ hv e;cases this;rfl:t=t'→i=j) e)) fun c hc=>q c fun h=>by rw[beq_iff_eq.mp (hc h)]
    | str y =>
      refine xQ.eInt hu fun Z Z=>?_;refine xQ.eStr hv fun Z Z=>?_;exact x7 rfl (q false fun h=>nomatch h)
  | str x=>cases he with
    | int j =>
      refine xQ.eStr hu fun Z Z=>?_;refine xQ.eInt hv fun Z Z=>?_;exact x7 rfl (q false fun h=>nomatch h)
    | str y =>
      refine xQ.eStr hu fun t hu=>?_;refine xQ.eStr hv fun t' hv=>?_;show wpAny _ A (isSame.created (x==y) t t') Q E s;exact dI (b.tok.rng _ hu).1 (b.tok.rng _ hv).1 hb (fun e=>beq_iff_eq.mpr ((fun e=>by have:=b.tok.one _ hu _ hv e;cases this;rfl:t=t'→x=y) e)) fun c hc=>q c fun h=>by rw[beq_iff_eq.mp (hc h)]
theorem Z5 {p c:Bool}{d e:Dat}(hc:c=true↔d=e)(h:p=true↔d=e):p=c:=by
  cases p<;>cases c<;>first | rfl | exact(h.mpr (hc.mp rfl)) | exact(hc.mpr (h.mp rfl)).symm
theorem VA {A:Around}{E:Value→Shared→Prop}{s:Shared}{F:Fz}{u v:Value}{d e:Dat}{c:Bool}{Q:Value→Shared→Prop}(hc:c=true↔d=e)(hd:mB d)(he:mB e)(hu:xQ F u d)(hv:xQ F v e)(q:Q (.bool c) s) :
    wpAny (model prog w) A (compareOp .Eq u v) Q E s:=by
  cases hd with
  | int i=>cases he with
    | int j =>
      refine xQ.eInt hu fun t hu=>?_;refine xQ.eInt hv fun t' hv=>?_;refine P.eq_int ?_;rw[Z5 hc (beq_iff_eq.trans ⟨congrArg Dat.int,Dat.int.inj⟩)];exact q
    | str y =>
      refine xQ.eInt hu fun Z Z=>?_;refine xQ.eStr hv fun Z Z=>?_;refine PySem.EqMixed.eq_int_str ?_;rw[Z5 (p:=false) hc ⟨(nomatch ·),(nomatch ·)⟩];exact q
  | str x=>cases he with
    | int j =>
      refine xQ.eStr hu fun Z Z=>?_;refine xQ.eInt hv fun Z Z=>?_;refine PySem.EqMixed.eq_str_int ?_;rw[Z5 (p:=false) hc ⟨(nomatch ·),(nomatch ·)⟩];exact q
    | str y =>
      refine xQ.eStr hu fun t hu=>?_;refine xQ.eStr hv fun t' hv=>?_;refine P.eq_str ?_;rw[Z5 hc (beq_iff_eq.trans ⟨fun h=>congrArg Dat.str (by obtain⟨x⟩:=x;obtain⟨y⟩:=y;exact congrArg Str.mk (Array.toList_inj.mp h)),fun h=>congrArg (fun z:Str=>z.cps.toList) (Dat.str.inj h)⟩)];exact q
theorem bS {l r l' r':Expr}{p1 p2 pos:Pos}{d e:Dat}{c:Bool}(hl:Ev prog w W k sc fn Γ l (.dat d))(hr:Ev prog w W k sc fn Γ r (.dat e))(hl':Ev prog w W k sc fn Γ l' (.dat d))(hr':Ev prog w W k sc fn Γ r' (.dat e))(hc:c=true↔d=e)(hd:mB d)(he:mB e)
    (hm:autoParam (behindInMarks .Is r=false) au9)(hm':autoParam (behindInMarks .Eq r'=false) au9) :
    eM prog w W k sc fn Γ (.BoolOp .Or [.Compare l [.Is] [r] p1,.Compare l' [.Eq] [r'] p2] pos) c:=fun fr P s F hsc st A Q E rm q=>by
  refine s8 (gV ?_);refine wK (hl fr P s F hsc st A _ E rm fun u s₁ F₁ g₁ hu=>hr fr P s₁ F₁ hsc (st.step g₁) A _ E rm fun v s₂ F₂ g₂ hv=>?_) hm;have st₂:=(st.step g₁).step g₂;show wpAny _ A (isSame u v >>= fun c=>pure (Value.bool c)) _ E s₂;refine qC (QY st₂.base hd he (xQ.mono g₂.sub hu) hv fun c' hc'=>qI (wY ?_));cases c' with
  | true =>
    have:c=true:=hc.mpr (hc' rfl);subst this;exact q s₂ F₂ (g₁.trans g₂)
  | false =>
    refine gV ?_;refine wK (hl' fr P s₂ F₂ hsc st₂ A _ E rm fun u s₃ F₃ g₃ hu=>hr' fr P s₃ F₃ hsc (st₂.step g₃) A _ E rm fun v s₄ F₄ g₄ hv=>?_) hm';refine VA hc hd he (xQ.mono g₄.sub hu) hv (wY ?_);cases c with
    | true=>exact q s₄ F₄ (((g₁.trans g₂).trans g₃).trans g₄)
    | false=>exact mQ (q s₄ F₄ (((g₁.trans g₂).trans g₃).trans g₄))
end Mine
namespace Mine
inductive Sub:xK→xK→Prop
  | nil {Γ:xK}:Sub [] Γ
  | cons {y:Str} {b:Bd} {r Γ:xK}:Γ.lookup y=some b→Sub r Γ→Sub ((y,b)::r) Γ
theorem Sub.go {Γ Γ':xK}(h:Sub Γ Γ'):∀y b,Γ.lookup y=some b→Γ'.lookup y=some b:=by
  induction h with
  | nil=>intro y b e;cases e
  | @cons z c r Γ h1 _ ih =>
    intro y b e;by_cases hz:y=z
    · subst hz;rw[x6] at e;cases e;exact h1
    · rw[qY hz] at e;exact ih y b e
section
variable {prog:Program}{w:World}{W:Wd}{k:Nat}{sc:Scope}{fn:Bool}{Γ Γ' Γ'':xK}
theorem gD {ss:List Stmt}(h:Ex prog w W k sc fn Γ ss (.next Γ'))(hs:Sub Γ'' Γ'):Ex prog w W k sc fn Γ ss (.next Γ''):=BK h hs.go
end
variable {w:World}{W:Wd}{k:Nat}
noncomputable def rF [DecidableEq α] (l:List α) (e:α):Nat→Int
  | 0=>0
  | i+1=>rF l e i+(if l[i]?=some e then 1 else 0)
theorem m0 {α:Type} [DecidableEq α] {l:List α} {g:α→Dat} {e:α} (hg:∀a b,g a=g b→a=b) (ha:∀a,mB (g a)) :
    jM w W (k+1) 22 [.dat (.list (l.map g)),.dat (g e)] (.dat (.int (rF l e l.length))):=by
  refine kX ["a","b"] (fun Z Z Z=>gQ fun Z Z=>rfl) (by exact rfl) (by decide) rfl ?_;refine xU (xJ qX (.inl rfl)) ?_;let Γs:Nat→xK:=fun i=>[("count",.val (.dat (.int (rF l e i)))),("a",.val (.dat (.list (l.map g)))),("b",.val (.dat (g e)))];refine xU (yE (Γs:=Γs) (n:=l.length) (xs:=(l.map g).map V.dat) (cZ (qD rfl) rfl) (Sub.cons rfl (.cons rfl (.cons rfl .nil))).go ?_ (.inl ⟨by simp,rfl⟩)) (xR (xN (qD rfl)));intro i x hi hx;have hx':x=V.dat (g l[i]):=by
    simp[hi] at hx;exact hx.symm
  subst hx';refine⟨_,xY (.inl rfl),?_⟩;refine xU (Γ':=Γs (i+1)) ?_ wX;have hb:decide (l[i]=e)=true↔g l[i]=g e:=by
    simp only[decide_eq_true_iff];exact⟨fun h=>by rw[h],hg _ _⟩
  refine kY (bS (qD rfl) (qD rfl) (qD rfl) (qD rfl) hb (ha _) (ha _)) (fun h=>?_) (fun h=>?_)
  · refine gD (xU (i8 rfl qX (.inl rfl)) wX) (.cons ?_ (.cons rfl (.cons rfl .nil)));have:l[i]=e:=by simpa using h
    show some _=some _;dsimp only[rF];simp[List.getElem?_eq_getElem hi,this]
  · refine gD wX (.cons ?_ (.cons rfl (.cons rfl .nil)));have:¬l[i]=e:=by simpa using h
    show some _=some _;dsimp only[rF];simp[List.getElem?_eq_getElem hi,this]
theorem uA {α:Type} [DecidableEq α] {l:List α} {g:α→Dat} {e:α} (hg:∀a b,g a=g b→a=b) (ha:∀a,mB (g a)) {n:Nat} (hn:l[n]?=some e) (hlt:∀i,i<n→l[i]?≠some e) (ok:bX W) :
    jM w W (k+1) 23 [.dat (.list (l.map g)),.dat (g e)] (.dat (.int n)):=by
  refine kX ["a","b"] (fun Z Z Z=>gQ fun Z Z=>rfl) (by exact rfl) (by decide) rfl ?_;let Γs:Nat→xK:=fun i=>[("a",.val (.dat (.list (l.map g)))),("b",.val (.dat (g e)))];have hen:∀(ds:List Dat) (j i:Nat),(uT j ds)[i]?=(ds[i]?).map fun d=>Dat.tuple [.int ((j+i:Nat):Int),d]:=by
    intro ds
    induction ds with
    | nil=>intro j i;exact rfl
    | cons d r ih =>
      intro j i;cases i with
      | zero=>exact rfl
      | succ i =>
        have:=ih (j+1) i;dsimp only[uT];simp only[List.getElem?_cons_succ,this];rw[show j+1+i=j+(i+1) by exact(Nat.add_right_comm _ _ _)]
  have hx':∀(i:Nat) (x:V),((uT 0 (l.map g)).map V.dat)[i]?=some x→∃a,l[i]?=some a∧x=V.dat (.tuple [.int (i:Int),g a]):=fun i x hx=>by
    rw[List.getElem?_map,hen,List.getElem?_map] at hx;cases h:l[i]? with
    | none=>rw[h] at hx;cases hx
    | some a =>
      rw[h] at hx;simp at hx;exact⟨a,rfl,hx.symm⟩
  refine xR (iY (Γs:=Γs) (n:=n) (c8 (zA ok (by decide) rfl (by decide +kernel):kZ W (xC 23).scope "enumerate" (.type "enumerate")) (qD rfl)) (Sub.cons rfl (.cons rfl .nil)).go ?_ (.inr ⟨V.dat (.tuple [.int (n:Int),g e]),.dat (.int n),?_,rfl,?_⟩))
  · intro i x hi hx;obtain⟨a,h1,rfl⟩:=hx' i x hx;refine⟨_,kQ (.inl rfl) (.inl rfl),?_⟩;refine gD (xU (Γ':=_) (kY (bS (qD rfl) (qD rfl) (qD rfl) (qD rfl) (⟨fun h=>(nomatch h),fun h=>absurd (by rw[h1,hg _ _ h]) (hlt i hi)⟩:false=true↔g a=g e) (ha _) (ha _)) (fun h=>nomatch h) (fun Z=>wX)) wX) (.cons rfl (.cons rfl .nil))
  · simp only[List.getElem?_map,hen,List.getElem?_map,hn];simp
  · refine⟨_,kQ (.inl rfl) (.inl rfl),?_⟩;exact xR (kY (bS (qD rfl) (qD rfl) (qD rfl) (qD rfl) (⟨fun Z=>rfl,fun Z=>rfl⟩:true=true↔g e=g e) (ha _) (ha _)) (fun Z=>xR (xN (qD rfl))) (fun h=>nomatch h))
end Mine
namespace Mine
variable {w:World}{W:Wd}{k:Nat}
theorem xX {Γ:xK}{z:Str}{c:Bd}(h:Γ.lookup z=none):∀y b,Γ.lookup y=some b→List.lookup y ((z,c)::Γ)=some b:=fun y b e=>by
  by_cases hz:y=z
  · subst hz;rw[h] at e;cases e
  · rw[qY hz];exact e
theorem fU {Γ:xK}{z z':Str}{c c':Bd}(h:Γ.lookup z=none)(h':Γ.lookup z'=none):∀y b,Γ.lookup y=some b→List.lookup y ((z',c')::(z,c)::Γ)=some b:=fun y b e=>by
  by_cases hz:y=z'
  · subst hz;rw[h'] at e;cases e
  · rw[qY hz];exact xX h y b e
theorem xG {α β:Type}(l:List α)(f:α→β):l.flatMap (fun x=>[f x])=l.map f:=by
  induction l with
  | nil=>rfl
  | cons a r ih=>simp[ih]
noncomputable def v4 (names:List Str)(c:Nat):List Str:=names++names.map fun n=>n++(⟨#[c]⟩:Str)
noncomputable def wM (l:List Nat):List Str:=l.foldl v4 [Str.empty]
theorem iC (l:List Nat)(c:Nat):wM (l++[c])=v4 (wM l) c:=by unfold wM;rw[List.foldl_append];rfl
theorem fO (l:List Nat):(wM l).length=2^l.length:=by
  suffices h:∀(l:List Nat) (a:List Str),(l.foldl v4 a).length=a.length*2^l.length by
    have:=h l [Str.empty];simpa[wM] using this
  intro l
  induction l with
  | nil=>intro a;simp
  | cons c r ih =>
    intro a;simp only[List.foldl_cons,ih];simp[v4,Nat.pow_succ];rw[← Nat.mul_two,Nat.mul_assoc,Nat.mul_comm 2]
theorem aG (l:List Nat):∀n∈wM l,n.length≤l.length:=by
  suffices h:∀(l:List Nat) (a:List Str) (m:Nat),(∀n∈a,n.length≤m)→∀n∈l.foldl v4 a,n.length≤m+l.length by
    intro n hn;have:=h l [Str.empty] 0 (fun n hn=>by cases qF hn;exact qH _) n hn;exact(qB this (qL (yB _ _)))
  intro l
  induction l with
  | nil=>intro a m h;simpa using h
  | cons c r ih =>
    intro a m h n hn;have:=ih (v4 a c) (m+1) (fun n hn=>by
      rcases qP hn with h1 | h1
      · exact qW (h n h1)
      · obtain⟨q,hq,rfl⟩:=qS h1;have:=h q hq;show(q.cps++#[c]).size≤m+1;rw[Array.size_append];exact z5 this) n hn
    simp;exact(qB this (qL (vL _ _ _)))
section
variable {prog:Program}{sc:Scope}{fn:Bool}{Γ:xK}
theorem z6 {α:Type}{tgt e:Expr}{l:List α}{h:α→Dat}(he:Ev prog w W k sc fn Γ e (.dat (.list (l.map h))))(ht:autoParam (w5 tgt=true) au4):wR prog w W k sc fn Γ tgt e (l.map fun a=>V.dat (h a)):=by
  have:=cZ he ht;simp only[List.map_map] at this;exact this
theorem vR {α β:Type}{l:List α}{f:α→β}{i:Nat}{x:β}(h:(l.map f)[i]?=some x):∃hi:i<l.length,x=f l[i]:=by
  rw[List.getElem?_map] at h;cases hl:l[i]? with
  | none=>rw[hl] at h;cases h
  | some a =>
    rw[hl] at h;obtain⟨hi,rfl⟩:=List.getElem?_eq_some_iff.mp hl;exact⟨hi,by simpa using h.symm⟩
theorem j4 {α:Type}{l:List α}{i:Nat}(hi:i<l.length):l.take (i+1)=l.take i++[l[i]]:=by
  simp only[List.take_add_one,List.getElem?_eq_getElem hi];rfl
end
theorem ZJ (ok:bX W){x:Str}(ha:x.cps.all (·<128)=true)(hz:x.length≤8):jM w W (k+2) 26 [.dat (.str x)] (.dat (.list ((wM x.cps.toList).map Dat.str))):=by
  refine kX ["letters"] (fun Z Z Z=>Q7 fun Z=>rfl) (by exact rfl) (by decide) rfl ?_;refine xU (xJ (wS (ds:=[.str Str.empty]) (qE tX qN)) (.inl rfl)) ?_;let Γs:Nat→xK:=fun i=>[("names",.val (.dat (.list ((wM (x.cps.toList.take i)).map Dat.str)))),("letters",.val (.dat (.str x)))];have hsz:x.cps.toList.length≤8:=by simpa[Str.length] using hz
  refine xU (yE (Γs:=Γs) (n:=x.cps.toList.length) (Z1 (qD rfl) rfl ha) (Sub.cons rfl (.cons rfl .nil)).go ?_ (.inl ⟨by simp,rfl⟩)) (xR (xN ?_))
  · intro i c hi hx;obtain⟨_,rfl⟩:=vR hx;refine⟨_,xY (.inr ⟨rfl,rfl⟩),?_⟩;have hlen:(wM (x.cps.toList.take i)).length≤256:=by
      simp only[fO,show 256=2^8 from rfl];exact xZ (by exact qA rfl) (by rw[List.length_take];exact(iM hsz))
    refine gD (xU (xJ (xF (qD rfl) (vJ (fun n=>[Dat.str (n++(⟨#[x.cps.toList[i]]⟩:Str))]) (by exact rfl) (z6 (qD rfl)) (fun n hn=>?_) ?_) (zU ?_)) (.inl rfl)) wX) (.cons ?_ (.cons rfl .nil))
    · refine⟨_,true,xY (.inl rfl),xX rfl,wH,fun Z=>x9 (zW ok (m4 ?_) (qE (qD rfl) (qE (qD rfl) qN))),fun h=>nomatch h⟩;have:=aG _ n hn;show(n.cps++#[_]).size≤sizeLine;rw[Array.size_append];show n.cps.size+1≤16777216;exact(z5 (qB (qB this (by rw[List.length_take];exact(iM hsz)):n.cps.size≤8) (by exact qA rfl)))
    · simp only[xG,List.length_map];exact qB hlen (by exact qA rfl)
    · simp only[xG,List.length_map,List.length_map];exact qB (w0 hlen hlen) (by exact qA rfl)
    · show some _=some _;simp only[j4 hi,iC,v4,xG,List.map_append,List.map_map];rfl
  · have:=qD (prog:=pw) (w:=w) (W:=W) (k:=k+1) (sc:=(xC 26).scope) (fn:=true) (Γ:=Γs x.cps.toList.length) (y:="names") (pos:=⟨0,0,0,0⟩) rfl;refine qD ?_;show some _=some _;rw[List.take_length]
end Mine
namespace Mine
variable {w:World}{W:Wd}{k:Nat}
theorem dM {ds:List Dat}{a b:Nat}{lo hi:Option Int}(e:sliceBounds lo hi none ds.length=((a:Int),(b:Int),1)):pT ds lo hi none=(ds.drop a).take (b-a):=by
  unfold pT;rw[e];show List.filterMap (fun x=>ds[x]?) (sliceRange a b 1)=_;simp only[sliceRange_one];have:=pick_run ds.toArray a (b-a);simpa using this
theorem WV {ds:List Dat}{n:Nat}:pT ds (some (n:Int)) none none=ds.drop n:=by
  have e:sliceBounds (some (n:Int)) none none ds.length=(((min n ds.length:Nat):Int),((ds.length:Nat):Int),1):=by
    simp only[sliceBounds,Option.getD_none,show(1:Int)>0 by decide,if_true,if_neg (show ¬((n:Int)<0) by exact FL)];congr 1;lia
  rw[dM e,kmk_drop_min,List.take_of_length_le (by simp only[List.length_drop];omega)]
theorem WT {ds:List Dat}{n:Nat}:pT ds none (some (n:Int)) none=ds.take n:=by
  have e:sliceBounds none (some (n:Int)) none ds.length=(((0:Nat):Int),((min n ds.length:Nat):Int),1):=by
    simp only[sliceBounds,Option.getD_none,show(1:Int)>0 by decide,if_true,if_neg (show ¬((n:Int)<0) by exact FL)];congr 1;congr 1;lia
  rw[dM e,List.drop_zero,Nat.sub_zero,kmk_take_min]
theorem WU {ds:List Dat}{n:Nat}(h:0<n):pT ds (some (-(n:Int))) none none=ds.drop (ds.length-n):=by
  have e:sliceBounds (some (-(n:Int))) none none ds.length=(((ds.length-n:Nat):Int),((ds.length:Nat):Int),1):=by
    simp only[sliceBounds,Option.getD_none,show(1:Int)>0 by decide,if_true,if_pos (show(-(n:Int))<0 by exact(zT [_] [] (.t (.n 0) (.v 0)) [1] (.T (.g (.c (.v 0))) (.n 0)) 1 rfl h))];congr 1;grind
  rw[dM e,List.take_of_length_le (by rw[List.length_drop];exact(Nat.le_refl _))]
theorem JW {ds:List Dat}{a n:Nat}(h:0<n)(ha:a≤ds.length):pT ds (some (a:Int)) (some (-(n:Int))) none=(ds.drop a).take (ds.length-n-a):=by
  have e:sliceBounds (some (a:Int)) (some (-(n:Int))) none ds.length=((a:Int),((ds.length-n:Nat):Int),1):=by
    simp only[sliceBounds,Option.getD_none,show(1:Int)>0 by decide,if_true,if_pos (show(-(n:Int))<0 by exact(zT [_] [] (.t (.n 0) (.v 0)) [1] (.T (.g (.c (.v 0))) (.n 0)) 1 rfl h)),if_neg (show ¬((a:Int)<0) by exact FL)];congr 1
    · lia
    · congr 1;grind
  rw[dM e]
theorem JV {ds:List Dat}:pT ds none none (some (-1))=ds.reverse:=by
  unfold pT;have e:sliceBounds none none (some (-1)) ds.length=(((ds.length:Nat):Int)-1,-1,-1):=by
    exact rfl
  rw[e];have key:sliceRange ((ds.length:Int)-1) (-1) (-1)=(List.range ds.length).map fun i=>ds.length-1-i:=by
    unfold sliceRange;simp only[if_neg (show ¬((-1:Int)>0) by decide)];have hc:(if(ds.length:Int)-1>-1 then((ds.length:Int)-1 - -1 - -1-1)/(- -1) else 0).toNat=ds.length:=by
      split
      · simp only[show(- -1:Int)=1 by rfl,Int.ediv_one];exact(nH [_,_] [] (.L (.s (.s (.s (.s (.c (.v 1)) (.n 1)) (.n (-1))) (.n (-1))) (.n 1)) (.c (.v 0))) (.E (.c (.v 0)) (.s (.s (.s (.s (.c (.v 1)) (.n 1)) (.n (-1))) (.n (-1))) (.n 1))) [0,1] [1,0] (.e (.v 0) (.v 1)) 1 1 rfl (zI _) (zO (cI [_] [] [] (.L (.n 0) (.s (.s (.s (.s (.c (.v 0)) (.n 1)) (.n (-1))) (.n (-1))) (.n 1))) 1 rfl)))
      · exact(rY [_] [] (.L (.s (.c (.v 0)) (.n 1)) (.n (-1))) [0] [1] (.e (.n 0) (.v 0)) 1 1 rfl (Int.not_lt.mp ‹_›))
    simp only[hc];apply zN;intro i hi;have:=List.mem_range.mp hi;exact(nq6 [_,_,_,_,_] [] (.L (.p (.s (.c (.v 2)) (.n 1)) (.m (-1) (.c (.v 3)))) (.c (.v 0))) (.E (.c (.v 0)) (.p (.s (.c (.v 2)) (.n 1)) (.m (-1) (.c (.v 3))))) (.l (.v 4) (.p (.v 1) (.v 3))) (.e (.p (.v 1) (.v 3)) (.v 4)) (.l (.v 2) (.p (.v 4) (.n 1))) (.e (.p (.v 4) (.n 1)) (.v 2)) [0,1,1,0,1,0] [1,0,0,1,0,1] (.e (.v 0) (.v 1)) 1 1 rfl (zI _) (zO (zT [_,_] [] (.t (.v 1) (.v 0)) [1] (.L (.n 0) (.p (.s (.c (.v 0)) (.n 1)) (.m (-1) (.c (.v 1))))) 1 rfl this)) (jR _ _) (qQ (kN [_,_,_] [] (.t (.v 0) (.v 2)) (.l (.v 2) (.p (.v 1) (.n 1))) [1,1] (.l (.v 0) (.v 1)) 1 rfl this (jR _ _))) (jR _ _) (qQ (zT [_,_] [] (.t (.v 1) (.v 0)) [1] (.l (.n 1) (.v 0)) 1 rfl this)))
  show List.filterMap (fun x=>ds[x]?) (sliceRange ((ds.length:Int)-1) (-1) (-1))=_;simp only[key,List.filterMap_map];apply List.ext_getElem?;intro j;have h1:∀(m:Nat),m≤ds.length→List.filterMap ((fun x=>ds[x]?)∘fun i=>ds.length-1-i) (List.range m)=ds.reverse.take m:=by
    intro m
    induction m with
    | zero=>intro _;exact rfl
    | succ m ih =>
      intro hm;simp only[List.range_succ,List.filterMap_append,ih (by exact(Nat.le_of_lt hm)),List.take_add_one];congr 1;simp only[List.getElem?_eq_getElem (by simpa using(by exact hm:m<ds.length):m<ds.reverse.length),List.getElem_reverse];simp[List.getElem?_eq_getElem (show ds.length-1-m<ds.length by exact(kN [_,_,_] [] (.l (.v 0) (.v 2)) (.e (.p (.v 2) (.n 1)) (.v 1)) [1,1] (.t (.v 0) (.v 1)) 1 rfl (Nat.sub_le _ _) (Nat.sub_add_cancel (zT [_,_] [] (.l (.p (.v 1) (.n 1)) (.v 0)) [1] (.l (.n 1) (.v 0)) 1 rfl hm))))]
  rw[h1 ds.length (Nat.le_refl _),List.take_of_length_le (by simp)]
theorem eQ {α β:Type}{f:α→Dat}{g:β→Dat}:∀(l:List α) (r:List β),GD (l.map f) (r.map g)=(l.zip r).map fun p=>Dat.tuple [f p.1,g p.2]
  | [],r=>by exact rfl
  | a::l,[]=>by exact rfl
  | a::l,b::r=>congrArg (Dat.tuple [f a,g b]::·) (eQ l r)
section
variable {prog:Program}{sc:Scope}{fn:Bool}{Γ:xK}
theorem tB {α β:Type}{e e':Expr}{elts:List Expr}{x1:Nat}{tp:Pos}{y:Str}{p pos:Pos}{l:List α}{r:List β}{f:α→Dat}{g:β→Dat}(hB:kZ W sc y (.type "zip"))
    (he:Ev prog w W k sc fn Γ e (.dat (.list (l.map f))))(he':Ev prog w W k sc fn Γ e' (.dat (.list (r.map g))))
    (hs:autoParam (∀env,starEach [e,e'] env=[(false,eval e env),(false,eval e' env)]) au1)(hs':autoParam (∀env,starEach [e'] env=[(false,eval e' env)]) au1) :
    wR prog w W k sc fn Γ (.Tuple elts x1 tp) (.Call (.Name y p) [e,e'] [] pos) ((l.zip r).map fun q=>V.dat (.tuple [f q.1,g q.2])):=by
  have:=PM (elts:=elts) (x1:=x1) (tp:=tp) (p:=p) (pos:=pos) hB he he' hs hs';rw[eQ,List.map_map] at this;exact this
theorem mG {α:Type}{value:Expr}{lower:Option Expr}{p pos:Pos}{l:List α}{h:α→Dat}{n:Nat}(hx:Ev prog w W k sc fn Γ value (.dat (.list (l.map h))))(hl:K3 prog w W k sc fn Γ lower (some (n:Int)))(hz:l.length≤sizeLine) :
    Ev prog w W k sc fn Γ (.Subscript value (.Slice lower none none p) pos) (.dat (.list ((l.drop n).map h))):=by
  have:=vA (p:=p) (pos:=pos) hx hl gE (by simpa using hz);rw[WV,← List.map_drop] at this;exact this
theorem d7 {α:Type}{value:Expr}{upper:Option Expr}{p pos:Pos}{l:List α}{h:α→Dat}{n:Nat}(hx:Ev prog w W k sc fn Γ value (.dat (.list (l.map h))))(hl:K3 prog w W k sc fn Γ upper (some (n:Int)))(hz:l.length≤sizeLine) :
    Ev prog w W k sc fn Γ (.Subscript value (.Slice none upper none p) pos) (.dat (.list ((l.take n).map h))):=by
  have:=vA (p:=p) (pos:=pos) hx gE hl (by simpa using hz);rw[WT,← List.map_take] at this;exact this
theorem XN {e1 e2:Expr}{pos:Pos}{x z:V}{c:Bool}(h1:Ev prog w W k sc fn Γ e1 x)(ht:PW prog w W k x c)(h2:c=true→Ev prog w W k sc fn Γ e2 z)(h3:c=false→z=x)
    (he:autoParam (∀env,evalEach [e1,e2] env=[eval e1 env,eval e2 env]) au1):Ev prog w W k sc fn Γ (.BoolOp .And [e1,e2] pos) z:=fun fr P s F hsc st A Q E rm q=>by
  simp only[arm_eval_BoolOp,he];show wpAny _ A (_ >>= _) _ _ _;refine qC (h1 fr P s F hsc st A _ E rm fun v s₁ F₁ g₁ hv=>?_);refine qC (wA (qC (xS (ht s₁ F₁ v (st.step g₁).base hv A _ E rm fun s₂ F₂ g₂=>?_))));cases c with
  | false =>
    have:=h3 rfl;subst this;exact qI (q v s₂ F₂ (g₁.trans g₂) (V.is.mono g₂.sub hv))
  | true =>
    dsimp only[boolOp];exact h2 rfl fr P s₂ F₂ hsc ((st.step g₁).step g₂) A Q E rm fun v' s₃ F₃ g₃ hv'=>q v' s₃ F₃ ((g₁.trans g₂).trans g₃) hv'
end
end Mine
namespace Mine
noncomputable abbrev VG (kx vx:Expr):Value→Env→Sem Unit:=fun acc env=>do
        let kv←eval kx env;let vv←holding [kv] (eval vx env)
        match acc with
        | .ref d=>do
          standAt {kx.pos with endLine:=vx.pos.endLine,endCol:=vx.pos.endCol}
          holding [kv,vv] (dictSet d kv vv)
        | _=>unsupported "internal:dictcomp"
section
variable {prog:Program}{w:World}{W:Wd}{k:Nat}{sc:Scope}{fn:Bool}{Γ:xK}
theorem sD (kx vx target iter:Expr)(ifs:List Expr)(g1:Comprehension)(hg:g1.is_async=0)(scope:Scope)(pos:Pos)(it:Value)(D:Addr)(env:Env) :
    compTurn (.DictComp kx vx [⟨target,iter,ifs,0⟩,g1] scope pos) 0 it (.ref D) env=(do
      standAt iter.pos
      match←pyNext it with
      | none=>pure (.done .next)
      | some v =>
        letOwnedTupleGo target it v
        assign target env v
        let mut ok:=true
        for c in ifs do
          if ok then ok←isTrue c env (eval c env)
        if ok then
          fD (.DictComp kx vx [⟨target,iter,ifs,0⟩,g1] scope pos) 1 g1.iter (.ref D) env
        again (.compLoop (.DictComp kx vx [⟨target,iter,ifs,0⟩,g1] scope pos) 0 it (.ref D) env)):=by
  obtain⟨a,b,c,d⟩:=g1;have hg':d=0:=hg;subst hg';refine bind_congr fun Z=>bind_congr fun r=>?_;cases r with
  | none=>rfl
  | some v =>
    refine bind_congr fun Z=>bind_congr fun Z=>bind_congr fun ok=>?_;cases ok with
    | false=>rfl
    | true =>
      simp only[fD,if_true,bind_assoc];rfl
theorem n7 (kx vx target iter:Expr)(ifs:List Expr)(g0:Comprehension)(scope:Scope)(pos:Pos)(it:Value)(D:Addr)(env:Env) :
    compTurn (.DictComp kx vx [g0,⟨target,iter,ifs,0⟩] scope pos) 1 it (.ref D) env=(do
      standAt iter.pos
      match←pyNext it with
      | none=>pure (.done .next)
      | some v =>
        letOwnedTupleGo target it v
        assign target env v
        let mut ok:=true
        for c in ifs do
          if ok then ok←isTrue c env (eval c env)
        if ok then
          VG kx vx (.ref D) env
        again (.compLoop (.DictComp kx vx [g0,⟨target,iter,ifs,0⟩] scope pos) 1 it (.ref D) env)):=by rfl
theorem GQ {kx vx:Expr}{g0:Comprehension}{target iter:Expr}{ifs:List Expr}{scope:Scope}{pos:Pos}{A:Around}{R:Result→Shared→Prop}{s:Shared}{it acc:Value}{env:Env}
    (h0:codeAny (model prog w) A (.compLoop (.DictComp kx vx [g0,⟨target,iter,ifs,0⟩] scope pos) 1 it acc env) R s)
    (h:wpAny (model prog w) A (pyIter it) (fun it' s'=>codeAny (model prog w) A (.compLoop (.DictComp kx vx [g0,⟨target,iter,ifs,0⟩] scope pos) 1 it' acc env) R s')
      (notedBy (model prog w) A env fun x s'=>R (.error x) s') s) :
    codeAny (model prog w) A (.compStart (.DictComp kx vx [g0,⟨target,iter,ifs,0⟩] scope pos) 1 it acc env) R s:=by
  refine codeAny_of_tree ?_;show wpAny _ A ((compStart (.DictComp kx vx [g0,⟨target,iter,ifs,0⟩] scope pos) 1 it acc env).onRaise (fun x=>do noteFrame x env;standAt theWindowsPlace)) _ _ s;refine wpAny_notedAt ?_;unfold compStart;show wpAny _ _ (ask >>= _) _ _ s;refine qC (QF (QE ?_));split
  · first
      | exact qC (qI (qI (And.intro rfl h0)))
      | exact qI (And.intro rfl h0)
  · first
      | exact qC (jO (qC (wA (qC (xT h (fun it' s' h'=>qI (And.intro rfl h')) fun Z Z x=>x)))))
      | (refine qC (jO ?_);show wpAny _ _ (standAt iter.pos >>= _) _ _ s;exact qC (wA (qC (xT h (fun it' s' h'=>qI (And.intro rfl h')) fun Z Z x=>x))))
theorem cld2 {kx vx tgt iter:Expr}{ifs:List Expr}{g0:Comprehension}{scope:Scope}{pos:Pos}{xs:List V}{as:Nat→List (Str×Dat)}
    (turn:∀i x,xs[i]?=some x→V8 prog w W k sc Γ (tC prog w) tgt ifs (VG kx vx) x (as i) (as (i+1))):uU prog w W k sc Γ (tC prog w) (.DictComp kx vx [g0,⟨tgt,iter,ifs,0⟩] scope pos) 1 tgt xs (as 0) (as xs.length) :=
  tZ (K:=tC prog w) (ifs:=ifs) (M:=VG kx vx) (p:=iter.pos) turn (fun Z Z Z=>rfl) (fun Z Z Z=>rfl) (fun Z Z Z Z=>rfl) (fun Z Z Z=>n7 ..)
theorem cld0 {kx vx tgt iter tgt' iter':Expr}{ifs ifs':List Expr}{scope:Scope}{pos:Pos}{xs:List V}{as:Nat→List (Str×Dat)}
    (turn:∀i x,xs[i]?=some x→V8 prog w W k sc Γ (tC prog w) tgt ifs (fD (.DictComp kx vx [⟨tgt,iter,ifs,0⟩,⟨tgt',iter',ifs',0⟩] scope pos) 1 iter') x (as i) (as (i+1))) :
    uU prog w W k sc Γ (tC prog w) (.DictComp kx vx [⟨tgt,iter,ifs,0⟩,⟨tgt',iter',ifs',0⟩] scope pos) 0 tgt xs (as 0) (as xs.length) :=
  tZ (K:=tC prog w) (ifs:=ifs) (M:=fD (.DictComp kx vx [⟨tgt,iter,ifs,0⟩,⟨tgt',iter',ifs',0⟩] scope pos) 1 iter') (p:=iter.pos) turn (fun Z Z Z=>rfl) (fun Z Z Z=>rfl) (fun Z Z Z Z=>rfl) (fun Z Z Z=>sD _ _ _ _ _ _ rfl ..)
theorem Y6 {kx vx iter tgt iter' tgt':Expr}{ifs ifs':List Expr}{scope:Scope}{pos:Pos}{xs:List V}{out:List (Str×Dat)}(hok:iE sc scope=true)(hit:wR prog w W k sc fn Γ tgt iter xs)
    (hl:uU prog w W k (vM sc scope) (capt sc scope Γ) (tC prog w) (.DictComp kx vx [⟨tgt,iter,ifs,0⟩,⟨tgt',iter',ifs',0⟩] scope pos) 0 tgt xs [] out)
    (hs:autoParam (∀env x,foldedSetIterable iter env x=pure x) au5):Ev prog w W k sc fn Γ (.DictComp kx vx [⟨tgt,iter,ifs,0⟩,⟨tgt',iter',ifs',0⟩] scope pos) (.dic out):=by
  intro fr P s F hsc st A Q E rm q;have e:eval (.DictComp kx vx [⟨tgt,iter,ifs,0⟩,⟨tgt',iter',ifs',0⟩] scope pos) fr.env=comprehension (.DictComp kx vx [⟨tgt,iter,ifs,0⟩,⟨tgt',iter',ifs',0⟩] scope pos) scope fr.env (firstIterPos [⟨tgt,iter,ifs,0⟩,⟨tgt',iter',ifs',0⟩] pos) newDict false (eval iter fr.env):=rfl;rw[e];have hnew:({cls:=.type "dict",data:=.dict #[]}:Obj).IsDictOf (PySem.strKind prog w) []:=by
    obtain⟨o,ho,hd⟩:=Heap.dictOf_iff.mp (Heap.DictOf.new (knd:=PySem.strKind prog w) s.heap);rw[Heap.get?_push_size _ rfl] at ho;exact(Option.some.inj ho)▸hd
  refine sB (K:=tC prog w) (a:=[]) (o₀:={cls:=.type "dict",data:=.dict #[]}) st hsc rm hok rfl hit (fun s Q h=>?_) rfl (fun F=>⟨[],hnew,.nil⟩) hl (fun Z Z Z Z Z Z h h'=>codeAny_compStart_dict h h') (hs _) ?_
  · simp only[newDict,newObj];exact qC (wpAny_alloc (qI h))
  intro s' F' C D o m g hD hok' hDn hDF hC hCn hCF hCD;obtain⟨kvv,hdic,hr⟩:=hok';refine⟨m,hC,fun h' hs'=>?_⟩;have g₁:q0 W s {s' with heap:=h'} F F':=by
    refine⟨fun a o ht e=>(hs'.2 a (fun q=>?_)).trans (g.keep a o ht e),fun p hp=>(hs'.2 _ (hCF p hp)).trans (g.has p hp),g.sub,g.new,g.tok,g.toks,?_,g.os,g.gens,g.tabs.keeps fun a o ha e=>(hs'.2 a fun q=>?_).trans e⟩
    · rw[q] at e;exact absurd (qJ e) (xB hCn)
    · show _≤h'.objs.size;simp only[hs'.1];exact g.size
    · rw[q] at ha;exact st.base.not_tab_of_size hCn ha
  refine q _ _ _ (g₁.freeze hDn ((hs'.2 _ (xW hCD)).trans hD)) ⟨D,o,kvv,rfl,.head _,?_,hdic,hr.mono (Fz.le_ob _ _ _)⟩;obtain⟨mc,hm,_⟩:=W.nodigits;have h2:=qB st.base.size hDn;have h3:(2:Nat)<W.base.objs.size:=hm.lt;have:D≠(1:Nat):=by
    intro e;rw[e] at h2;exact absurd (qK h3 h2) (by decide)
  exact beq_eq_false_iff_ne.mpr this
theorem fL {value:Expr}{y:Str}{p:Pos}{line:Nat}{sc:Scope}(h:(sc.names.lookup y==some .local)=false)(env:Env)(he:env.scope=sc):swapsWith value (some (.Name y p)) line env=pure false:=by
  subst he;have e:∀b:Bool,(b&&(env.kindOf y==some .local))=false:=fun b=>by
    show(b&&(env.scope.names.lookup y==some .local))=false;rw[h,Bool.and_false]
  unfold swapsWith
  cases value<;>first
    | rfl
    | (show pure (_&&_&&_&&_)=_;rw[e];rfl)
end
end Mine
namespace Mine
variable {w:World}{W:Wd}{k:Nat}
noncomputable def KP (a b:Str):Int:=PyProof.Rows.b2i (decide (b.cps.toList<a.cps.toList))-PyProof.Rows.b2i (decide (a.cps.toList<b.cps.toList))
theorem KL {prog:Program}{sc:Scope}{fn:Bool}{Γ:xK}{tgt e:Expr}{ds:List Dat}(he:Ev prog w W k sc fn Γ e (.dat (.list ds)))(ht:autoParam (w5 tgt=true) au4):wR prog w W k sc fn Γ tgt e (ds.map fun d=>V.dat d):=cZ he ht
theorem JJ (ok:bX W){l:List Str}(hz:l.length≤1000)(hlt:∀p∈l.zip (l.drop 1),KP p.1 p.2=-1∧KP p.2 p.1=1∧KP p.1 p.1=0)(h1:0<l.length) :
    jM w W (k+2) 27 [.dat (.list (l.map Dat.str))] (.dat (.bool true)):=by
  refine kX ["texts"] (fun Z Z Z=>Q7 fun Z=>rfl) (by exact rfl) (by decide) rfl ?_;have hz2:sizeLine=16777216:=rfl;let row:Dat:=.list [.int (-1),.int 1,.int 0];let told:List Dat:=(l.zip (l.drop 1)).map fun Z=>row;have htold:told=(List.replicate (l.length-1) [row]).flatten:=by
    rw[← (by simp[told]:told.length=l.length-1)];apply kT
    · simp
    · intro i h1 h2;simp[told]
  have hrow:∀d∈told,d=row:=fun d hd=>by
    obtain⟨_,_,rfl⟩:=qS hd;rfl
  refine xU (Γ':=[("told",.val (.dat (.list told))),("texts",.val (.dat (.list (l.map Dat.str))))]) ?_ (xR (xN ?_))
  · refine kG (out:=told) (by exact rfl) (tB (r:=l.drop 1) (g:=Dat.str) (zA ok (by decide) rfl (by decide +kernel)) (qD rfl) (mG (n:=1) (qD rfl) (kH qX) (by exact(qB hz (by exact qA rfl))))) ?_ rfl (by exact rfl);simp only[(by rw[xG];rfl:told=[]++(l.zip (l.drop 1)).flatMap fun Z=>[row])];refine UE (by rw[xG];simp only[List.length_map,List.length_zip,List.length_drop,List.length_nil];exact(kN [_,_] [] (.l (.v 1) (.n 1000)) (.l (.v 0) (.v 1)) [1,1] (.l (.p (.n 0) (.v 0)) (.n 16777216)) 1 rfl hz (kJ _ _))) fun q hq=>?_;obtain⟨c1,c2,c3⟩:=hlt q hq;refine⟨_,true,kQ (.inl rfl) (.inl rfl),fU rfl rfl,wH,fun Z=>x9 (wS (ds:=[.int (-1),.int 1,.int 0]) (qE ?_ (qE ?_ (qE ?_ qN)))),fun h=>nomatch h⟩
    · simp only[← c1];exact zW ok fN (qE (qD rfl) (qE (qD rfl) qN))
    · simp only[← c2];exact zW ok fN (qE (qD rfl) (qE (qD rfl) qN))
    · simp only[← c3];exact zW ok fN (qE (qD rfl) (qE (qD rfl) qN))
  · refine XN (x:=.dat (.bool true)) (c:=true) (fZ (qD rfl) (xF (wS (ds:=[row]) (qE (wS (ds:=[.int (-1),.int 1,.int 0]) (qE (fE qX fK) (qE qX (qE qX qN)))) qN))
      (xF (yI (zA ok (by exact .head _) rfl (by decide +kernel)) (qE (qD rfl) qN) (w7 (by simp only[List.length_map];exact(zT [_] [] (.l (.v 0) (.n 1000)) [1] (.l (.v 0) (.n 16777216)) 1 rfl hz)))) qX j7) (uK ?_ ?_ ?_)) (pF ?_ (fun d hd=>by rw[hrow d hd];rfl:∀d∈told,kqdOk 8 d=true) ?_)) x8 (fun Z=>?_) (fun h=>nomatch h)
    · simp;exact(UL h1)
    · simp;exact(qB hz (by exact qA rfl))
    · simp;exact(zT [_] [] (.l (.v 0) (.n 1000)) [1] (.T (.s (.c (.v 0)) (.n 1)) (.n 4611686018427387904)) 1 rfl hz)
    · have:((((l.map Dat.str).length:Int)-1).toNat)=l.length-1:=by simp only[List.length_map];exact(ZO [_,_,_] [] (.L (.s (.c (.v 2)) (.n 1)) (.c (.v 0))) (.E (.c (.v 0)) (.s (.c (.v 2)) (.n 1))) (.l (.v 2) (.p (.v 1) (.n 1))) (.e (.p (.v 1) (.n 1)) (.v 2)) [0,1,1,0] [1,0,0,1] (.e (.v 0) (.v 1)) 1 1 rfl (zI _) (zO (zT [_] [] (.t (.n 0) (.v 0)) [1] (.L (.n 0) (.s (.c (.v 0)) (.n 1))) 1 rfl h1)) (jR _ _) (qQ (zT [_] [] (.t (.n 0) (.v 0)) [1] (.l (.n 1) (.v 0)) 1 rfl h1)))
      rw[this,← htold];exact⟨fun Z=>rfl,fun Z=>rfl⟩
    · intro d hd;have:d=row:=by
        simp only[List.mem_flatten] at hd;obtain⟨q,hq,hd⟩:=hd;rw[List.eq_of_mem_replicate hq] at hd;exact qF hd
      rw[this];rfl
    · refine fZ (aW (l:=told) (g:=fun d=>V.dat d) (fun Z=>[]) (by exact rfl) (KL (qD rfl)) (fun d hd=>?_) (by rw[show told.flatMap (fun Z=>([]:List Dat))=[] by simp];exact wJ _)) (wS (ds:=[]) qN) (pF ?_ ?_ (fun Z h=>nomatch h))
      · have hd':=hrow d hd;subst hd';refine⟨_,true,xY (.inl rfl),xX rfl,wH,fun Z=>uH (l:=([-1,1,0]:List Int)) (g:=fun i=>V.dat (.int i)) (f:=fun Z=>[]) (z6 (h:=Dat.int) (qD rfl)) (fun i Z=>?_),fun h=>nomatch h⟩;exact⟨_,false,xY (.inl rfl),xX rfl,dY (mF (yI (zA ok (by decide) rfl (by decide +kernel)) (qE (qD rfl) (qE (oM (zA ok (by decide) rfl (by decide +kernel))) qN)) uW) x8),fun h=>(nomatch h),fun Z=>rfl⟩
      · simp
      · simp
end Mine
namespace Mine
variable {w:World}{W:Wd}{k:Nat}
noncomputable def w6 (a:List (Str×Dat))(ks:List Str):List (Str×Dat):=ks.foldl (fun a x=>kU a x (.int 1)) a
theorem iS (a:List (Str×Dat))(ks:List Str)(x:Str):w6 a (ks++[x])=kU (w6 a ks) x (.int 1):=by unfold w6;rw[List.foldl_append];rfl
theorem XC (a:List (Str×Dat))(ks ls:List Str):w6 a (ks++ls)=w6 (w6 a ks) ls:=by unfold w6;rw[List.foldl_append]
theorem e6 (a:List (Str×Dat))(x:Str)(d:Dat):(kU a x d).length≤a.length+1:=by unfold kU;split<;>simp
theorem cQ (ks:List Str):∀a:List (Str×Dat),(w6 a ks).length≤a.length+ks.length:=by
  induction ks with
  | nil=>intro a;exact qH _
  | cons x r ih =>
    intro a;show(w6 (kU a x (.int 1)) r).length≤_;simp;exact(kN [_,_,_,_] [] (.l (.v 0) (.p (.v 3) (.v 2))) (.l (.v 3) (.p (.v 1) (.n 1))) [1,1] (.l (.v 0) (.p (.v 1) (.p (.v 2) (.n 1)))) 1 rfl (ih (kU a x (.int 1))) (e6 a x (.int 1)))
set_option tactic.hygienic true in
theorem e7 (a:List (Str×Dat))(x y:Str)(d:Dat):(kU a x d).any (fun p=>decide (p.1=y))=(a.any (fun p=>decide (p.1=y))||decide (x=y)):=by
  unfold kU;split
  · rename_i h
    have hk:(a.map (fun kv=>if kv.1=x then(kv.1,d) else kv)).any (fun p=>decide (p.1=y))=a.any (fun p=>decide (p.1=y)):=by
      rw[List.any_map];congr 1;funext p;simp only[Function.comp_apply];split<;>rfl
    rw[hk];by_cases e:x=y
    · subst e;rw[h];exact rfl
    · simp[e]
  · rw[List.any_append];simp
theorem XD (y:Str)(ks:List Str):∀a:List (Str×Dat),(w6 a ks).any (fun p=>decide (p.1=y))=(a.any (fun p=>decide (p.1=y))||decide (y∈ks)):=by
  induction ks with
  | nil=>intro a;simp[w6]
  | cons x r ih =>
    intro a;show(w6 (kU a x (.int 1)) r).any _=_;rw[ih,e7,Bool.or_assoc];congr 1;by_cases e:x=y
    · simp[e]
    · have:¬y=x:=fun h=>e h.symm;simp[e,this]
noncomputable def jD (tops:List Str):List Str:=tops.flatMap fun t=>wM t.cps.toList
noncomputable def uQ (names tops:List Str):List Int:=names.map fun n=>if n∈jD tops then 1 else 0
theorem cS {α β:Type}{l:List α}{f:α→List β}{i:Nat}(hi:i<l.length):(l.take (i+1)).flatMap f=(l.take i).flatMap f++f l[i]:=by
  rw[j4 hi,List.flatMap_append];simp
theorem rB {α β:Type}{l:List α}{f:α→List β}{i:Nat}:((l.take i).flatMap f).length≤(l.flatMap f).length:=by
  rw[(by rw[← List.flatMap_append,List.take_append_drop]:l.flatMap f=(l.take i).flatMap f++(l.drop i).flatMap f),List.length_append];exact(qR _ _)
theorem UV (ok:bX W){names tops:List Str}(hn:names.length≤1000)(ha:∀t∈tops,t.cps.all (·<128)=true∧t.length≤8)(hu:(jD tops).length≤100000) :
    jM w W (k+3) 28 [.dat (.list (names.map Dat.str)),.dat (.list (tops.map Dat.str))] (.dat (.bytes (byteArr (uQ names tops)))):=by
  refine kX ["names","tops"] (fun Z Z Z=>gQ fun Z Z=>rfl) (by exact rfl) (by decide) rfl ?_;have hz2:sizeLine=16777216:=rfl;refine xU (Γ':=[("within",.val (.dic (w6 [] (jD tops)))),("names",.val (.dat (.list (names.map Dat.str)))),("tops",.val (.dat (.list (tops.map Dat.str))))]) ?_ (xR (xN ?_))
  · refine xJ (Y6 (out:=w6 [] (jD tops)) (by exact rfl) (z6 (l:=tops) (h:=Dat.str) (qD rfl)) ?_) (.inr ⟨rfl,rfl⟩) (fun env he=>fL (by exact rfl) env he);let as:Nat→List (Str×Dat):=fun i=>w6 [] ((tops.take i).flatMap fun t=>wM t.cps.toList);have e:w6 [] (jD tops)=as ((tops.map fun a=>V.dat (.str a)).length):=by
      show _=w6 [] _;rw[List.length_map,List.take_length];rfl
    rw[e];refine cld0 (as:=as) fun i x hx=>?_;obtain⟨hi,rfl⟩:=vR hx;obtain⟨h1,h2⟩:=ha _ (wF hi);refine⟨_,true,xY (.inl rfl),xX rfl,wH,fun Z=>?_,fun h=>(nomatch h)⟩;let bs:Nat→List (Str×Dat):=fun j=>w6 (as i) ((wM tops[i].cps.toList).take j);have e2:as (i+1)=bs (((wM tops[i].cps.toList).map fun a=>V.dat (.str a)).length):=by
      show w6 [] _=w6 (w6 [] _) _;rw[List.length_map,List.take_length,cS hi,XC]
    rw[(by exact rfl:as i=bs 0),e2];refine lJ (z6 (l:=wM tops[i].cps.toList) (h:=Dat.str) (zW ok (ZJ ok h1 h2) (qE (qD rfl) qN))) (cld2 (as:=bs) fun j y hy=>?_) (fun Z Z Z Z Z Z h h'=>GQ h h');obtain⟨hj,rfl⟩:=vR hy;refine⟨_,true,xY (.inl rfl),xX rfl,wH,fun Z=>?_,fun h=>(nomatch h)⟩;have e3:bs (j+1)=kU (bs j) ((wM tops[i].cps.toList)[j]) (.int 1):=by
      show w6 _ _=_;rw[j4 hj,iS]
    rw[e3];refine KK (qD rfl) qX ?_;have l4:((wM tops[i].cps.toList).take j).length≤256:=by
      rw[List.length_take,fO];have:2^tops[i].cps.toList.length≤2^8:=xZ (by exact qA rfl) (by simpa[Str.length] using h2);exact(iM this)
    show(w6 (as i) _).length≤sizeLine;have l2':(as i).length≤[].length+((tops.take i).flatMap fun t=>wM t.cps.toList).length:=(cQ ((tops.take i).flatMap fun t=>wM t.cps.toList) []);simp only[List.length_nil] at l2';exact(F9 [_,_,_,_,_] [] (.l (.v 0) (.p (.v 1) (.v 2))) (.l (.v 3) (.v 4)) (.l (.v 2) (.n 256)) (.l (.v 4) (.n 100000)) (.l (.v 1) (.p (.n 0) (.v 3))) [1,1,1,1,1] (.l (.v 0) (.n 16777216)) 1 rfl (cQ ((wM tops[i].cps.toList).take j) (as i)) (rB (l:=tops) (f:=fun t=>wM t.cps.toList) (i:=i)) l4 (hu:(tops.flatMap fun t=>wM t.cps.toList).length≤100000) l2')
  · have hrow:names.flatMap (fun n=>[Dat.int (if n∈jD tops then 1 else 0)])=(uQ names tops).map Dat.int:=by
      rw[xG,uQ,List.map_map];rfl
    refine yI (zA ok (by decide) rfl (by decide +kernel)) (qE (x:=.dat (.list ((uQ names tops).map Dat.int))) ?_ qN) (WA (fun n hn=>?_) ?_)
    · rw[← hrow];refine vJ (l:=names) (g:=fun n=>V.dat (.str n)) _ (by exact rfl) (z6 (qD rfl)) (fun n hn=>?_) (by rw[xG,List.length_map];exact(qB hn (by exact qA rfl)));refine⟨_,true,xY (.inl rfl),xX rfl,wH,fun Z=>x9 ?_,fun h=>(nomatch h)⟩;have hif:(if n∈jD tops then(1:Int) else 0)=(if((w6 [] (jD tops)).any (fun p=>decide (p.1=n))) then(1:Int) else 0):=by
        rw[(by rw[XD];exact rfl:(w6 [] (jD tops)).any (fun p=>decide (p.1=n))=decide (n∈jD tops))];by_cases h:n∈jD tops<;>simp[h]
      rw[hif];exact yI (zA ok (by decide) rfl (by decide +kernel)) (qE (zW ok iA (qE (qD rfl) (qE (qD rfl) qN))) qN) X1
    · obtain⟨m,_,rfl⟩:=qS hn;split<;>decide
    · simp only[uQ,List.length_map];exact(zT [_] [] (.l (.v 0) (.n 1000)) [1] (.l (.v 0) (.n 16777216)) 1 rfl hn)
end Mine
namespace Mine
variable {prog:Program}{w:World}{W:Wd}{k:Nat}
structure eD (W:Wd)(s₀ s:Shared)(F₀ F:Fz):Prop where
  keep:∀a o,s₀.heap.get? a=some o→s.heap.get? a=some o
  size:s₀.heap.objs.size≤s.heap.objs.size
  toks:s₀.toks≤s.toks
  os:s.os=s₀.os
  gens:s.gens=s₀.gens
  obs:F.obs=F₀.obs
  sub:∀p∈F₀.tks,p∈F.tks
  tok:bB F.tks s.toks
theorem eD.grow {s₀ s:Shared}{F₀ F:Fz}(b:wC W s₀ F₀)(x:eD W s₀ s F₀ F):q0 W s₀ s F₀ F where
  keep:=fun a o Z e=>x.keep a o e
  has:=fun p hp=>x.keep _ _ (b.has p (x.obs▸hp))
  sub:=⟨fun p hp=>x.obs▸hp,x.sub⟩
  new:=fun p hp=>.inl (x.obs▸hp)
  tok:=x.tok
  toks:=x.toks
  size:=x.size
  os:=x.os
  gens:=by simp only[x.gens];exact .rfl
  tabs:=(b.tabs.keeps fun a o Z e=>x.keep a o e).mono ⟨fun p hp=>x.obs▸hp,x.sub⟩
set_option tactic.hygienic true in
theorem JD {s₀:Shared}{F₀:Fz}{A:Around}{R:Result→Shared→Prop}{l n I S:Nat}{vs:List Value}{ns:List Int}(hh:A.handled=none)(b:wC W s₀ F₀)(hl:(l,listOf vs.toArray n)∈F₀.obs)(hr:xV F₀ vs (ns.map Dat.int))
    (hI:s₀.heap.objs.size≤I)(hS:s₀.heap.objs.size≤S)(hIS:I≠S)(hfit:∀i,i<ns.length→InLong (ns.getD i 0)∧InLong ((ns.take (i+1)).sum)) :
    ∀(j i:Nat) (s:Shared) (F:Fz) (tA:Nat) (c:Nat),ns.length-i=j→i≤ns.length→eD W s₀ s F₀ F→s.heap.IsListIter I l i→s.heap.get? S=some {cls:=.type "list",dict:=none,data:=.seq #[.int (ns.take i).sum tA] c,slots:=#[]} →
      (tA,Dat.int (ns.take i).sum)∈F.tks →
      (∀s' F' t,eD W s₀ s' F₀ F'→(t,Dat.int ns.sum)∈F'.tks→R (.ok (.ret (.int ns.sum t))) s') →
      codeAny (model prog w) A (.builtin "sum.loop" ⟨[.ref I,.ref S,rawInt 0,rawInt 0],[]⟩) R s:=by
  have hIl:I≠l:=fun e=>absurd (qJ (b.has _ hl):l<s₀.heap.objs.size) (xB (e▸hI));have hlen:=hr.length;simp only[List.length_map] at hlen;intro j
  induction j with
  | zero =>
    intro i s F tA c hj hi x hit hSo hA hR;have hin:i=ns.length:=by exact(GA [_,_,_] [] (.e (.v 2) (.n 0)) (.l (.v 0) (.v 1)) (.l (.v 1) (.p (.v 2) (.v 0))) [0,1,0] [1,0,1] (.e (.v 0) (.v 1)) 1 1 rfl hj hi (jR _ _))
    subst hin;refine codeAny_builtin PySem.F.entry_sum_loop ?_;rw[Around.under_plainId PySem.F.plain_sum_loop _];show wpAny _ A.in1 (seqItems? (.ref S) >>= _) _ _ s;refine qC (kE hSo rfl ?_);show wpAny _ A.in1 (tryCatch (pyNext (.ref I)) _ >>= _) _ _ s;refine qC (wpAny_tryCatch (wD (nZ (A:=A.in1) hh hit (⟨_,x.keep _ _ (b.has _ hl),rfl,_,rfl⟩:s.heap.IsList l vs.toArray) (by simp;exact(qL hlen):vs.toArray[ns.length]?=none) fun h' he h1 h2=>?_)));rw[List.take_length] at hA ⊢;refine qI (hR _ F tA ⟨fun a o e=>he a o (fun q=>absurd (qJ e) (xB (by simp only[q];exact hI))) (x.keep a o e),qB x.size h1,x.toks,x.os,x.gens,x.obs,x.sub,x.tok⟩ hA)
  | succ j ih =>
    intro i s F tA c hj hi x hit hSo hA hR;have hlt:i<ns.length:=by exact(kN [_,_,_,_] [] (.e (.v 2) (.p (.v 3) (.n 1))) (.e (.p (.v 2) (.v 0)) (.v 1)) [-1,1] (.t (.v 0) (.v 1)) 1 rfl hj (qQ hi))
    refine codeAny_builtin PySem.F.entry_sum_loop ?_;rw[Around.under_plainId PySem.F.plain_sum_loop _];show wpAny _ A.in1 (seqItems? (.ref S) >>= _) _ _ s;refine qC (kE hSo rfl ?_);show wpAny _ A.in1 (tryCatch (pyNext (.ref I)) _ >>= _) _ _ s;have hd:(ns.map Dat.int)[i]?=some (Dat.int (ns[i])):=by simp only[List.getElem?_map,List.getElem?_eq_getElem hlt];rfl
    obtain⟨v,hv,hvr⟩:=hr.get hd;cases hvr with
    | int hvt =>
      rename_i t
      refine qC (wpAny_tryCatch (vY hit (⟨_,x.keep _ _ (b.has _ hl),rfl,_,rfl⟩:s.heap.IsList l vs.toArray) (x:=.int ns[i] t) (by simpa using hv) fun h' hit' hs=>?_));refine zS fun nG=>?_;have hS':h'.get? S=some {cls:=.type "list",dict:=none,data:=.seq #[.int (ns.take i).sum tA] c,slots:=#[]}:=(hs.2 _ (xW hIS)).trans hSo;obtain⟨⟨f1,f2⟩,f3,f4⟩:=hfit i hlt;have hgd:ns.getD i 0=ns[i]:=by simp only[List.getD_eq_getElem?_getD,List.getElem?_eq_getElem hlt];rfl
      have hsum:(ns.take (i+1)).sum=(ns.take i).sum+ns[i]:=by simp only[j4 hlt,List.sum_append];simp
      refine nG ?_;rw[hgd] at f1 f2;rw[hsum] at f3 f4;have hc:((decide (-(2^63)≤ns[i])&&decide (ns[i]<2^63))&&(decide (-(2^63)≤(ns.take i).sum+ns[i])&&decide ((ns.take i).sum+ns[i]<2^63)))=true:=by
        simp only[Bool.and_eq_true,decide_eq_true_eq];exact⟨⟨f1,f2⟩,f3,f4⟩
      show wpAny _ A.in1 (if(_:Bool)=true then(mkInt ((ns.take i).sum+ns[i]) >>= _) else _) _ _ _;split
      · refine qC (wpAny_mkInt ?_);show wpAny _ A.in1 (updateSeq S (fun Z=>#[.int ((ns.take i).sum+ns[i]) s.toks]) >>= _) _ _ _;refine qC ?_;refine wpAny_updateSeq hS' rfl (qI ⟨plainId_quiet B2 _,?_⟩);have hne:∀a o,s₀.heap.get? a=some o→a≠I∧a≠S:=fun a o e=>⟨fun q=>absurd (qJ e) (xB (q▸hI)),fun q=>absurd (qJ e) (xB (q▸hS))⟩;rw[← hsum];refine ih (i+1) _ (F.tk s.toks (.int (ns.take (i+1)).sum)) s.toks _ (by exact(V9 [_,_,_,_,_] [] (.e (.v 2) (.p (.v 1) (.n 1))) (.l (.v 3) (.p (.v 0) (.p (.v 4) (.n 1)))) (.e (.p (.v 0) (.p (.v 4) (.n 1))) (.v 3)) (.l (.v 3) (.p (.v 2) (.v 4))) (.e (.p (.v 2) (.v 4)) (.v 3)) [1,0,1,1,0] [-1,1,0,0,1] (.e (.v 0) (.v 1)) 1 1 rfl hj (jR _ _) (qQ (zT [_,_] [] (.t (.v 0) (.v 1)) [1] (.l (.p (.v 0) (.n 1)) (.v 1)) 1 rfl hlt)) (jR _ _) (qQ (zT [_,_] [] (.t (.v 0) (.v 1)) [1] (.l (.v 0) (.v 1)) 1 rfl hlt)))) hlt ?_ ?_ (Heap.get?_update_self _ hS' rfl) (.head _) hR
        · refine⟨fun a o e=>(Heap.get?_update_other _ _ (xW (hne a o e).2)).trans ((hs.2 _ (hne a o e).1).trans (x.keep a o e)),?_,qW x.toks,x.os,x.gens,x.obs,fun p hp=>.tail _ (x.sub p hp),x.tok.cons (qH _) (wE _)⟩;show _≤(Heap.update h' S _).objs.size;simp only[Heap.size_update,hs.1];exact x.size
        · obtain⟨o,ho,hc1,hd1⟩:=hit';exact⟨o,(Heap.get?_update_other _ _ (xW hIS)).trans ho,hc1,hd1⟩
      · rename_i hneg
        exact absurd hc hneg
theorem UF {ns:List Int}(hfit:∀i,i<ns.length→InLong (ns.getD i 0)∧InLong ((ns.take (i+1)).sum)):Calls prog w W k (.builtin "sum") [.dat (.list (ns.map Dat.int))] (.dat (.int ns.sum)):=fun s F vs b hv A Q E rm q=>by
  refine hv.e1 fun Z h1=>?_;refine xQ.eList h1 fun l us n hm hr=>?_;refine call_function_tree PySem.F.kind_sum PySem.F.plain_sum PySem.F.entry_sum (PySem.F.args_sum1 _) ?_;unfold Builtin.«sum»;refine mN (tG (qA rfl)) ?_;refine qC (x7 (show Builtin.Builtins.bindParams "sum" ["start"] 0 {}=pure [none] from rfl) ?_);refine qC (bY (zL b hm) ?_);refine qC (wpAny_mkInt ?_);refine qC (qI ?_);simp only[List.forIn_cons,List.forIn_nil];refine qC (qC (qC (z2 (T:="int") (b:=false) (typeIs_int _ _ _) PySem.sub_int_str ?_)));simp only[Bool.false_eq_true,if_false];refine qI (qC (qC (z2 (T:="int") (b:=false) (typeIs_int _ _ _) PySem.sub_int_bytes ?_)));simp only[Bool.false_eq_true,if_false];refine qI (qC (qC (z2 (T:="int") (b:=false) (typeIs_int _ _ _) PySem.sub_int_bytearray ?_)));simp only[Bool.false_eq_true,if_false];refine qI (qI ?_);refine qC (zF ?_);refine qI ⟨plainId_quiet B2 _,?_⟩
  refine JD (I:=s.heap.objs.size) (S:=(s.heap.push _).objs.size) (ns:=ns) rm.handled b hm hr (qH _) (by simp only[Heap.size_push];exact xI _) (by simp only[Heap.size_push];exact qM (wE _)) hfit
    ns.length 0 _ (F.tk s.toks (.int 0)) s.toks 0 rfl (wJ _) ?_ ?_ (Heap.get?_push_size _ rfl) (.head _) fun s' F' t x ht=>?_
  · refine⟨fun a o e=>Heap.get?_push_of_some _ (Heap.get?_push_of_some _ e),by simp;exact(qW (qR _ _)),xI _,rfl,rfl,rfl,fun p hp=>.tail _ hp,b.tok.cons (qH _) (wE _)⟩
  · exact⟨_,Heap.get?_push_of_some _ (Heap.get?_push_size _ rfl),rfl,rfl⟩
  · exact q _ s' F' (x.grow b) (.int ht)
end Mine
namespace Mine
variable {w:World}{W:Wd}{k:Nat}
noncomputable def jH (ns:List Int):List Int:=(List.range (ns.length+1)).map fun j=>(ns.take j).sum
noncomputable def bK (names:List Str)(r:Int→Int)(a b:Int):List Str:=((zY a 1 (b-a).toNat).filter fun j=>r j==1).map fun j=>names.getD j.toNat Str.empty
noncomputable def vE (names:List Str)(r:Int→Int)(ns:List Int):List (List Str):=((jH ns).zip ((jH ns).drop 1)).map fun p=>bK names r p.1 p.2
noncomputable abbrev wL (l:List Str):Dat:=.list (l.map Dat.str)
theorem p7 {a:Int}:∀{n:Nat} {b:Int},b∈zY a 1 n→a≤b∧b<a+n
  | 0,b,h=>nomatch h
  | n+1,b,h=>by
    rcases qG h with rfl | h
    · constructor<;>(first | (first | exact(cI [] [_] [] (.L (.z 0) (.z 0)) 1 rfl) | exact(cI [_] [_] [] (.T (.z 0) (.p (.z 0) (.c (.p (.v 0) (.n 1))))) 1 rfl)) | omega)
    · have:=@p7 (a+1) n b h;constructor<;>(first | exact(t9 this.1) | exact(zT [_] [_,_] (.T (.z 0) (.p (.p (.z 1) (.n 1)) (.c (.v 0)))) [1] (.T (.z 0) (.p (.z 1) (.c (.p (.v 0) (.n 1))))) 1 rfl this.2))
theorem u5:∀(n:Nat)(a:Nat),zY (a:Int) 1 n=(List.range' a n).map fun j:Nat=>(j:Int)
  | 0,a=>rfl
  | n+1,a=>by
    simp only[List.range'_succ,List.map_cons,← u5 n (a+1)];rfl
theorem bZ (n:Nat):zY 0 1 n=(List.range n).map fun j:Nat=>(j:Int):=by
  rw[List.range_eq_range'];exact u5 n 0
theorem p8 (a:Int):∀n,(zY a 1 n).length=n
  | 0=>rfl
  | n+1=>by dsimp only[zY];simp only[List.length_cons];rw[p8 (a+1) n]
theorem i0 (l:List Int)(r:Int→Int)(nm:Int→Str):l.flatMap (fun j=>if r j==1 then[Dat.str (nm j)] else[])=((l.filter fun j=>r j==1).map nm).map Dat.str:=by
  induction l with
  | nil=>rfl
  | cons a l ih =>
    simp only[List.flatMap_cons,ih,List.filter_cons];cases h:r a==1<;>exact rfl
theorem u3 {ns:List Int}(h:∀n∈ns,0≤n):∀(i:Nat),0≤(ns.take i).sum∧(ns.take i).sum≤ns.sum:=by
  induction ns with
  | nil=>intro i;simp
  | cons a r ih =>
    intro i;have ha:=h a (.head _);have ih:=ih (fun n hn=>h n (.tail _ hn));have h0:=ih 0;simp at h0;cases i with
    | zero=>simp;exact(kN [] [a,r.sum] (.L (.n 0) (.z 0)) (.L (.n 0) (.z 1)) [1,1] (.L (.n 0) (.p (.z 0) (.z 1))) 1 rfl ha h0)
    | succ i =>
      have:=ih i;simp only[List.take_succ_cons,List.sum_cons];exact⟨(kN [] [a,(List.take i r).sum] (.L (.n 0) (.z 0)) (.L (.n 0) (.z 1)) [1,1] (.L (.n 0) (.p (.z 0) (.z 1))) 1 rfl ha this.1),(zT [] [a,(List.take i r).sum,r.sum] (.L (.z 1) (.z 2)) [1] (.L (.p (.z 0) (.z 1)) (.p (.z 0) (.z 2))) 1 rfl this.2)⟩
theorem iO {ns:List Int}(h:∀n∈ns,0≤n){a:Int}(ha:a∈jH ns):0≤a∧a≤ns.sum:=by
  obtain⟨j,_,rfl⟩:=qS ha;exact u3 h j
theorem rN (ok:bX W){names:List Str}{x:V}{r:Int→Int}{ns:List Int}(hx:∀j:Int,0≤j→j<names.length→K0 pw w W (k+1) x (.dat (.int j)) (.dat (.int (r j))))(h0:∀n∈ns,0≤n)
    (hsum:ns.sum=names.length)(hn:names.length≤1000)(hl:ns.length≤1000) :
    jM w W (k+2) 30 [.dat (wL names),x,.dat (.list (ns.map Dat.int))] (.dat (.list ((vE names r ns).map wL))):=by
  refine kX ["names","row","sizes"] (fun Z Z Z=>YC fun Z Z Z=>rfl) (by exact rfl) (by decide) rfl ?_;have hz2:sizeLine=16777216:=rfl;refine xU (Γ':=[("ends",.val (.dat (.list ((jH ns).map Dat.int)))),("names",.val (.dat (wL names))),("row",.val x),("sizes",.val (.dat (.list (ns.map Dat.int))))]) ?_ (xR (xN ?_))
  · have e:(jH ns).map Dat.int=[]++(zY 0 1 ((ns.length:Int)+1).toNat).flatMap (fun j=>[Dat.int (ns.take j.toNat).sum]):=by
      simp only[xG,show((ns.length:Int)+1).toNat=ns.length+1 by exact rfl,bZ,List.map_map,jH,List.map_map];rfl
    refine kG (out:=(jH ns).map Dat.int) (by exact rfl) (cY (n:=(ns.length:Int)+1) (zA ok (by exact .tail _ (.head _)) rfl (by decide +kernel)) ?_ rfl (by exact(zT [_] [] (.l (.v 0) (.n 1000)) [1] (.T (.p (.c (.v 0)) (.n 1)) (.n 4611686018427387904)) 1 rfl hl)) (by exact(cI [_] [] [] (.L (.g (.n 4611686018427387904)) (.p (.c (.v 0)) (.n 1))) 1 rfl))) ?_ rfl (by exact rfl)
    · refine xF (yI (zA ok (by exact .head _) rfl (by decide +kernel)) (qE (qD rfl) qN) (w7 (by simp;exact(qB hl (by exact qA rfl))))) qX ?_;rw[List.length_map];exact kB
    · simp only[e];refine UE (by simp only[xG,List.length_map,p8];simp;exact(qB (z5 hl) (by exact qA rfl))) fun j hj=>?_;refine⟨_,true,xY (.inl rfl),xX rfl,wH,fun Z=>x9 ?_,fun h=>(nomatch h)⟩;refine yI (zA ok (by decide) rfl (by decide +kernel)) (qE (d7 (n:=j.toNat) (qD rfl) (kH ?_) (by exact(qB hl (by exact qA rfl)))) qN) (UF fun i hi=>?_)
      · have hjn:((j.toNat:Nat):Int)=j:=by exact(FK (p7 hj).1)
        simp only[hjn];exact qD rfl
      · have hm:(ns.take j.toNat).getD i 0∈ns:=by
          rw[List.getD_eq_getElem?_getD,List.getElem?_eq_getElem hi];exact sV (wF hi)
        have h1:(ns.take j.toNat).getD i 0≤ns.sum:=by
          have:∀(l:List Int),(∀n∈l,0≤n)→∀a∈l,a≤l.sum:=by
            intro l
            induction l with
            | nil=>intro _ a ha;cases ha
            | cons b l ih =>
              intro hl a ha;have hs:=(u3 (fun n hn=>hl n (.tail _ hn)) l.length).1;rw[List.take_length] at hs;rcases qG ha with rfl | ha
              · simp;exact(zT [] [a,l.sum] (.L (.n 0) (.z 1)) [1] (.L (.z 0) (.p (.z 0) (.z 1))) 1 rfl hs)
              · have:=ih (fun n hn=>hl n (.tail _ hn)) a ha;simp;exact(kN [] [a,b,l.sum] (.L (.n 0) (.z 1)) (.L (.z 0) (.z 2)) [1,1] (.L (.z 0) (.p (.z 1) (.z 2))) 1 rfl (hl b (.head _)) this)
          exact this ns h0 _ hm
        have h3:=(u3 h0:∀i,0≤(ns.take i).sum∧(ns.take i).sum≤ns.sum) (min (i+1) j.toNat);simp only[List.take_take];unfold InLong;constructor<;>constructor<;>(first | exact(zT [] [(List.take (min (i+1) j.toNat) ns).sum] (.L (.n 0) (.z 0)) [1] (.L (.g (.n 9223372036854775808)) (.z 0)) 1 rfl h3.1) | exact(zT [] [(List.take j.toNat ns).getD i 0] (.L (.n 0) (.z 0)) [1] (.L (.g (.n 9223372036854775808)) (.z 0)) 1 rfl (h0 _ hm)) | exact(bW [names.length] [(List.take (min (i+1) j.toNat) ns).sum,ns.sum] (.E (.z 1) (.c (.v 0))) (.l (.v 0) (.n 1000)) (.L (.z 0) (.z 1)) [1,1,1] (.T (.z 0) (.n 9223372036854775808)) 1 rfl hsum hn h3.2) | exact(bW [names.length] [(List.take j.toNat ns).getD i 0,ns.sum] (.E (.z 1) (.c (.v 0))) (.l (.v 0) (.n 1000)) (.L (.z 0) (.z 1)) [1,1,1] (.T (.z 0) (.n 9223372036854775808)) 1 rfl hsum hn h1))
  · have e:(vE names r ns).map wL=((jH ns).zip ((jH ns).drop 1)).flatMap (fun p=>[wL (bK names r p.1 p.2)]):=by
      simp only[xG,vE,List.map_map];rfl
    simp only[e];have hel:(jH ns).length=ns.length+1:=by simp[jH]
    refine vJ (l:=(jH ns).zip ((jH ns).drop 1)) (g:=fun p=>V.dat (.tuple [.int p.1,.int p.2])) _ (by exact rfl) (tB (zA ok (by decide) rfl (by decide +kernel)) (qD rfl) (mG (n:=1) (qD rfl) (kH qX) (by exact(qB (qL hel) (qB (z5 hl) (by exact qA rfl)))))) (fun p hp=>?_) (by rw[xG];simp;exact(qB (qL hel) (z5 (qB hl (by exact qA rfl)))));have hp1:=iO h0 (z0 hp).1;have hp2:=iO h0 (sW (z0 hp).2);refine⟨_,true,kQ (.inl rfl) (.inl rfl),fU rfl rfl,wH,fun Z=>x9 ?_,fun h=>(nomatch h)⟩;have e2:(bK names r p.1 p.2).map Dat.str=(zY p.1 1 (p.2-p.1).toNat).flatMap (fun j=>if r j==1 then[Dat.str (names.getD j.toNat Str.empty)] else[]):=by
      simp only[i0];rfl
    show Ev pw w W (k+1) _ _ _ _ (.dat (.list ((bK names r p.1 p.2).map Dat.str)));simp only[e2];refine vJ _ (by exact rfl) (XR (zA ok (by exact .tail _ (.head _)) rfl (by decide +kernel)) (qD rfl) (qD rfl) rfl (by exact(bW [names.length] [p.fst,ns.sum] (.E (.z 1) (.c (.v 0))) (.l (.v 0) (.n 1000)) (.L (.z 0) (.z 1)) [1,1,1] (.T (.z 0) (.n 4611686018427387904)) 1 rfl hsum hn hp1.2)) (by exact(zT [] [_] (.L (.n 0) (.z 0)) [1] (.L (.g (.n 4611686018427387904)) (.z 0)) 1 rfl hp1.1)) (by exact(bW [names.length] [p.snd,ns.sum] (.E (.z 1) (.c (.v 0))) (.l (.v 0) (.n 1000)) (.L (.z 0) (.z 1)) [1,1,1] (.T (.z 0) (.n 4611686018427387904)) 1 rfl hsum hn hp2.2)) (by exact(zT [] [_] (.L (.n 0) (.z 0)) [1] (.L (.g (.n 4611686018427387904)) (.z 0)) 1 rfl hp2.1))) (fun j hj=>?_) ?_
    · have hj':=p7 hj;have hjl:j.toNat<names.length:=by omega
      refine⟨_,r j==1,xY (.inl rfl),xX rfl,dY (zR (jG (qD rfl) (qD rfl) (hx j (by exact(Int.le_trans hp1.1 hj'.1)) (by exact(GC (Int.le_trans hp1.1 hj'.1) hjl)))) qX uI x8),fun hb=>?_,fun hb=>by simp[hb]⟩;simp only[if_pos hb];refine x9 (jG (qD rfl) (qD rfl) (kO (by exact(Int.le_trans hp1.1 hj'.1)) (by exact(bW [names.length,j.toNat] [j] (.l (.v 0) (.n 1000)) (.t (.v 1) (.v 0)) (.L (.z 0) (.c (.v 1))) [1,1,1] (.T (.z 0) (.n 9223372036854775808)) 1 rfl hn hjl (zI _))) ?_));simp only[List.getElem?_map,List.getD_eq_getElem?_getD,List.getElem?_eq_getElem hjl];rfl
    · have:∀(l:List Int),(l.flatMap (fun j=>if r j==1 then[Dat.str (names.getD j.toNat Str.empty)] else[])).length≤l.length:=by
        intro l
        induction l with
        | nil=>exact qH _
        | cons a l ih =>
          simp only[List.flatMap_cons,List.length_append,List.length_cons];split<;>simp only[List.length_cons,List.length_nil]<;>(first | exact(qB (qZ ih _) (qL (yB _ _))) | exact(zT [_,_] [] (.l (.v 0) (.v 1)) [1] (.l (.p (.n 0) (.v 0)) (.p (.v 1) (.n 1))) 1 rfl ih))
      have h1:=this (zY p.1 1 (p.2-p.1).toNat);simp only[p8] at h1;omega
end Mine
namespace Mine
variable {w:World}{W:Wd}{k:Nat}
noncomputable def dR (l:List Str):Str:=⟨(l.flatMap fun s=>s.cps.toList).toArray⟩
theorem G9 (l:List Str):Txt.join Str.empty l=dR l:=by
  have key:∀(l:List Str) (a:Array Nat),(l.foldl (fun acc p=>acc++Str.empty.cps++p.cps) a)=a++(l.flatMap fun s=>s.cps.toList).toArray:=by
    intro l
    induction l with
    | nil=>intro a;exact rfl
    | cons s r ih =>
      intro a;simp only[List.foldl_cons,ih];apply Array.ext';simp[Str.empty]
  show Builtin.Str.glued Str.empty l=dR l;unfold Builtin.Str.glued dR;rw[key];cases l with
  | nil=>rfl
  | cons s r=>simp
noncomputable def zG (l:List Str):Nat:=(l.map fun s=>s.length).sum
theorem W7 (l:List Str):(dR l).length=zG l:=by
  show((l.flatMap fun s=>s.cps.toList).toArray).size=_;simp only[List.size_toArray,List.length_flatMap];rfl
theorem W6 {l:List Str}(h:zG l≤1000000):JoinOk Str.empty l=true:=by
  unfold JoinOk Builtin.Str.tooLong;have key:∀(l:List Str) (a:Nat),l.foldl (fun acc x=>acc+x.length+Str.empty.length) a=a+zG l:=by
    intro l
    induction l with
    | nil=>intro a;rfl
    | cons s r ih =>
      intro a;simp only[List.foldl_cons,ih];simp only[zG,List.map_cons,List.sum_cons];show a+s.length+0+_=_;exact(QA [a,s.length,(List.map (fun s=>s.length) r).sum] [] [] [] (.e (.p (.p (.p (.v 0) (.v 1)) (.n 0)) (.v 2)) (.p (.v 0) (.p (.v 1) (.v 2)))) 1 1 rfl)
  rw[List.foldl_toArray,key];have hz2:sizeLine=16777216:=rfl;simp;exact(qB h (by exact qA rfl))
noncomputable def jK (pair part:Str):Bool:=decide (pair.cps.getD 0 0∈part.cps.toList)||decide (pair.cps.getD 1 0∈part.cps.toList)
noncomputable def jE (parts:List Str)(pair:Str):List Str:=(parts.filter fun p=>!jK pair p)++[dR (parts.filter (jK pair))]
noncomputable def wB (l1 l2:List Str):List Str:=l2.foldl jE l1
noncomputable def cJ (l0 l1 l2:List Str):List Int:=[if wB l1 l2=[] then(l0.length:Int) else 0,max 1 ((wB l1 l2).length:Int)-1]
theorem WK (a b:List Str):zG (a++b)=zG a+zG b:=by simp[zG]
theorem dE (l:List Str)(f:Str→Bool):zG (l.filter f)+zG (l.filter fun p=>!f p)=zG l:=by
  induction l with
  | nil=>rfl
  | cons a l ih =>
    simp only[List.filter_cons,List.filter_cons];cases h:f a<;>simp[zG] at ih⊢<;> (first | exact(rY [(List.map (fun s=>s.length) (List.filter f l)).sum,a.length,(List.map (fun s=>s.length) (List.filter (fun p=>!f p) l)).sum,(List.map (fun s=>s.length) l).sum] [] (.e (.p (.v 0) (.v 2)) (.v 3)) [1] [-1] (.e (.p (.v 0) (.p (.v 1) (.v 2))) (.p (.v 1) (.v 3))) 1 1 rfl ih) | exact(rY [a.length,(List.map (fun s=>s.length) (List.filter f l)).sum,(List.map (fun s=>s.length) (List.filter (fun p=>!f p) l)).sum,(List.map (fun s=>s.length) l).sum] [] (.e (.p (.v 1) (.v 2)) (.v 3)) [1] [-1] (.e (.p (.p (.v 0) (.v 1)) (.v 2)) (.p (.v 0) (.v 3))) 1 1 rfl ih))
theorem QI (parts:List Str)(pair:Str):zG (jE parts pair)=zG parts:=by
  unfold jE;rw[WK];have:zG [dR (parts.filter (jK pair))]=zG (parts.filter (jK pair)):=by
    show(dR _).length+0=_;rw[Nat.add_zero,W7]
  exact(nH [zG (List.filter (fun p=>!jK pair p) parts),zG [dR (List.filter (jK pair) parts)],zG parts,zG (List.filter (jK pair) parts)] [] (.e (.p (.v 3) (.v 0)) (.v 2)) (.e (.v 1) (.v 3)) [1,1] [-1,-1] (.e (.p (.v 0) (.v 1)) (.v 2)) 1 1 rfl (dE parts (jK pair)) this)
theorem YB (parts:List Str)(pair:Str):(jE parts pair).length≤parts.length+1:=by
  unfold jE;rw[List.length_append];have:=pH (fun p=>!jK pair p) parts;simp;omega
noncomputable def lU (s:Str):Prop:=∀c∈s.cps.toList,c<128
theorem X4 {parts:List Str}{pair:Str}(h:∀p∈parts,lU p):∀p∈jE parts pair,lU p:=by
  intro p hp;rcases qP hp with hp | hp
  · exact h p (List.mem_filter.mp hp).1
  · cases qF hp;intro c hc;obtain⟨s,hs,hc⟩:=List.mem_flatMap.mp (by simpa[dR] using hc:c∈((parts.filter (jK pair)).flatMap fun s=>s.cps.toList));exact h s (List.mem_filter.mp hs).1 c hc
theorem rW (l1:List Str)(h:∀p∈l1,lU p)(l2:List Str):zG (wB l1 l2)=zG l1∧(wB l1 l2).length≤l1.length+l2.length∧∀p∈wB l1 l2,lU p:=by
  induction l2 generalizing l1 with
  | nil=>exact⟨rfl,qH _,h⟩
  | cons a l ih =>
    obtain⟨h1,h2,h3⟩:=ih (jE l1 a) (X4 h);have:=YB l1 a;refine⟨by simp only[← QI l1 a];exact h1,?_,h3⟩;show(wB (jE l1 a) l).length≤_;simp;exact(kN [_,_,_,_] [] (.l (.v 0) (.p (.v 3) (.v 2))) (.l (.v 3) (.p (.v 1) (.n 1))) [1,1] (.l (.v 0) (.p (.v 1) (.p (.v 2) (.n 1)))) 1 rfl h2 this)
theorem tR {s:Str}(h:lU s):kqdOk 8 (.str s)=true:=by
  show PyData.strOk s=true;unfold PyData.strOk;simp only[Array.all_eq_true'];intro c hc;have:=h c (by simpa using hc);simp;exact(qK this (by exact qA rfl))
theorem sH {prog:Program}{x:Str}{c:Nat}:p5 prog w W k .In (.dat (oS c)) (.dat (.str x)) (.dat (.bool (decide (c∈x.cps.toList)))):=by
  have:=XW (prog:=prog) (w:=w) (W:=W) (k:=k) (x:=x) (y:=⟨#[c]⟩);unfold ZF at this;simp only[PySem.StrLaws.found_one] at this;exact this
theorem rH {prog:Program}{x:Str}{c:Nat}:p5 prog w W k .NotIn (.dat (oS c)) (.dat (.str x)) (.dat (.bool (!decide (c∈x.cps.toList)))):=by
  have:=rG (prog:=prog) (w:=w) (W:=W) (k:=k) (x:=x) (y:=⟨#[c]⟩);unfold ZF at this;simp only[PySem.StrLaws.found_one] at this;exact this
theorem aQ {α:Type}(l:List α)(f:α→Bool)(g:α→Dat):l.flatMap (fun a=>if f a then[g a] else[])=(l.filter f).map g:=by
  induction l with
  | nil=>rfl
  | cons a l ih =>
    simp only[List.flatMap_cons,ih,List.filter_cons];cases f a<;>exact rfl
theorem nJ {α:Type}(l:List α)(f:α→Bool)(g:α→Dat):(l.flatMap (fun a=>if f a then[g a] else[])).length≤l.length:=by
  simp only[aQ,List.length_map];exact pH _ _
theorem UW (ok:bX W){l0 l1 l2:List Str}{rest:List (List Str)}(h1:∀p∈l1,lU p)(h2:∀p∈l2,2≤p.length∧p.length≤8)(n0:l0.length≤1000)(n1:l1.length≤1000)(n2:l2.length≤1000)(ht:zG l1≤1000000) :
    jM w W (k+1) 32 [.dat (.list ((l0::l1::l2::rest).map wL))] (.dat (.list ((cJ l0 l1 l2).map Dat.int))):=by
  refine kX ["levels"] (fun Z Z Z=>Q7 fun Z=>rfl) (by exact rfl) (by decide) rfl ?_;have hz2:sizeLine=16777216:=rfl;refine xU (xJ (x:=.dat (wL l1)) (yI (zA ok (by decide) rfl (by decide +kernel)) (qE (jG (qD rfl) qX (kO (by decide) (by decide) rfl)) qN) (BX (by simp;exact(qB n1 (by exact qA rfl))))) (.inl rfl)) ?_;let Γs:Nat→xK:=fun i=>[("parts",.val (.dat (wL (wB l1 (l2.take i))))),("levels",.val (.dat (.list ((l0::l1::l2::rest).map wL))))];refine xU (yE (Γs:=Γs) (n:=l2.length) (z6 (l:=l2) (h:=Dat.str) (jG (qD rfl) qX (kO (by decide) (by decide) rfl))) (Sub.cons rfl (.cons rfl .nil)).go ?_ (.inl ⟨by simp,rfl⟩)) (xR (xN ?_))
  · intro i x hi hx;obtain⟨_,rfl⟩:=vR hx;obtain⟨p1,p2⟩:=h2 _ (wF hi);obtain⟨q1,q2,q3⟩:=rW l1 h1 (l2.take i);have q2':(wB l1 (l2.take i)).length≤2000:=by rw[List.length_take] at q2;exact(F9 [_,_,_,_,_] [] (.l (.v 1) (.n 1000)) (.l (.v 2) (.n 1000)) (.t (.v 3) (.v 2)) (.l (.v 0) (.p (.v 1) (.v 4))) (.l (.v 4) (.v 3)) [1,1,1,1,1] (.l (.v 0) (.n 2000)) 1 rfl n1 n2 hi q2 (kJ _ _))
    generalize hP:wB l1 (l2.take i)=parts at q1 q2 q3 q2';have hch:∀(j:Nat) (hj:j<2),l2[i].cps[j]?=some (l2[i].cps.getD j 0):=fun j hj=>by
      rw[Array.getD_eq_getD_getElem?,Array.getElem?_eq_getElem (show j<l2[i].cps.size by exact(Nat.lt_of_lt_of_le hj (p1:2≤l2[i].cps.size)))];rfl
    refine⟨_,xY (.inr ⟨rfl,rfl⟩),?_⟩;have hpl:List.lookup ("parts":Str) (Γs i)=some (.val (.dat (wL parts))):=by rw[← hP];rfl
    let met:=parts.filter (jK l2[i]);have hmet:parts.flatMap (fun p=>if jK l2[i] p then[Dat.str p] else[])=met.map Dat.str:=aQ _ _ _;refine gD (xU (xJ (x:=.dat (wL met)) ?_ (.inr ⟨rfl,rfl⟩) (fun env he=>fL (by exact rfl) env he)) (xU (xJ (x:=.dat (wL (jE parts l2[i]))) ?_ (.inl rfl)) wX)) (.cons ?_ (.cons rfl .nil))
    · show Ev _ _ _ _ _ _ _ _ (.dat (.list (met.map Dat.str)));simp only[← hmet];refine vJ _ (by exact rfl) (z6 (l:=parts) (h:=Dat.str) (qD hpl)) (fun p hp=>?_) (by have:=nJ parts (jK l2[i]) Dat.str;exact(qB this (qB q2' (by exact qA rfl))));refine⟨_,jK l2[i] p,xY (.inl rfl),xX rfl,dY (yH ?_),fun hb=>?_,fun hb=>by simp[hb]⟩
      · have:jK l2[i] p=(decide (l2[i].cps.getD 0 0∈p.cps.toList)||(decide (l2[i].cps.getD 1 0∈p.cps.toList)||false)):=by simp[jK]
        simp only[this];refine j0 (zR (jG (qD rfl) qX (ZR (by decide) (hch 0 (by exact qA rfl)) (by exact(qB p2 (by exact qA rfl))))) (qD rfl) sH x8) fun Z=>?_;exact j0 (zR (jG (qD rfl) qX (ZR (by decide) (hch 1 (by exact qA rfl)) (by omega))) (qD rfl) sH x8) fun Z=>fY
      · rw[if_pos hb];exact x9 (qD rfl)
    · have e:(jE parts l2[i]).map Dat.str=parts.flatMap (fun p=>if !jK l2[i] p then[Dat.str p] else[])++[Dat.str (Txt.join Str.empty met)]:=by
        simp only[(aQ _ _ _:parts.flatMap (fun p=>if !jK l2[i] p then[Dat.str p] else[])=(parts.filter fun p=>!jK l2[i] p).map Dat.str),G9,jE,List.map_append];rfl
      show Ev _ _ _ _ _ _ _ _ (.dat (.list ((jE parts l2[i]).map Dat.str)));simp only[e];have hl1:=nJ parts (fun p=>!jK l2[i] p) Dat.str;refine xF (vJ _ (by exact rfl) (z6 (l:=parts) (h:=Dat.str) (qD hpl)) (fun p hp=>?_) (by exact(qB hl1 (qB q2' (by exact qA rfl))))) (wS (ds:=[Dat.str (Txt.join Str.empty met)]) (qE (ZY tX (qD rfl) (W6 (by exact(qB (by have:=dE parts (jK l2[i]);show zG (parts.filter _)≤_;exact(Q5 (qL this)):zG met≤zG parts) (qB (qL q1) ht))))) qN)) (zU (by simp at hl1 ⊢; exact(kN [_,_] [] (.l (.v 1) (.n 2000)) (.l (.v 0) (.v 1)) [1,1] (.l (.p (.v 0) (.n 1)) (.n 16777216)) 1 rfl q2' hl1)));have hmem:(!!jK l2[i] p)=true↔Dat.str p∈met.map Dat.str:=by
        rw[Bool.not_not];constructor
        · intro h;exact List.mem_map.mpr ⟨p,List.mem_filter.mpr ⟨hp,h⟩,rfl⟩
        · intro h;obtain⟨p',hp',e⟩:=qS h;cases e;exact(List.mem_filter.mp hp').2
      have hk:∀d∈met.map Dat.str,kqdOk 8 d=true:=fun d hd=>by
        obtain⟨p',hp',rfl⟩:=qS hd;exact tR (q3 p' (List.mem_filter.mp hp').1)
      refine⟨_,!jK l2[i] p,xY (.inl rfl),xX rfl,dY ?_,fun hb=>?_,fun hb=>by simp only[hb];rfl⟩
      · have e:(!jK l2[i] p)=(!(!!jK l2[i] p)):=by simp
        rw[e];exact zR (qD rfl) (qD rfl) (sG hmem hk (tR (q3 p hp))) x8
      · rw[if_pos hb];exact x9 (qD rfl)
    · show some _=some _;rw[j4 hi,show wB l1 (l2.take i++[l2[i]])=jE (wB l1 (l2.take i)) l2[i] by unfold wB;simp only[List.foldl_append];rfl,hP]
  · obtain⟨q1,q2,q3⟩:=rW l1 h1 l2;have e:List.lookup ("parts":Str) (Γs l2.length)=some (.val (.dat (wL (wB l1 l2)))):=by show some _=some _;rw[List.take_length]
    have hlen:((wL (wB l1 l2))=wL (wB l1 l2)):=rfl;refine wS (ds:=[.int (if wB l1 l2=[] then(l0.length:Int) else 0),.int (max 1 ((wB l1 l2).length:Int)-1)]) (qE ?_ (qE ?_ qN))
    · have hc:decide (wB l1 l2=[])=true↔(wB l1 l2).map Dat.str=[]:=by simp
      refine Y5 (zR (qD e) (wS (ds:=[]) qN) (pF hc (fun d hd=>?_) (fun Z h=>(nomatch h))) x8) (fun h=>?_) (fun h=>?_)
      · obtain⟨p',hp',rfl⟩:=qS hd;exact tR (q3 p' hp')
      · rw[if_pos (by simpa using h)];have:=w7 (prog:=pw) (w:=w) (W:=W) (k:=k) (ds:=l0.map Dat.str) (by simp;exact(qB n0 (by exact qA rfl)));rw[List.length_map] at this;exact yI (zA ok (by exact .head _) rfl (by decide +kernel)) (qE (jG (qD rfl) qX (kO (by decide) (by decide) rfl)) qN) this
      · rw[if_neg (by simpa using h)];exact qX
    · have hmax:(if((wB l1 l2).length:Int)>1 then((wB l1 l2).length:Int) else 1)=max 1 ((wB l1 l2).length:Int):=by
        split<;>(first | exact(nH [] [_] (.L (.n 1) (.z 0)) (.E (.z 0) (.n 1)) [1,0] [0,1] (.E (.n 1) (.z 0)) 1 1 rfl (Int.le_max_left _ _) (Int.max_eq_left (Int.not_lt.mp ‹_›))) | exact(nH [_] [_] (.L (.c (.v 0)) (.z 0)) (.E (.z 0) (.c (.v 0))) [1,0] [0,1] (.E (.c (.v 0)) (.z 0)) 1 1 rfl (Int.le_max_right _ _) (Int.max_eq_right (zT [_] [] (.T (.n 1) (.c (.v 0))) [1] (.L (.n 1) (.c (.v 0))) 1 rfl ‹_›))))
      rw[← hmax];have hl:=w7 (prog:=pw) (w:=w) (W:=W) (k:=k) (ds:=(wB l1 l2).map Dat.str) (by simp;exact(qB q2 (qB (w0 n1 n2) (by exact qA rfl))));rw[List.length_map] at hl;exact xF (yI (zA ok (by decide) rfl (by decide +kernel)) (qE qX (qE (yI (zA ok (by exact .head _) rfl (by decide +kernel)) (qE (qD e) qN) hl) qN)) BW) qX j7
end Mine
namespace Mine
variable {w:World}{W:Wd}{k:Nat}
theorem J0 (x:Nat):∀y:Nat,x|||y=(x^^^y)+(x&&&y):=by
  induction x using Nat.strongRecOn with
  | ind x ih =>
    intro y;by_cases hx:x=0
    · subst hx;simp
    · have h:=ih (x/2) (by exact(kN [_,_] [] (.t (.n 0) (.v 1)) (.l (.w (.v 0) 2) (.v 1)) [1,1] (.t (.v 0) (.v 1)) 2 rfl (wP hx) (zD _ _))) (y/2);have o1:(x|||y)/2=x/2|||y/2:=by simpa[Nat.shiftRight_eq_div_pow] using Nat.shiftRight_or_distrib (a:=x) (b:=y) (i:=1)
      have o2:(x^^^y)/2=x/2^^^y/2:=by simpa[Nat.shiftRight_eq_div_pow] using Nat.shiftRight_xor_distrib (a:=x) (b:=y) (i:=1)
      have o3:(x&&&y)/2=x/2&&&y/2:=by simpa[Nat.shiftRight_eq_div_pow] using Nat.shiftRight_and_distrib (a:=x) (b:=y) (i:=1)
      have m:(x|||y)%2=(x^^^y)%2+(x&&&y)%2:=by
        have c1:(x|||y)%2=1↔x%2=1 ∨ y%2=1:=Nat.or_mod_two_eq_one;have c2:(x^^^y)%2=1↔¬(x%2=1↔y%2=1):=Nat.xor_mod_two_eq_one;have c3:(x&&&y)%2=1↔x%2=1∧y%2=1:=Nat.and_mod_two_eq_one;grind
      have:=yG (x|||y) 2;have:=yG (x^^^y) 2;have:=yG (x&&&y) 2;grind
theorem hU (x y:Nat):Builtin.bitXor (x:Int) (y:Int)=((x^^^y:Nat):Int):=by
  have e1:Builtin.bitAnd (x:Int) (y:Int)=((x&&&y:Nat):Int):=by
    unfold Builtin.bitAnd;exact rfl
  have e2:Builtin.bitOr (x:Int) (y:Int)=((x|||y:Nat):Int):=by
    unfold Builtin.bitOr Builtin.bitAnd Builtin.bitNot;have h1:decide (0≤-(x:Int)-1)=false:=by simp;exact(cI [_] [] [] (.T (.g (.c (.v 0))) (.n 1)) 1 rfl)
    rw[h1,(by simp;grind:decide (0≤-(y:Int)-1)=false)];have h3:(-(-(x:Int)-1)-1).toNat=x:=by exact(nH [_,_] [] (.L (.s (.g (.s (.g (.c (.v 1))) (.n 1))) (.n 1)) (.c (.v 0))) (.E (.c (.v 0)) (.s (.g (.s (.g (.c (.v 1))) (.n 1))) (.n 1))) [0,1] [1,0] (.e (.v 0) (.v 1)) 1 1 rfl (zI _) (zO (cI [_] [] [] (.L (.n 0) (.s (.g (.s (.g (.c (.v 0))) (.n 1))) (.n 1))) 1 rfl)))
    simp only[h3,(by grind:(-(-(y:Int)-1)-1).toNat=y)];exact(QA [_] [] [] [] (.E (.s (.g (.s (.g (.c (.v 0))) (.n 1))) (.n 1)) (.c (.v 0))) 1 1 rfl)
  unfold Builtin.bitXor;simp only[e1,e2,(J0 x y)];exact(dB rfl)
noncomputable def xL (c:Nat):Nat:=if c=0 then 0 else c.log2+1
theorem jA (c:Nat):(Builtin.Int.intBits (c:Int))=xL c:=by
  unfold Builtin.Int.intBits xL;by_cases h:c=0
  · simp[h]
  · have:¬(c:Int)=0:=by exact(UJ h)
    simp[h,this]
end Mine
namespace Mine
variable {w:World}{W:Wd}{k:Nat}
noncomputable def b9 (x:Str)(n:Nat):Str:=⟨(x.cps.toList.take n).toArray⟩
noncomputable def dJ (x:Str)(n:Nat):Str:=⟨(x.cps.toList.drop n).toArray⟩
theorem iU (n len:Nat):Builtin.Str.strSliceIndices none (some (n:Int)) 1 len=(List.range (min n len)).map (0+·):=by
  have:Builtin.Str.strSliceIndices none (some (n:Int)) 1 len=sliceRange ((0:Nat):Int) ((min n len:Nat):Int) 1:=by
    unfold Builtin.Str.strSliceIndices;simp only[show(1:Int)>0 by decide,if_true,if_neg (show ¬((n:Int)<0) by exact FL)];congr 1;lia
  rw[this,sliceRange_one,Nat.sub_zero]
theorem iV (n len:Nat):Builtin.Str.strSliceIndices (some (n:Int)) none 1 len=(List.range (len-min n len)).map (min n len+·):=by
  have:Builtin.Str.strSliceIndices (some (n:Int)) none 1 len=sliceRange ((min n len:Nat):Int) ((len:Nat):Int) 1:=by
    unfold Builtin.Str.strSliceIndices;simp only[show(1:Int)>0 by decide,if_true,if_neg (show ¬((n:Int)<0) by exact FL)];congr 1;lia
  rw[this,sliceRange_one]
theorem fQ (x:Str)(n:Nat):cE x none (some (n:Int))=b9 x n:=by
  unfold cE b9;rw[iU];have:=pick_run x.cps 0 (min n x.length);simp only[this,List.drop_zero];rw[(by exact rfl:x.length=x.cps.toList.length),kmk_take_min]
theorem fR (x:Str)(n:Nat):cE x (some (n:Int)) none=dJ x n:=by
  unfold cE dJ;rw[iV];have:=pick_run x.cps (min n x.length) (x.length-min n x.length);rw[this];rw[(by exact rfl:x.length=x.cps.toList.length),kmk_drop_min,List.take_of_length_le (by rw[List.length_drop];omega)]
theorem rP (x:Str)(n:Nat):(b9 x n).length≤x.length:=by
  show((x.cps.toList.take n).toArray).size≤x.cps.size;simp;exact(Nat.min_le_right _ _)
theorem rQ (x:Str)(n:Nat):(dJ x n).length≤x.length:=by
  show((x.cps.toList.drop n).toArray).size≤x.cps.size;simp
section
variable {prog:Program}{sc:Scope}{fn:Bool}{Γ:xK}
theorem nP {value:Expr}{upper:Option Expr}{p pos:Pos}{x:Str}{n:Nat}(hx:Ev prog w W k sc fn Γ value (.dat (.str x)))(hu:K3 prog w W k sc fn Γ upper (some (n:Int)))(hz:x.length≤sizeLine) :
    Ev prog w W k sc fn Γ (.Subscript value (.Slice none upper none p) pos) (.dat (.str (b9 x n))):=by
  simp only[← fQ];refine d8 hx gE hu (by rw[fQ];exact qB (rP x n) hz) fun h=>?_;rw[iU,List.length_map,List.length_range] at h;rw[fQ,b9,List.take_of_length_le (by simp[Str.length] at h;simp;exact(Nat.le_trans (Nat.le_of_eq h.symm) (Nat.min_le_left _ _)))]
theorem oJ {value:Expr}{lower:Option Expr}{p pos:Pos}{x:Str}{n:Nat}(hx:Ev prog w W k sc fn Γ value (.dat (.str x)))(hu:K3 prog w W k sc fn Γ lower (some (n:Int)))(hz:x.length≤sizeLine) :
    Ev prog w W k sc fn Γ (.Subscript value (.Slice lower none none p) pos) (.dat (.str (dJ x n))):=by
  simp only[← fR];refine d8 hx hu gE (by rw[fR];exact qB (rQ x n) hz) fun h=>?_;rw[iV,List.length_map,List.length_range] at h;simp only[fR,dJ];by_cases hn:n=0
  · subst hn;exact rfl
  · have h0:x.cps.size=0:=by simp[Str.length] at h;grind
    have h1:x.cps.toList=[]:=by simp only[← List.length_eq_zero_iff];simpa using h0
    rw[h1,List.drop_nil,← h1]
end
noncomputable def idxOf (x:Str):List Str→Option Nat
  | []=>none
  | a::r=>if a=x then some 0 else(idxOf x r).map (·+1)
set_option tactic.hygienic true in
theorem gB {x:Str}:∀{l:List Str} {n:Nat},idxOf x l=some n→l[n]?=some x∧∀i,i<n→l[i]?≠some x
  | [],n,h=>nomatch h
  | a::r,n,h=>by
    change ite _ _ _=_ at h;split at h
    · rename_i e
      cases h;exact⟨by rw[e];rfl,fun i hi=>absurd hi (uN _)⟩
    · rename_i e
      cases hr:idxOf x r with
      | none=>rw[hr] at h;cases h
      | some m =>
        rw[hr] at h;cases h;obtain⟨h1,h2⟩:=gB hr;refine⟨by simpa using h1,fun i hi=>?_⟩;cases i with
        | zero=>simpa using e
        | succ i=>simpa using h2 i (gK hi)
theorem YL {x:Str}{l:List Str}{n:Nat}(h:idxOf x l=some n):n<l.length:=(List.getElem?_eq_some_iff.mp (gB h).1).1
noncomputable def vP (x:Str)(j:Nat):Str:=b9 x j++dJ x (j+1)
noncomputable def pE (below:List Str)(x:Str)(c:Nat)(j:Nat):Option Nat:=(idxOf (vP x j) below).map fun i=>c^^^2^i
noncomputable def sE (below:List Str)(x:Str):Option Nat:=(List.range x.length).foldlM (pE below x) 0
noncomputable abbrev jQ:=List (Nat×Nat)
noncomputable def lT (kept:jQ)(b:Nat):Option Nat:=(kept.find? fun p=>p.1=b).map (·.2)
noncomputable def cA (kept:jQ):Nat→Nat→Option Nat
  | 0,_=>none
  | f+1,c=>if c=0 then some 0 else match lT kept (xL c) with
    | none=>some c
    | some d=>cA kept f (c^^^d)
noncomputable def keep (kept:jQ)(c:Nat):jQ:=if c=0 then kept else kept++[(xL c,c)]
noncomputable def yP (below:List Str)(kept:jQ)(x:Str):Option jQ:=(sE below x).bind fun c=>(cA kept 64 c).map (keep kept)
noncomputable def jY (below above:List Str):Option jQ:=above.foldlM (yP below) []
noncomputable def pS (rs:List Nat)(p:List Str×List Str):Option (List Nat):=(jY p.1 p.2).map fun kp=>rs++[kp.length]
noncomputable def vQ (levels:List (List Str)):Option (List Nat):=(levels.zip (levels.drop 1)).foldlM pS []
theorem uE {α β:Type}{f:β→α→Option β}:∀{l:List α} {a b:β},l.foldlM f a=some b→∃g:Nat→β,g 0=a∧g l.length=b∧∀i (hi:i<l.length),f (g i) l[i]=some (g (i+1))
  | [],a,b,h=>⟨fun Z=>a,rfl,by simpa using h,fun i hi=>absurd hi (uN _)⟩
  | x::r,a,b,h=>by
    rw[List.foldlM_cons] at h;cases hx:f a x with
    | none=>rw[hx] at h;cases h
    | some c =>
      rw[hx] at h;obtain⟨g,g0,gn,gs⟩:=uE (show r.foldlM f c=some b from h);refine⟨fun i=>if i=0 then a else g (i-1),rfl,by assumption,fun i hi=>?_⟩;cases i with
      | zero=>simp[g0,hx]
      | succ i=>simpa using gs i (by simpa using hi)
theorem YF {kept:jQ}{c:Nat}:(keep kept c).length≤kept.length+1:=by unfold keep;split<;>simp
noncomputable abbrev v8 (kept:jQ):List (Int×Dat):=kept.map fun p=>((p.1:Int),Dat.int (p.2:Int))
theorem YE {kept:jQ}{b:Nat}:FA (v8 kept) (b:Int)=(lT kept b).map (fun d:Nat=>Dat.int (d:Int)):=by
  induction kept with
  | nil=>rfl
  | cons p r ih =>
    by_cases h:p.1=b
    · simp[FA,lT,v8,h]
    · have:¬(p.1:Int)=(b:Int):=by exact(UJ h)
      simp only[FA,lT,v8,List.map_cons,List.find?_cons,h,this,decide_false] at ih ⊢;exact ih
theorem tS {kept:jQ}{b:Nat}:(v8 kept).any (fun p=>decide (p.1=(b:Int)))=(lT kept b).isSome:=by
  induction kept with
  | nil=>rfl
  | cons p r ih =>
    by_cases h:p.1=b
    · simp[lT,v8,h]
    · have:¬(p.1:Int)=(b:Int):=by exact(UJ h)
      simp only[lT,v8,List.map_cons,List.any_cons,List.find?_cons,h,this,decide_false,Bool.false_or] at ih ⊢;exact ih
theorem iR {kept:jQ}{b c:Nat}(h:lT kept b=none):kU (v8 kept) (b:Int) (.int (c:Int))=v8 (kept++[(b,c)]):=by
  unfold kU;rw[tS,h];simp
end Mine
namespace Mine
structure sU (φ:Nat→Nat):Prop where
  lt:∀i j,i<j→φ i<φ j
theorem sU.inj {φ:Nat→Nat}(h:sU φ){i j:Nat}(e:φ i=φ j):i=j:=by
  rcases Nat.lt_trichotomy i j with h1 | h1 | h1
  · have:=h.lt _ _ h1;exact(WZ _ _ this (qL e.symm))
  · exact h1
  · have:=h.lt _ _ h1;exact(WZ _ _ this (qL e))
theorem sU.le {φ:Nat→Nat}(h:sU φ){i j:Nat}(e:i≤j):φ i≤φ j:=by
  rcases Nat.lt_or_eq_of_le e with h1 | rfl
  · exact qU (h.lt _ _ h1)
  · exact qH _
noncomputable def pM (φ:Nat→Nat)(c c':Nat):Prop:=(∀i,c'.testBit (φ i)=c.testBit i)∧∀i',c'.testBit i'=true→∃i,φ i=i'
section
variable {φ:Nat→Nat}
theorem pM.zero:pM φ 0 0:=⟨fun i=>by simp,fun i' h=>by simp at h⟩
theorem pM.xor {c c' d d':Nat}(h:pM φ c c')(g:pM φ d d'):pM φ (c^^^d) (c'^^^d'):=⟨fun i=>by rw[Nat.testBit_xor,Nat.testBit_xor,h.1,g.1],fun i' e=>by
  rw[Nat.testBit_xor] at e;cases hc:c'.testBit i' with
  | true=>exact h.2 _ hc
  | false=>rw[hc] at e;exact g.2 _ (by simpa using e)⟩
theorem pM.pow (m:sU φ)(i:Nat):pM φ (2^i) (2^φ i):=⟨fun j=>by
  simp only[Nat.testBit_two_pow,Nat.testBit_two_pow];by_cases e:i=j
  · subst e;simp
  · have:φ i≠φ j:=fun q=>e (m.inj q);simp[e,this],fun i' h=>by
  rw[Nat.testBit_two_pow] at h;exact⟨i,by simpa using h⟩⟩
theorem pM.nil {c c':Nat}(h:pM φ c c'):c=0↔c'=0:=⟨fun e=>by
  subst e;refine sS fun i=>?_;simp only[Nat.zero_testBit];cases hc:c'.testBit i with
  | false=>rfl
  | true =>
    obtain⟨j,rfl⟩:=h.2 _ hc;rw[h.1] at hc;simp at hc,fun e=>by
  subst e;refine sS fun i=>?_;rw[← h.1,Nat.zero_testBit,Nat.zero_testBit]⟩
theorem G8 {c n:Nat}(h:c.testBit n=true)(hn:∀m,n<m→c.testBit m=false):c.log2=n:=by
  have h0:c≠0:=fun e=>by subst e;simp at h
  have h3:=(Nat.le_log2 h0).mpr (Nat.ge_two_pow_of_testBit h:2^n≤c);have h4:=(fH h0).mpr (Nat.lt_pow_two_of_testBit c fun i hi=>hn i hi:c<2^(n+1));exact(kK (yM h4) h3)
theorem J9 {c:Nat}(h0:c≠0):c.testBit c.log2=true∧∀m,c.log2<m→c.testBit m=false:=by
  refine⟨Nat.testBit_log2 h0,fun m hm=>Nat.testBit_lt_two_pow ((fH h0).mp hm)⟩
theorem pM.bits (m:sU φ){c c':Nat}(h:pM φ c c')(h0:c≠0):xL c'=φ (xL c-1)+1∧0<xL c:=by
  obtain⟨b1,b2⟩:=J9 h0;have:c'.log2=φ c.log2:=G8 (by rw[h.1];exact b1) fun i' hi'=>by
    cases hc:c'.testBit i' with
    | false=>rfl
    | true =>
      obtain⟨j,rfl⟩:=h.2 _ hc;rw[h.1] at hc;by_cases hj:j≤c.log2
      · have:=m.le hj;exact(WZ _ _ hi' this)
      · rw[b2 j (by exact(Nat.lt_of_not_le hj))] at hc;cases hc
  unfold xL;rw[if_neg h0,if_neg (fun e=>h0 (h.nil.mpr e):c'≠0),this];exact⟨rfl,by exact(uY _)⟩
noncomputable def gI (φ:Nat→Nat):jQ→jQ→Prop
  | [],[]=>True
  | (b,c)::k,(b',c')::k'=>(c≠0∧pM φ c c'∧b=xL c∧b'=xL c')∧gI φ k k'
  | _,_=>False
theorem gI.len:∀{k k':jQ},gI φ k k'→k.length=k'.length
  | [],[],_=>rfl
  | (_,_)::_,(_,_)::_,h=>by rw[List.length_cons,List.length_cons,gI.len h.2]
  | [],_::_,h=>h.elim
  | (_,_)::_,[],h=>h.elim
theorem gI.snoc {c c':Nat}(h0:c≠0)(h:pM φ c c'):∀{k k':jQ},gI φ k k'→gI φ (k++[(xL c,c)]) (k'++[(xL c',c')])
  | [],[],_=>⟨⟨h0,h,rfl,rfl⟩,trivial⟩
  | (_,_)::_,(_,_)::_,h'=>⟨h'.1,gI.snoc h0 h h'.2⟩
  | [],_::_,h=>h.elim
  | (_,_)::_,[],h=>h.elim
theorem gI.at (m:sU φ){d d':Nat}(hd:pM φ d d')(h0:d≠0):∀{k k':jQ},gI φ k k'→(lT k (xL d)=none∧lT k' (xL d')=none) ∨ ∃c c',lT k (xL d)=some c∧lT k' (xL d')=some c'∧pM φ c c'
  | [],[],_=>.inl ⟨rfl,rfl⟩
  | (b,c)::k,(b',c')::k',hK=>by
    refine zS fun nG=>?_;obtain⟨⟨hc0,hc,rfl,rfl⟩,hr⟩:=hK;obtain⟨e1,e2⟩:=hc.bits m hc0;obtain⟨e3,e4⟩:=hd.bits m h0;refine nG ?_;by_cases e:xL c=xL d
    · have e':xL c'=xL d':=by rw[e1,e3,e]
      exact .inr ⟨c,c',by simp[lT,e],by simp[lT,e'],hc⟩
    · have e':xL c'≠xL d':=fun q=>e (by rw[e1,e3] at q;have:=m.inj (Nat.succ.inj q);exact(V9 [xL c,xL d,xL c-1,xL d-1] [] (.e (.v 2) (.v 3)) (.l (.v 0) (.p (.v 2) (.n 1))) (.e (.p (.v 2) (.n 1)) (.v 0)) (.l (.v 1) (.p (.v 3) (.n 1))) (.e (.p (.v 3) (.n 1)) (.v 1)) [1,1,0,0,1] [-1,0,1,1,0] (.e (.v 0) (.v 1)) 1 1 rfl this (jR _ _) (qQ (zT [xL c] [] (.t (.n 0) (.v 0)) [1] (.l (.n 1) (.v 0)) 1 rfl e2)) (jR _ _) (qQ (zT [xL d] [] (.t (.n 0) (.v 0)) [1] (.l (.n 1) (.v 0)) 1 rfl e4))));rcases gI.at m hd h0 hr with⟨h1,h2⟩ | ⟨u,u',h1,h2,h3⟩
      · left;unfold lT at h1 h2 ⊢;rw[List.find?_cons_of_neg (by simpa using e),List.find?_cons_of_neg (by simpa using e')];exact⟨h1,h2⟩
      · right;refine⟨u,u',?_,?_,h3⟩
        · unfold lT at h1 ⊢; rw[List.find?_cons_of_neg (by simpa using e)];exact h1
        · unfold lT at h2 ⊢; rw[List.find?_cons_of_neg (by simpa using e')];exact h2
  | [],_::_,h=>h.elim
  | (_,_)::_,[],h=>h.elim
theorem gI.red (m:sU φ){k k':jQ}(hk:gI φ k k'):∀(f:Nat) {c c':Nat},pM φ c c'→(cA k f c=none∧cA k' f c'=none) ∨ ∃u u',cA k f c=some u∧cA k' f c'=some u'∧pM φ u u'
  | 0,c,c',h=>.inl ⟨rfl,rfl⟩
  | f+1,c,c',h=>by
    dsimp only[cA];by_cases h0:c=0
    · rw[if_pos h0,if_pos (h.nil.mp h0)];exact .inr ⟨0,0,rfl,rfl,.zero⟩
    · rw[if_neg h0,if_neg fun q=>h0 (h.nil.mpr q)];rcases gI.at m h h0 hk with⟨h1,h2⟩ | ⟨u,u',h1,h2,h3⟩
      · rw[h1,h2];exact .inr ⟨c,c',rfl,rfl,h⟩
      · rw[h1,h2];exact gI.red m hk f (h.xor h3)
theorem gI.keep {k k':jQ}(hk:gI φ k k'){c c':Nat}(h:pM φ c c'):gI φ (keep k c) (keep k' c'):=by
  unfold Mine.keep;by_cases h0:c=0
  · rw[if_pos h0,if_pos (h.nil.mp h0)];exact hk
  · rw[if_neg h0,if_neg fun q=>h0 (h.nil.mpr q)];exact gI.snoc h0 h hk
theorem Z8 (m:sU φ){below full:List Str}{x:Str}(hb:∀j,j<x.length→∃i,idxOf (vP x j) below=some i∧idxOf (vP x j) full=some (φ i)):∀(js:List Nat) {c c':Nat},(∀j∈js,j<x.length)→pM φ c c' →
    ∃u u',js.foldlM (pE below x) c=some u∧js.foldlM (pE full x) c'=some u'∧pM φ u u'
  | [],c,c',_,h=>⟨c,c',rfl,rfl,h⟩
  | j::js,c,c',hj,h=>by
    obtain⟨i,h1,h2⟩:=hb j (hj j (.head _));simp only[List.foldlM_cons,List.foldlM_cons];have e1:pE below x c j=some (c^^^2^i):=by unfold pE;rw[h1];rfl
    rw[e1,(by unfold pE;rw[h2];rfl:pE full x c' j=some (c'^^^2^φ i))];exact Z8 m hb js (fun j hj'=>hj j (.tail _ hj')) (h.xor (.pow m i))
theorem iQ (m:sU φ){below full:List Str}:∀(above:List Str) {k k':jQ} {kp':jQ},(∀x∈above,∀j,j<x.length→∃i,idxOf (vP x j) below=some i∧idxOf (vP x j) full=some (φ i))→gI φ k k' →
    above.foldlM (yP full) k'=some kp'→∃kp,above.foldlM (yP below) k=some kp∧gI φ kp kp'
  | [],k,k',kp',_,hk,h=>⟨k,rfl,by cases h;exact hk⟩
  | x::r,k,k',kp',hx,hk,h=>by
    refine zS fun nG=>?_;obtain⟨u,u',h1,h2,h3⟩:=Z8 m (hx x (.head _)) (List.range x.length) (fun j hj=>List.mem_range.mp hj) .zero;refine nG ?_;rw[List.foldlM_cons] at h ⊢;have c1:sE below x=some u:=h1;have c2:sE full x=some u':=h2;unfold yP at h ⊢;rw[c2] at h;rw[c1];rcases gI.red m hk 64 h3 with⟨r1,r2⟩ | ⟨v,v',r1,r2,r3⟩
    · rw[Option.bind_some,r2] at h;cases h
    · rw[Option.bind_some,r2] at h;simp only[Option.bind_some,r1];exact iQ m r (fun x hx'=>hx x (.tail _ hx')) (gI.keep hk r3) h
end
theorem tN:∀{below full:List Str},below.Sublist full→full.Nodup→∃φ,sU φ∧(∀i,full.length≤φ (below.length+i))∧∀y i,idxOf y below=some i→idxOf y full=some (φ i)
  | _,_,.slnil,_=>⟨id,⟨fun i j h=>h⟩,fun i=>by exact wJ _,fun y i h=>nomatch h⟩
  | _,_,.cons a (l₁:=below) (l₂:=full) s,nd=>by
    obtain⟨φ,m,h1,h2⟩:=tN s (List.nodup_cons.mp nd).2;refine⟨fun i=>φ i+1,⟨fun i j h=>by have:=m.lt i j h;exact(qO this)⟩,fun i=>by have:=h1 i;simp only[List.length_cons];exact(z5 this),fun y i h=>?_⟩;dsimp only[idxOf];have hay:¬a=y:=fun e=>(List.nodup_cons.mp nd).1 (by simp only[e];exact s.subset (List.mem_of_getElem? (gB h).1:y∈below));rw[if_neg hay,h2 y i h];rfl
  | _,_,List.Sublist.cons_cons a (l₁:=below) (l₂:=full) s,nd=>by
    obtain⟨φ,m,h1,h2⟩:=tN s (List.nodup_cons.mp nd).2;refine⟨fun i=>match i with | 0=>0 | i+1=>φ i+1,⟨fun i j h=>?_⟩,fun i=>?_,fun y i h=>?_⟩
    · match i,j,h with
      | 0,j+1,_=>exact uY _
      | i+1,j+1,h=>have:=m.lt i j (by exact(qK (qO (qH _)) (yM h)));show φ i+1<φ j+1;exact(qO this)
    · have:=h1 i;rw[List.length_cons,List.length_cons,show below.length+1+i=(below.length+i)+1 by exact(Nat.add_right_comm _ _ _)];show _≤φ (below.length+i)+1;exact(z5 this)
    · change ite _ _ _=_ at h;show ite _ _ _=_;by_cases e:a=y
      · rw[if_pos e] at h ⊢; cases h;rfl
      · rw[if_neg e] at h ⊢;cases hr:idxOf y below with
        | none=>rw[hr] at h;cases h
        | some n=>rw[hr] at h;cases h;rw[h2 y n hr];rfl
theorem W5 {below full above:List Str}(s:below.Sublist full)(nd:full.Nodup)(hc:∀x∈above,∀j,j<x.length→∃i,idxOf (vP x j) below=some i){kp':jQ}(h:jY full above=some kp'):∃kp,jY below above=some kp∧kp.length=kp'.length:=by
  refine zS fun nG=>?_;obtain⟨φ,m,_,h2⟩:=tN s nd;obtain⟨kp,h3,h4⟩:=iQ m above (k:=[]) (k':=[]) (fun x hx j hj=>let⟨i,hi⟩:=hc x hx j hj;⟨i,hi,h2 _ _ hi⟩) trivial h;refine nG ?_;exact⟨kp,h3,h4.len⟩
end Mine
namespace Mine
noncomputable abbrev P4 (env:Env)(e:Value):Sem Fin:=(do noteFrame e env;theTreesLotGoes e:Sem Unit).wrap (fun Z=>.raise e) .raise id id
noncomputable abbrev UG (env:Env)(K:Flow→Sem Fin)(H:Value→Sem Fin)(gd:Bool→Bool)(lv:List Value→List Value)(r:Result):Sem Fin :=
  ((match r with | .ok f=>(.pure f:Sem Flow) | .error e=>.raise e).onRaise fun(x:Value)=>do
        if(← field x 1)==Value.none then unsupported "frame.own-activation:exception-without-traceback"
        setFlight x env.frame).wrap K H gd lv
section
variable {M:Model}{A:Around}{R:GenEnd}{Y:Protocol}{n:Nat}{s₀:Shared}{c:Code}{fs:List Frame}{s:Shared}{env:Env}
  {K:Flow→Sem Fin} {H:Value→Sem Fin} {gd:Bool→Bool} {lv:List Value→List Value}
theorem tJ {test:Expr}{body orelse:List Stmt}{pos:Pos}
    (h:wpAny M (A.over c fs) (isTrue test env (eval test env)) (fun b s'=>if b=true then Seg M A R Y n s₀ c ((execs body env).wrap K H gd lv) fs s' else Seg M A R Y n s₀ c ((execs orelse env).wrap K H gd lv) fs s') (fun Z Z=>False) s) :
    Seg M A R Y n s₀ c ((exec (.If test body orelse pos) env).wrap K H gd lv) fs s:=by
  simp only[exec_If];show Seg M A R Y n s₀ c (.at pos fun Z=>(isTrue test env (eval test env) >>= fun b=>if b=true then execs body env else execs orelse env).wrap K H gd lv) fs s;refine seg_at ?_;simp only[Sem.bind_eq_wrap',Sem.wrap_wrap];refine yO (xT h (fun b s' hb=>?_) fun Z Z x=>x.elim);cases b with
  | true=>exact hb
  | false=>exact hb
theorem ZK {target iter:Expr}{body orelse:List Stmt}{pos:Pos}
    (h:wpAny M (A.over c fs) (eval iter env) (fun v s₁=>wpAny M (A.over c fs) (pyIter v) (fun it s₂=>∀p,Seg M A R Y n s₀ (.forLoop target it body orelse env) (M.den (.forLoop target it body orelse env))
      (.ret (UG env K H gd lv) none (gd false) (lv []) c p []::fs) s₂) (fun Z Z=>False) s₁) (fun Z Z=>False) s)
    (hs:∀x,foldedSetIterable iter env x=pure x) :
    Seg M A R Y n s₀ c ((exec (.For target iter body orelse pos) env).wrap K H gd lv) fs s:=by
  simp only[exec_For];simp only[hs];show Seg M A R Y n s₀ c (.at pos fun Z=>(eval iter env >>= fun v=>(standAt iter.pos >>= fun Z=>holding [v] (pyIter v) >>= fun it=>runOwn (.forLoop target it body orelse env) env)).wrap K H gd lv) fs s;refine seg_at ?_;rw[Sem.bind_eq_wrap',Sem.wrap_wrap];refine yO (xT h (fun v s₁ h₁=>?_) fun Z Z x=>x.elim);refine seg_at ?_;show Seg M A R Y n s₀ c ((holding [v] (pyIter v) >>= fun it=>runOwn (.forLoop target it body orelse env) env).wrap K H gd lv) fs s₁;simp only[Sem.bind_eq_wrap',Sem.wrap_wrap];refine yO (xS (xT h₁ (fun it s₂ h₂=>?_) fun Z Z x=>x.elim));exact seg_call h₂
theorem n5 {pos:Pos}(h:Seg M A R Y n s₀ c (K (.ret .none)) fs s):Seg M A R Y n s₀ c ((exec (.Return none pos) env).wrap K H gd lv) fs s:=by
  simp only[exec_Return_none];exact seg_at h
end
section
variable {prog:Program}{w:World}{A:Around}{R:GenEnd}{Y:Protocol}{n:Nat}{s₀:Shared}{fs:List Frame}{s:Shared}{env:Env}
theorem u6 {target:Expr}{it:Value}{body orelse:List Stmt}
    (h:wpAny (model prog w) (A.over (.forLoop target it body orelse env) fs) (pyNext it) (fun r s₁=>match r with
        | none=>Seg (model prog w) A R Y n s₀ (.forLoop target it body orelse env) (.pure (.again (.block orelse env))) fs s₁
        | some v=>wpAny (model prog w) (A.over (.forLoop target it body orelse env) fs) (letOwnedTupleGo target it v) (fun Z s₂=>
            wpAny (model prog w) (A.over (.forLoop target it body orelse env) fs) (assign target env v) (fun Z s₃=>
              Seg (model prog w) A R Y n s₀ (.forLoop target it body orelse env) ((execs body env).wrap (fun f=>match f with
                | .next | .cont=>.pure (.again (.forLoop target it body orelse env))
                | .brk=>.pure (.done .next)
                | .ret v=>.pure (.done (.ret v))) (P4 env) id id) fs s₃) (fun Z Z=>False) s₂) (fun Z Z=>False) s₁) (fun Z Z=>False) s) :
    Seg (model prog w) A R Y n s₀ (.forLoop target it body orelse env) ((model prog w).den (.forLoop target it body orelse env)) fs s:=by
  show Seg _ A R Y n s₀ _ ((forTurn target it body orelse env).onRaise (fun x=>do noteFrame x env;theTreesLotGoes x)) fs s;unfold forTurn;rw[Sem.onRaise_eq_wrap];refine seg_at ?_;show Seg _ A R Y n s₀ _ (((pyNext it).onRaise (fun Z=>standAt {target.pos with line:=0}) >>= fun r=>match r with
    | none=>again (.block orelse env)
    | some v=>letOwnedTupleGo target it v >>= fun Z=>assign target env v >>= fun Z=>execs body env >>= fun f=>match f with
      | .next | .cont=>again (.forLoop target it body orelse env)
      | .brk=>pure (.done .next)
      | .ret v=>pure (.done (.ret v))).wrap _ _ _ _) fs s
  rw[Sem.bind_eq_wrap',Sem.wrap_wrap,Sem.onRaise_eq_wrap,Sem.wrap_wrap];refine yO (xT h (fun r s₁ h₁=>?_) fun Z Z x=>x.elim);cases r with
  | none=>exact h₁
  | some v =>
    show Seg _ A R Y n s₀ _ (Sem.wrap _ _ _ _ (letOwnedTupleGo target it v >>= fun Z=>assign target env v >>= fun Z=>execs body env >>= fun f=>_)) fs s₁;rw[Sem.bind_eq_wrap',Sem.wrap_wrap];refine yO (xT h₁ (fun Z s₂ h₂=>?_) fun Z Z x=>x.elim);rw[Sem.bind_eq_wrap',Sem.wrap_wrap];refine yO (xT h₂ (fun Z s₃ h₃=>?_) fun Z Z x=>x.elim);rw[Sem.bind_eq_wrap',Sem.wrap_wrap];rw[Sem.wrap_congr (execs body env) _ _ (K':=fun f=>match f with
            | .next | .cont=>.pure (.again (.forLoop target it body orelse env))
            | .brk=>.pure (.done .next)
            | .ret v=>.pure (.done (.ret v))) (H':=P4 env)
        (fun f=>by cases f<;>rfl)
        (fun e=>by first | exact Sem.bind_eq_wrap _ _ | (show(do noteFrame e env;theTreesLotGoes e:Sem Unit).bind (fun Z=>.raise e)=_;rw[Sem.bind_eq_wrap]))]
    exact h₃
theorem rA (h:Seg (model prog w) A R Y n s₀ (.block [] env) (leafOf (.ok .next)) fs s) :
    Seg (model prog w) A R Y n s₀ (.block [] env) ((model prog w).den (.block [] env)) fs s:=h
end
end Mine
namespace Mine
inductive GOut where
  | y (i:Int)
  | fin
  | err
noncomputable def jP:List Int→Option Int→Nat→GOut
  | [],_,_=>.fin
  | x::r,last,j=>if x=127 then .fin else if x=0 then(match last with | none=>.err | some v=>.y v) else match j with
    | 0=>.y x
    | j+1=>jP r (some x) j
structure lV (L it:Nat)(s₀ s:Shared):Prop where
  keep:∀a o,a≠L→a≠it→s₀.heap.get? a=some o→s.heap.get? a=some o
  size:s₀.heap.objs.size≤s.heap.objs.size
  toks:s₀.toks≤s.toks
  os:s.os=s₀.os
  gens:s.gens=s₀.gens
structure nA (env:Env):Prop where
  sc:env.scope=(xC 14).scope
  glob:env.globals=mainGlobals
  blt:env.builtins=builtinsNs
  frame:env.frame=some env.locals
structure X7 (W:Wd)(env:Env)(it l n:Nat)(vs:List Value)(oL oI:Obj)(s:Shared):Prop where
  base:W.base.StaysIn s.heap
  list:s.heap.get? l=some (listOf vs.toArray n)
  loc:s.heap.get? env.locals=some oL
  iter:s.heap.get? it=some oI
structure WG (W:Wd)(env:Env)(it l n:Nat)(vs:List Value)(j:Nat)(m:Str→Option Value)(s₀ s:Shared):Prop where
  base:W.base.StaysIn s.heap
  list:s.heap.get? l=some (listOf vs.toArray n)
  ns:s.heap.Ns env.locals m
  iter:s.heap.IsListIter it l j
  since:lV env.locals it s₀ s
structure FG (W:Wd)(env:Env)(it l:Nat):Prop where
  bL:W.base.get? env.locals=none
  bI:W.base.get? it=none
  lL:l≠env.locals
  lI:l≠it
  LI:env.locals≠it
variable {w:World}{W:Wd}{env:Env}{it l n:Nat}{vs:List Value}{j:Nat}{m m':Str→Option Value}{s₀ s:Shared}
theorem WG.tok (x:WG W env it l n vs j m s₀ s):WG W env it l n vs j m s₀ {s with toks:=s.toks+1} :=
  ⟨x.base,x.list,x.ns,x.iter,⟨x.since.keep,x.since.size,qW x.since.toks,x.since.os,x.since.gens⟩⟩
theorem p9 {h h':Heap}{a:Nat}(b:W.base.StaysIn h)(hs:Heap.SameBut a h h')(ha:W.base.get? a=none):W.base.StaysIn h':=fun c o e=>
  (hs.2 c fun q=>by rw[q,ha] at e;cases e).trans (b c o e)
theorem WG.store (x:WG W env it l n vs j m s₀ s)(ap:FG W env it l){h':Heap}(hn:h'.Ns env.locals m')(hs:Heap.SameBut env.locals s.heap h') :
    WG W env it l n vs j m' s₀ {s with heap:=h',toks:=s.toks+1} :=
  ⟨p9 x.base hs ap.bL,(hs.2 _ ap.lL).trans x.list,hn,(let⟨o,ho,r⟩:=x.iter;⟨o,(hs.2 _ (xW ap.LI)).trans ho,r⟩),
    ⟨fun a o h1 h2 e=>(hs.2 a h1).trans (x.since.keep a o h1 h2 e),by show _≤h'.objs.size;simp only[hs.1];exact x.since.size,qW x.since.toks,x.since.os,x.since.gens⟩⟩
theorem WG.next (x:WG W env it l n vs j m s₀ s)(ap:FG W env it l){h':Heap}{j':Nat}(hi:h'.IsListIter it l j')(hs:Heap.SameBut it s.heap h') :
    WG W env it l n vs j' m s₀ {s with heap:=h'} :=
  ⟨p9 x.base hs ap.bI,(hs.2 _ ap.lI).trans x.list,x.ns.sameBut hs ap.LI,hi,
    ⟨fun a o h1 h2 e=>(hs.2 a h2).trans (x.since.keep a o h1 h2 e),by show _≤h'.objs.size;simp only[hs.1];exact x.since.size,x.since.toks,x.since.os,x.since.gens⟩⟩
structure GR (W:Wd)(env:Env)(it l n:Nat)(vs:List Value)(ns:List Int)(Fg:Fz)(N:Nat)(R:GenEnd):Prop where
  fin:∀k s₀ s,k≤N→jP ns none (N-k)=.fin→lV env.locals it s₀ s→R k s₀ (.ok (.ret .none)) s
noncomputable def GY (W:Wd)(env:Env)(it l n:Nat)(vs:List Value)(ns:List Int)(Fg:Fz)(N:Nat):Protocol:=fun k s₀ v s κ=>
  ∃i oL oI,jP ns none (N-1-k)=.y i∧xQ Fg v (.int i)∧lV env.locals it s₀ s∧s.heap.get? env.locals=some oL∧s.heap.get? it=some oI ∧
    (k≠0→∀s',X7 W env it l n vs oL oI s'→κ (.send .none) s')
noncomputable def B3 (Fg:Fz)(v:Value):Option Int→Prop
  | none=>v=.none
  | some i=>xQ Fg v (.int i)
noncomputable def UB:List Stmt:=match(xC 14).body with
  | [_,.For _ _ b _ _]=>b
  | _=>[]
noncomputable def FX:Expr:=match(xC 14).body with
  | [_,.For t _ _ _ _]=>t
  | _=>.Constant .none 0 ⟨0,0,0,0⟩
section
variable {A:Around}{E:Value→Shared→Prop}
theorem uD {y:Str}{pos:Pos}{v:Value}{Q:Value→Shared→Prop}(ge:nA env)(hn:s.heap.Ns env.locals m)(hk:(xC 14).scope.names.lookup y=some .local)(hv:m y=some v)(q:Q v s)
    (hd:autoParam ((y==("__debug__":Str))=false) au2):wpAny (model pw w) A (eval (.Name y pos) env) Q E s :=
  l7 (pQ (by rw[ge.sc];rfl) (by show env.scope.names.lookup y=_;rw[ge.sc];exact hk) hn hv q) hd
theorem dW {y:Str}{v:Value}{Q:Unit→Shared→Prop}(ge:nA env)(hn:s.heap.Ns env.locals m)(hk:(xC 14).scope.names.lookup y=some .local)
    (q:∀h',h'.Ns env.locals (fun x=>if x=y then some v else m x)→Heap.SameBut env.locals s.heap h'→Q () {s with heap:=h',toks:=s.toks+1}):wpAny (model pw w) A (storeName env y v) Q E s :=
  nY (by show env.scope.names.lookup y=_;rw[ge.sc];exact hk) hn q (by rw[ge.sc];rfl)
theorem YR {y:Str}{p p' pos:Pos}{x:Int}{t:Nat}{whole:Sem Value}{Q:Bool→Shared→Prop}(ok:bX W)(ge:nA env)(hb:W.base.StaysIn s.heap)(hn:s.heap.Ns env.locals m)(hk:(xC 14).scope.names.lookup y=some .local)(hv:m y=some (.int x t))(q:Q (x==127) s)
    (hd:autoParam ((y==("__debug__":Str))=false) au2):wpAny (model pw w) A (isTrue (.Compare (.Name y p) [.Eq] [.Name ("CHAR_MAX":Str) p'] pos) env whole) Q E s:=by
  obtain⟨u,hg⟩:=ok.cmax;refine wK (uD ge hn hk hv ?_ hd);refine Name_function_global (by rw[ge.sc];rfl) (by show env.scope.names.lookup _=_;rw[ge.sc];rfl) (loadGlobal_global (by rw[ge.glob];exact W.g.keeps hb) hg ?_);exact P.eq_int (wY q)
theorem YQ {y:Str}{p p' pos:Pos}{x:Int}{t:Nat}{c:Nat}{whole:Sem Value}{Q:Bool→Shared→Prop}(ge:nA env)(hn:s.heap.Ns env.locals m)(hk:(xC 14).scope.names.lookup y=some .local)(hv:m y=some (.int x t))(q:Q (x==0) {s with toks:=s.toks+1})
    (hd:autoParam ((y==("__debug__":Str))=false) au2):wpAny (model pw w) A (isTrue (.Compare (.Name y p) [.Eq] [.Constant (.int 0) c p'] pos) env whole) Q E s :=
  wK (uD ge hn hk hv (wpAny_Constant_int (P.eq_int (wY q))) hd)
theorem iW {y:Str}{p p' pos:Pos}{v:Value}{c:Nat}{whole:Sem Value}{Q:Bool→Shared→Prop}(ge:nA env)(hn:s.heap.Ns env.locals m)(hk:(xC 14).scope.names.lookup y=some .local)(hv:m y=some v)(q:Q (v==.none) s)
    (hd:autoParam ((y==("__debug__":Str))=false) au2):wpAny (model pw w) A (isTrue (.Compare (.Name y p) [.Is] [.Constant .none c p'] pos) env whole) Q E s :=
  wK (uD ge hn hk hv (s9 (is_none (wY q))) hd)
end
end Mine
namespace Mine
variable {w:World}{W:Wd}{env:Env}{it l n:Nat}{vs:List Value}{j:Nat}{m m':Str→Option Value}{s₀ s:Shared}{A:Around}{R:GenEnd}{ns:List Int}{Fg:Fz}{N:Nat}
noncomputable def FY:Flow→Sem Fin:=fun f=>.pure (.done (.ret (match f with | .ret v=>v | _=>.none)))
noncomputable def BJ (env:Env):Value→Sem Fin:=fun e=>(leaving env e).wrap (fun Z=>.raise e) .raise id id
noncomputable def ZS (env:Env)(p:Pos):List Frame :=
  [.ret (UG env (fun f=>match f with | .next=>(execs [] env).wrap FY (BJ env) id id | f=>FY f) (BJ env) id id) none false [] (.func (xC 14).body env) p []]
noncomputable def UA (it:Nat)(env:Env):Code:=.forLoop FX (.ref it) UB [] env
theorem KC {test:Expr}{body:List Stmt}{fs:List Frame}{y:Str}{yp p1 p2 tp:Pos}{c:Nat}{lv:Value}{i:Int}(ge:nA env)(ap:FG W env it l)(hfs:splitAtGen fs=none)(hfg:fs.any Frame.guarded=false)
    (hk:(xC 14).scope.names.lookup y=some .local)(hlv:m y=some lv)(hr:xQ Fg lv (.int i))(hy:∀q,j≤q→jP ns none q=.y i)
    (ht:test=.Constant (.bool true) c tp)(hb:body=[.Expr (.Yield (some (.Name y yp)) p1) p2])(hd:autoParam ((y==("__debug__":Str))=false) au2) :
    ∀(k:Nat) (s₀ s:Shared),k+1+j≤N→WG W env it l n vs (j+1) m s₀ s →
      Seg (model pw w) A R (GY W env it l n vs ns Fg N) (k+1) s₀ (.whileLoop test body [] env) ((model pw w).den (.whileLoop test body [] env)) fs s:=by
  subst ht hb;intro k
  induction k with
  | zero =>
    intro s₀ s hN st;refine seg_whileLoop (u0 (wpAny_Constant_bool (wY ?_)));rw[if_pos rfl];refine zB (seg_Expr_Yield hfs rfl hfg (uD ge st.ns hk hlv ?_ hd) (by rw[ge.sc];rfl) (by unfold interactive;rw[ge.sc];rfl));intro κ hκ;refine zS fun nG=>?_;obtain⟨oI,hI,_⟩:=st.iter;obtain⟨oL,_,_,hL,_⟩:=st.ns;refine nG ?_;exact⟨i,oL,oI,hy _ (by exact(bW [_,_,_,_] [] (.l (.p (.p (.n 0) (.n 1)) (.v 0)) (.v 2)) (.l (.v 3) (.p (.v 1) (.n 0))) (.l (.v 2) (.p (.v 3) (.n 1))) [1,1,1] (.l (.v 0) (.v 1)) 1 rfl hN (jR _ _) (jR _ _))),hr,st.since,hL,hI,fun h=>absurd rfl h⟩
  | succ k ih =>
    intro s₀ s hN st;refine seg_whileLoop (u0 (wpAny_Constant_bool (wY ?_)));rw[if_pos rfl];refine zB (seg_Expr_Yield hfs rfl hfg (uD ge st.ns hk hlv ?_ hd) (by rw[ge.sc];rfl) (by unfold interactive;rw[ge.sc];rfl));intro κ hκ;obtain⟨oI,hI,hI2⟩:=st.iter;obtain⟨oL,es,ep,hL,hL2⟩:=st.ns;refine⟨i,oL,oI,hy _ (by exact(bW [_,_,_,_,_] [] (.l (.p (.p (.p (.v 2) (.n 1)) (.n 1)) (.v 0)) (.v 3)) (.l (.v 4) (.p (.v 1) (.p (.v 2) (.n 1)))) (.l (.v 3) (.p (.v 4) (.n 1))) [1,1,1] (.l (.v 0) (.v 1)) 1 rfl hN (jR _ _) (jR _ _))),hr,st.since,hL,hI,fun Z s' rd=>hκ _ _ ?_⟩;refine seg_again rfl (ih s' s' (by exact(qB (sT (qW (qH _)) _) hN)) ⟨rd.base,rd.list,⟨oL,es,ep,rd.loc,hL2⟩,⟨oI,rd.iter,hI2⟩,⟨fun Z Z Z Z e=>e,qH _,qH _,rfl,rfl⟩⟩)
theorem YO (ok:bX W)(ge:nA env)(ap:FG W env it l)(hR:GR W env it l n vs ns Fg N R)(hv:xV Fg vs (ns.map Dat.int))(hne:∀q,jP ns none q≠.err)(hA:A.handled=none) :
    ∀(r:List Int) (jl k:Nat) (last:Option Int) (lv:Value) (m:Str→Option Value) (s₀ s:Shared) (p:Pos),ns.drop jl=r→N=k+1+jl→(∀q,jP ns none (jl+q)=jP r last q) →
      B3 Fg lv last→m ("last_interval":Str)=some lv→WG W env it l n vs jl m s₀ s →
      Seg (model pw w) A R (GY W env it l n vs ns Fg N) (k+1) s₀ (UA it env) ((model pw w).den (UA it env)) (ZS env p) s:=by
  intro r
  induction r with
  | nil =>
    intro jl k last lv m s₀ s p hr hN hG hl hL st;refine u6 (wD (nZ (by exact hA) st.iter ⟨_,st.list,rfl,_,rfl⟩ ?_ fun h' he h1 h2=>?_))
    · have e:=hv.length;simp only[List.length_map] at e;rw[List.drop_eq_nil_iff] at hr;simp;exact(qB (qL e) hr)
    · refine seg_again rfl (rA (seg_leaf _ ?_));refine seg_end (.ok (.ret .none)) (hR.fin _ _ _ (by exact(Q5 (qL hN.symm))) (by simp only[show N-(k+1)=jl+0 by exact(GA [_,_,_,_] [] (.e (.v 2) (.p (.p (.v 3) (.n 1)) (.v 1))) (.l (.v 2) (.p (.v 0) (.p (.v 3) (.n 1)))) (.e (.p (.v 0) (.p (.v 3) (.n 1))) (.v 2)) [1,0,1] [-1,1,0] (.e (.v 0) (.p (.v 1) (.n 0))) 1 1 rfl hN (jR _ _) (Nat.sub_add_cancel (zT [_,_,_] [] (.e (.v 1) (.p (.p (.v 0) (.n 1)) (.v 2))) [-1] (.l (.p (.v 0) (.n 1)) (.v 1)) 1 rfl hN))),hG 0];rfl) ?_);exact⟨fun a o h1 h2 e=>he a o h2 (st.since.keep a o h1 h2 e),qB st.since.size h1,st.since.toks,st.since.os,st.since.gens⟩
  | cons x r ih =>
    intro jl k last lv m s₀ s p hr hN hG hl hL st;have hx:(ns.map Dat.int)[jl]?=some (.int x):=by
      have:=congrArg List.head? hr;rw[List.head?_drop] at this;simp only[List.getElem?_map,this];rfl
    refine zS fun nG=>?_;obtain⟨v,hv1,hv2⟩:=hv.get hx;revert hv1;refine xQ.eInt hv2 fun t htk=>?_;intro hv1;refine nG ?_;refine u6 (vY st.iter ⟨_,st.list,rfl,_,rfl⟩ (x:=.int x t) (by simpa using hv1) fun h' hi hs=>?_);have st1:=st.next ap hi hs
    refine x7 (pA rfl _ _) ?_;refine yJ (dW ge st1.ns rfl fun h'' hn hs'=>?_);have st2:=st1.store ap hn hs';refine zB (tJ (YR ok ge st2.base st2.ns rfl (if_pos rfl) ?_));by_cases h127:x=127
    · subst h127;rw[if_pos (show((127:Int)==127)=true by exact rfl)];refine zB (n5 (seg_leaf (.ok (.ret .none)) (seg_end (.ok (.ret .none)) (hR.fin _ _ _ (by exact(Q5 (qL hN.symm))) (by simp only[show N-(k+1)=jl+0 by exact(GA [_,_,_,_] [] (.e (.v 2) (.p (.p (.v 3) (.n 1)) (.v 1))) (.l (.v 2) (.p (.v 0) (.p (.v 3) (.n 1)))) (.e (.p (.v 0) (.p (.v 3) (.n 1))) (.v 2)) [1,0,1] [-1,1,0] (.e (.v 0) (.p (.v 1) (.n 0))) 1 1 rfl hN (jR _ _) (Nat.sub_add_cancel (zT [_,_,_] [] (.e (.v 1) (.p (.p (.v 0) (.n 1)) (.v 2))) [-1] (.l (.p (.v 0) (.n 1)) (.v 1)) 1 rfl hN))),hG 0];rfl) st2.since))))
    · rw[if_neg (by simpa using h127)];refine rO ?_;refine zB (tJ (YQ ge st2.ns rfl (if_pos rfl) ?_));have st3:=st2.tok;by_cases h0:x=0
      · subst h0;rw[if_pos (show((0:Int)==0)=true by exact rfl)];refine zB (tJ (iW (v:=lv) ge st3.ns rfl ((if_neg (by decide)).trans hL) ?_));cases last with
        | none=>exact absurd (by rw[hG 0];rfl) (hne (jl+0))
        | some i =>
          have hlv:¬(lv==Value.none)=true:=by
            refine xQ.eInt hl fun Z Z=>?_;exact Bool.false_ne_true
          rw[if_neg hlv];refine rO ?_;refine zB (seg_While fun p'=>?_);exact KC (j:=jl) ge ap rfl rfl rfl ((if_neg (by decide)).trans hL) hl (fun q hq=>by
            obtain⟨q',rfl⟩:=Nat.exists_eq_add_of_le hq;rw[hG q'];exact rfl) rfl rfl (by exact rfl) k _ _ (by exact(qL hN.symm)) st3
      · rw[if_neg (by simpa using h0)];refine rO ?_;refine zB (seg_Expr_Yield rfl rfl rfl (uD ge st3.ns rfl (if_pos rfl) ?_) (by rw[ge.sc];rfl) (by unfold interactive;rw[ge.sc];rfl));intro κ hκ;obtain⟨oI,hI,hI2⟩:=st3.iter;obtain⟨oL,es,ep,hL1,hL2⟩:=id st3.ns;refine⟨x,oL,oI,by simp only[show N-1-k=jl+0 by exact(V9 [_,_,_,_,_] [] (.e (.v 2) (.p (.p (.v 3) (.n 1)) (.v 1))) (.l (.v 4) (.p (.v 0) (.v 3))) (.e (.p (.v 0) (.v 3)) (.v 4)) (.l (.v 2) (.p (.v 4) (.n 1))) (.e (.p (.v 4) (.n 1)) (.v 2)) [1,0,1,0,1] [-1,1,0,1,0] (.e (.v 0) (.p (.v 1) (.n 0))) 1 1 rfl hN (jR _ _) (Nat.sub_add_cancel (kN [_,_,_,_] [] (.e (.v 2) (.p (.p (.v 0) (.n 1)) (.v 3))) (.l (.v 2) (.p (.v 1) (.n 1))) [-1,1] (.l (.v 0) (.v 1)) 1 rfl hN (jR _ _))) (jR _ _) (Nat.sub_add_cancel (zT [_,_,_] [] (.e (.v 0) (.p (.p (.v 1) (.n 1)) (.v 2))) [-1] (.l (.n 1) (.v 0)) 1 rfl hN))),hG 0];dsimp only[jP];simp[h127,h0],.int htk,st3.since,hL1,hI,fun hk s' rd=>hκ _ _ ?_⟩;obtain⟨k',rfl⟩:=Nat.exists_eq_succ_of_ne_zero hk;have st4:WG W env it l n vs (jl+1) (fun y=>if y=("interval":Str) then some (.int x t) else m y) s' s':=⟨rd.base,rd.list,⟨oL,es,ep,rd.loc,hL2⟩,⟨oI,rd.iter,hI2⟩,⟨fun Z Z Z Z e=>e,qH _,qH _,rfl,rfl⟩⟩;refine zB (yO (kI (uD ge st4.ns rfl (if_pos rfl) (dW ge st4.ns rfl fun h5 hn5 hs5=>?_))));refine seg_again rfl (ih (jl+1) k' (some x) (.int x t) _ _ _ p (by simp only[← List.drop_drop,hr];rfl) (by exact(jN hN (vL _ _ _))) (fun q=>?_) (.int htk) (if_pos rfl) (st4.store ap hn5 hs5));simp only[show jl+1+q=jl+(q+1) by exact(Nat.add_right_comm _ _ _),hG (q+1)];dsimp only[jP];simp[h127,h0]
end Mine
namespace Mine
variable {w:World}{W:Wd}{env:Env}{it l n:Nat}{vs:List Value}{j:Nat}{m m':Str→Option Value}{s₀ s:Shared}{A:Around}{R:GenEnd}{ns:List Int}{Fg:Fz}{N:Nat}
theorem KF (ok:bX W)(ge:nA env)(ap:FG W env it l)(hR:GR W env it l n vs ns Fg N R)(hv:xV Fg vs (ns.map Dat.int))(hne:∀q,jP ns none q≠.err)(hA:A.handled=none)
    (hb:W.base.StaysIn s.heap)(hl:s.heap.get? l=some (listOf vs.toArray n))(hn:s.heap.Ns env.locals m)(hm:m ("grouping":Str)=some (.ref l))(hit:it=s.heap.objs.size){k:Nat}(hN:N=k+1) :
    Seg (model pw w) A R (GY W env it l n vs ns Fg N) (k+1) s (.func (xC 14).body env) ((model pw w).den (.func (xC 14).body env)) [] s:=by
  refine seg_func (zB (yO (kI (s9 (dW ge hn rfl fun h' hn' hs=>?_)))));have hsz:h'.objs.size=it:=by rw[hs.1,hit]
  have hl':h'.get? l=some (listOf vs.toArray n):=(hs.2 _ ap.lL).trans hl;refine zB (ZK (uD ge hn' rfl ((if_neg (by decide)).trans hm) ?_) (by intro _;rfl));refine bY ⟨_,hl',rfl,_,rfl⟩ fun p=>?_;show Seg _ _ _ _ _ _ (.forLoop _ (.ref h'.objs.size) _ _ _) _ _ _;rw[hsz];refine YO ok ge ap hR hv hne hA ns 0 k none .none _ _ _ p rfl (by omega) (fun q=>by rw[Nat.zero_add]) rfl (if_pos rfl) ⟨?_,?_,hn'.push _,?_,⟨?_,?_,xI _,rfl,rfl⟩⟩
  · exact fun a o e=>Heap.get?_push_of_some _ (p9 hb hs ap.bL a o e)
  · exact Heap.get?_push_of_some _ hl'
  · exact⟨_,by rw[← hsz];exact Heap.get?_push_size _ rfl,rfl,rfl⟩
  · exact fun a o h1 h2 e=>Heap.get?_push_of_some _ ((hs.2 a h1).trans e)
  · show _≤(h'.push _).objs.size;simp only[Heap.size_push,hs.1];exact(qR _ _)
section
variable {E:Value→Shared→Prop}{Q:Value→Shared→Prop}
theorem gW {i:Addr}{x left step:Int}(hit:IsRangeIter s.heap i x left step)(hleft:0<left)
    (hQ:∀h',IsRangeIter h' i (x+step) (left-1) step→Heap.SameBut i s.heap h'→Q (.int x s.toks) {s with heap:=h',toks:=s.toks+1}) :
    wpAny (model pw w) A (Builtin.SmallTypes.nextOf (.ref i)) Q E s:=by
  have hT:s.TypeIs (.ref i) "range_iterator":=⟨_,hit,rfl⟩;unfold Builtin.SmallTypes.nextOf
  refine qC (wpAny_callSpecial?_slot (name:=Str.ofString "__next__") hT yX
    (call_meets yX hT F.entry_range_iterator_next (F.args_range_iterator_next_1 _) (AutoRange.range_iterator___next___range_iterator_1 i x left step (by exact(Int.not_le.mpr hleft))) ⟨hit,?_⟩))
  exact qI (hQ _ (Heap.get?_update_self _ (Heap.get?_update_self _ hit rfl) rfl) ((zP ..).trans (zP ..)))
noncomputable def WE (s:Shared)(e:Addr)(s':Shared):Prop:=∃h',s'={s with heap:=h'}∧(∀b o,s.heap.get? b=some o→h'.get? b=some o)∧s.heap.objs.size≤h'.objs.size∧(∃o,h'.get? e=some o∧o.cls=.type "StopIteration")∧s.heap.get? e=none
theorem J1 (hh:A.handled=none)(h:∀e s',WE s e s'→E (.ref e) s'){α:Type}{Q:α→Shared→Prop}:wpAny (model pw w) A (do raiseNew (← newExc (.type "StopIteration") []):Sem α) Q E s:=by
  refine qC ?_;simp only[newExc,newTuple];refine qC (zF ?_ (by size_fits));refine qC (m:=firstArgMember _ _) (x7 (a:=Value.none) (by first | rfl | (simp only[firstArgMember];rfl)) ?_);refine zF ?_ (by size_fits);unfold raiseNew;refine qC (wpAny_handled ?_);rw[hh];refine qC (qI (mP ?_));refine h _ _ ⟨_,rfl,fun b o hb=>Heap.get?_push_of_some _ (Heap.get?_push_of_some _ hb),?_,⟨_,Heap.get?_push_size _ rfl,rfl⟩,x4 ?_⟩
  · simp;exact(qW (qR _ _))
  · simp
theorem WX (hh:A.handled=none)(h:∀e s',WE s e s'→E (.ref e) s'){α β:Type}{g:α→Sem β}{Q:β→Shared→Prop}:wpAny (model pw w) A (newExc (.type "StopIteration") [] >>= fun e=>(raiseNew e:Sem α) >>= g) Q E s:=by
  refine qC ?_;simp only[newExc,newTuple];refine qC (zF ?_ (by size_fits));refine qC (m:=firstArgMember _ _) (x7 (a:=Value.none) (by first | rfl | (simp only[firstArgMember];rfl)) ?_);refine zF ?_ (by size_fits);unfold raiseNew;refine qC (qC (wpAny_handled ?_));rw[hh];refine qC (qI (mP ?_));refine h _ _ ⟨_,rfl,fun b o hb=>Heap.get?_push_of_some _ (Heap.get?_push_of_some _ hb),?_,⟨_,Heap.get?_push_size _ rfl,rfl⟩,x4 ?_⟩
  · simp;exact(qW (qR _ _))
  · simp
theorem tP {i:Addr}{x left step:Int}(hh:A.handled=none)(hit:IsRangeIter s.heap i x left step)(hleft:left≤0)(h:∀e s',WE s e s'→E (.ref e) s') :
    wpAny (model pw w) A (Builtin.SmallTypes.nextOf (.ref i)) Q E s:=by
  have hT:s.TypeIs (.ref i) "range_iterator":=⟨_,hit,rfl⟩;unfold Builtin.SmallTypes.nextOf
  refine qC (wpAny_callSpecial?_slot (name:=Str.ofString "__next__") hT yX
    (jV yX hT F.entry_range_iterator_next ?_ (F.args_range_iterator_next_1 _)))
  show wpAny _ _ (field (.ref i) 0 >>= _) _ _ s;refine qC (zC hit rfl (x:=rawInt x) rfl ?_);show wpAny _ _ (field (.ref i) 1 >>= _) _ _ s;refine qC (zC hit rfl (x:=rawInt left) rfl ?_);show wpAny _ _ (field (.ref i) 2 >>= _) _ _ s;refine qC (zC hit rfl (x:=rawInt step) rfl ?_);show wpAny _ _ (if left≤0 then _ else _) _ _ s;rw[if_pos hleft];refine qC (jO ?_);exact qC (J1 (A:=A.in1) hh h)
theorem Q4 {a g k:Nat}{gs:GenState}{Y:Protocol}(hh:A.handled=none)(hl:s.heap.NoLimit)(hroom:A.depth<recursionLimit)(hg:s.heap.IsGen a g)(hgs:s.gens[g]?=some gs)
    (hgo:gs.Goes (model pw w) A.in1 R Y k (.send .none) (s.setGen g .running))
    (hY:∀v s₁ gs',gs'.bare=true→Y (k-1) (s.setGen g .running) v s₁ (fun r' s''=>match k with | 0=>False | m+1=>gs'.Goes (model pw w) A.in1 R Y m r' s'')→Q v (s₁.setGen g gs'))
    (hR:∀x s₁,R k (s.setGen g .running) x s₁→x=.ok (.ret .none)∧∀e s',WE (s₁.setGen g .finished) e s'→E (.ref e) s') :
    wpAny (model pw w) A (Builtin.SmallTypes.nextOf (.ref a)) Q E s:=by
  unfold Builtin.SmallTypes.nextOf
  refine qC (wpAny_callSpecial?_slot (name:=Str.ofString "__next__") hg.typeIs slot_gen_next
    (jV slot_gen_next hg.typeIs entry_gen_next ?_ (args_gen_next _)))
  show wpAny _ _ (Builtin.Generator.genWake (.ref a) (.send .none)) _ _ s;unfold Builtin.Generator.genWake;refine qC (xS (wpAny_genNumber hg (qC (wpAny_genState hgs ?_))));cases gs with
  | running=>exact hgo.elim
  | finished=>exact hgo.elim
  | _ =>
    refine qC (wpAny_roomToWake hl hroom ?_);show wpAny _ _ (.resume g (.send .none) [] _) _ _ s;refine wpAny_resumeQ hgs hgo (fun x s₁ hx=>?_) (fun v s₁ gs' hb hv=>?_)
    · obtain⟨rfl,he⟩:=hR x s₁ hx;show wpAny _ A.in1 (newExc (.type "StopIteration") [] >>= fun e=>raiseNew e >>= _) _ _ _;exact WX (A:=A.in1) hh he
    · exact qI ⟨v,rfl,qI (hY v s₁ gs' hb hv)⟩
end
end Mine
namespace Mine
variable {w:World}{W:Wd}{env:Env}{it l n:Nat}{vs:List Value}{s₀ s:Shared}{A:Around}{ns:List Int}{Fg:Fz}{N:Nat}
structure FD (z TI TO r ga L it:Nat):Prop where
  TIz:TI≠z
  TOz:TO≠z
  rz:r≠z
  gz:ga≠z
  Lz:L≠z
  iz:it≠z
  TITO:TI≠TO
  TIr:TI≠r
  TIL:TI≠L
  TIi:TI≠it
  rTO:r≠TO
  gTO:ga≠TO
  LTO:L≠TO
  iTO:it≠TO
  gr:ga≠r
  Lr:L≠r
  ir:it≠r
  gL:ga≠L
  gi:ga≠it
  Li:L≠it
structure WD (z TO r L it:Nat)(s s':Shared):Prop where
  keep:∀a o,a≠z→a≠TO→a≠r→a≠L→a≠it→s.heap.get? a=some o→s'.heap.get? a=some o
  size:s.heap.objs.size≤s'.heap.objs.size
  toks:s.toks≤s'.toks
  os:s'.os=s.os
structure F4 (z TI TO r L it g:Nat)(x left:Int)(v:Value)(T tx:Nat)(gs':GenState)(s s':Shared):Prop extends WD z TO r L it s s' where
  zip:IsZip s'.heap z TI TO (rawInt T)
  pair:IsPair s'.heap TO (.int x tx) v
  out:IsPair s'.heap T (.int x tx) v
  rng:IsRangeIter s'.heap r (x+1) (left-1) 1
  new:s.heap.objs.size≤T
  Tit:T≠it
  tok0:s.toks≤tx
  tok1:tx<s'.toks
  gens:s'.gens=(s.setGen g gs').gens
noncomputable def YP (env:Env)(it:Nat)(ns:List Int)(N:Nat):GenEnd:=fun k s₀ r s=>r=.ok (.ret .none)∧jP ns none (N-k)=.fin∧lV env.locals it s₀ s
theorem PC {env:Env}{it:Nat}{ns:List Int}{N:Nat}:GR W env it l n vs ns Fg N (YP env it ns N):=⟨fun k s₀ s hk h1 h2=>⟨rfl,h1,h2⟩⟩
section
variable {z TI TO r ga g k:Nat}{x left:Int}{a b:Value}{gs:GenState}{Q:Value→Shared→Prop}{E:Value→Shared→Prop}
theorem rI (D:FD z TI TO r ga env.locals it)(rm:zZ 2 A)(hl0:s.heap.NoLimit)(hcz:cStatics≠z)(hcT:cStatics≠TO)(hcr:cStatics≠r)(hz:IsZip s.heap z TI TO .none)(hTI:IsPair s.heap TI (.ref r) (.ref ga))(hTO:IsPair s.heap TO a b)
    (hr:IsRangeIter s.heap r x left 1)(hleft:0<left)(hg:s.heap.IsGen ga g)(hgs:s.gens[g]?=some gs)(hga:ga<s.heap.objs.size)
    (hgo:∀s',(∀c o,c≠z→c≠TO→c≠r→s.heap.get? c=some o→s'.heap.get? c=some o)→s'.heap.objs.size=s.heap.objs.size→gs.Goes (model pw w) A.in1.in1 (YP env it ns N) (GY W env it l n vs ns Fg N) k (.send .none) s')
    (hQ:∀v T tx gs' i s',F4 z TI TO r env.locals it g x left v T tx gs' s s'→gs'.bare=true→jP ns none (N-1-(k-1))=.y i→xQ Fg v (.int i) →
      (∃oL oI,s'.heap.get? env.locals=some oL∧s'.heap.get? it=some oI∧(k-1≠0→∀s'',X7 W env it l n vs oL oI s''→gs'.Goes (model pw w) A.in1.in1 (YP env it ns N) (GY W env it l n vs ns Fg N) (k-1) (.send .none) s''))→Q (.ref T) s')
    (hE:∀e s',WD z TO r env.locals it s s'→jP ns none (N-k)=.fin→s'.gens=(s.setGen g .finished).gens→(∃o,s'.heap.get? e=some o∧o.cls=.type "StopIteration")→E (.ref e) s') :
    wpAny (model pw w) A.in1 (Builtin.«zip.__next__» ⟨[.ref z],[]⟩) (fun fin s'=>∃v,fin=.done (.ret v)∧Q v s') E s:=by
  show wpAny _ _ (field (.ref z) 2 >>= _) _ _ _;refine qC (zC hz rfl (x:=.bool false) rfl ?_);show wpAny _ _ (field (.ref z) 3 >>= _) _ _ _;refine qC (zC hz rfl (x:=.ref TI) rfl ?_);refine qC (kE hTI rfl ?_);show wpAny _ _ (Builtin.SmallTypes.ownedTupleIsFree (.ref z) >>= _) _ _ _;refine qC ?_;unfold Builtin.SmallTypes.ownedTupleIsFree;refine qC (zC hz rfl (x:=.none) rfl (qI ?_));simp only[if_true];refine qC (jO ?_);refine qC (zC hz rfl (x:=.ref TO) rfl ?_);refine qC (kA hz (by simp) fun h₁ hz₁ hs₁=>?_);replace hz₁:IsZip h₁ z TI TO .ellipsis:=hz₁;refine qC ?_;simp only[List.zipIdx_cons,List.zipIdx_nil,List.forIn_cons,List.forIn_nil];refine qC (qC (fI ?_));show wpAny _ _ (Builtin.SmallTypes.nextOf (.ref r) >>= _) _ _ _;refine qC (gW (x:=x) (left:=left) (step:=1) ((hs₁.2 _ D.rz).trans hr) hleft fun h₂ hr₂ hs₂=>qI ?_);have hTO₂:IsPair h₂ TO a b:=(hs₂.2 _ D.rTO.symm).trans ((hs₁.2 _ D.TOz).trans hTO);refine qC (kE hTO₂ rfl ?_);refine qC (mO hTO₂ fun h₃ hTO₃ hs₃=>?_);replace hTO₃:IsPair h₃ TO (.int x s.toks) b:=hTO₃;refine qC (ZB (qI ?_));have k₃:∀c o,c≠z→c≠TO→c≠r→s.heap.get? c=some o→h₃.get? c=some o:=fun c o c1 c2 c3 e=>(hs₃.2 _ c2).trans ((hs₂.2 _ c3).trans ((hs₁.2 _ c1).trans e));have z₃:h₃.objs.size=s.heap.objs.size:=by rw[hs₃.1,hs₂.1,hs₁.1]
  have hz₃:IsZip h₃ z TI TO .ellipsis:=(hs₃.2 _ D.TOz.symm).trans ((hs₂.2 _ D.rz.symm).trans hz₁);refine qC (qC (fI ?_));show wpAny _ _ (Builtin.SmallTypes.nextOf (.ref ga) >>= _) _ _ _;refine qC (Q4 (A:=A.in1) rm.handled (let⟨mc,hns,hnn⟩:=hl0;⟨mc,hns.at' fun o e=>k₃ _ _ hcz hcT hcr e,hnn⟩:h₃.NoLimit) rm.depth (let⟨o,nm,qn,ho,y⟩:=hg;⟨o,nm,qn,k₃ _ _ D.gz D.gTO D.gr ho,y⟩:h₃.IsGen ga g) hgs (hgo _ k₃ z₃) (fun v s₁ gs' hb hy=>?_) (fun y s₁ hy=>⟨hy.1,fun e s' hst=>?_⟩))
  · obtain⟨i,oL,oI,hi,hv,si,hL,hI,hgo'⟩:=hy;have hTO₄:IsPair s₁.heap TO (.int x s.toks) b:=si.keep _ _ D.LTO.symm D.iTO.symm hTO₃;refine qI ?_;refine qC (kE hTO₄ rfl ?_);refine qC (mO hTO₄ fun h₅ hTO₅ hs₅=>?_);replace hTO₅:IsPair h₅ TO (.int x s.toks) v:=hTO₅;refine qC (ZB (qI (qI ?_)));refine qC (kE hTO₅ rfl ?_);refine qC (wpAny_newTuple ?_);have k₅:∀c o,c≠z→c≠TO→c≠r→c≠env.locals→c≠it→s.heap.get? c=some o→h₅.get? c=some o:=fun c o c1 c2 c3 c4 c5 e=>
      (hs₅.2 _ c2).trans (si.keep _ _ c4 c5 (k₃ c o c1 c2 c3 e))
    have hz₅:IsZip h₅ z TI TO .ellipsis:=(hs₅.2 _ D.TOz.symm).trans (si.keep _ _ D.Lz.symm D.iz.symm hz₃);have hr₅:IsRangeIter h₅ r (x+1) (left-1) 1:=(hs₅.2 _ D.rTO).trans (si.keep _ _ D.Lr.symm D.ir.symm ((hs₃.2 _ D.rTO).trans hr₂:IsRangeIter h₃ r (x+1) (left-1) 1));have hL₅:h₅.get? env.locals=some oL:=(hs₅.2 _ D.LTO).trans hL;have hI₅:h₅.get? it=some oI:=(hs₅.2 _ D.iTO).trans hI;have z₅:s.heap.objs.size≤h₅.objs.size:=by simp only[hs₅.1,← z₃];exact si.size
    show wpAny _ _ (Builtin.SmallTypes.ownedTupleHandOut (.ref z) (.ref h₅.objs.size) >>= _) _ _ _;refine qC ?_;unfold Builtin.SmallTypes.ownedTupleHandOut;have hz₆:IsZip (h₅.push {cls:=.type "tuple",data:=.seq #[.int x s.toks,v]}) z TI TO .ellipsis:=Heap.get?_push_of_some _ hz₅;refine qC (kA hz₆ (by simp) fun h₇ hz₇ hs₇=>?_);replace hz₇:IsZip h₇ z TI TO (rawInt h₅.objs.size):=hz₇;refine kA hz₇ (by simp) fun h₈ hz₈ hs₈=>?_;replace hz₈:IsZip h₈ z TI TO (rawInt h₅.objs.size):=hz₈;have up:∀c o,c≠z→h₅.get? c=some o→h₈.get? c=some o:=fun c o c1 e=>(hs₈.2 _ c1).trans ((hs₇.2 _ c1).trans (Heap.get?_push_of_some _ e));have hzlt:=qJ hz₅;have hilt:=qJ hI₅;have hT₈:IsPair h₈ h₅.objs.size (.int x s.toks) v:=(hs₈.2 _ (xE hzlt)).trans ((hs₇.2 _ (xE hzlt)).trans (Heap.get?_push_size _ rfl));refine qI ⟨_,rfl,?_⟩;show Q (.ref h₅.objs.size) _
    refine hQ v h₅.objs.size s.toks gs' i _ ⟨⟨fun c o c1 c2 c3 c4 c5 e=>up c o c1 (k₅ c o c1 c2 c3 c4 c5 e),?_,?_,?_⟩,hz₈,up _ _ D.TOz hTO₅,hT₈,up _ _ D.rz hr₅,z₅,xE hilt,qH _,?_,?_⟩ hb hi hv
      ⟨oL,oI,up _ _ D.Lz hL₅,up _ _ D.iz hI₅,fun hk s'' rd=>?_⟩
    · show _≤h₈.objs.size;exact(qB z₅ (zH (qL (by rw[hs₈.1,hs₇.1,Heap.size_push]:h₈.objs.size=h₅.objs.size+1).symm)))
    · exact zH si.toks
    · exact si.os
    · exact si.toks
    · show(s₁.setGen g gs').gens=_;unfold Shared.setGen;rw[si.gens];simp[Shared.setGen]
    · have:=hgo' hk s'' rd;cases k with
      | zero=>exact this.elim
      | succ k=>exact this
  · obtain⟨h',rfl,hk',hsz,⟨o,ho,hc⟩,hnew⟩:=hst;obtain⟨_,hfin,si⟩:=hy;have hez:e≠z:=fun q=>by
      have h1:s₁.heap.get? z=some _:=si.keep _ _ D.Lz.symm D.iz.symm hz₃;simp only[← q] at h1;have h2:s₁.heap.get? e=none:=hnew;rw[h2] at h1;cases h1
    refine kA (hk' _ _ (si.keep _ _ D.Lz.symm D.iz.symm hz₃):IsZip h' z TI TO .ellipsis) (by simp) fun h₅ Z hs₅=>?_;refine hE e _ ⟨fun c o c1 c2 c3 c4 c5 q=>(hs₅.2 _ c1).trans (hk' _ _ (si.keep _ _ c4 c5 (k₃ c o c1 c2 c3 q))),?_,zH si.toks,si.os⟩ hfin ?_ ⟨o,(hs₅.2 _ hez).trans ho,hc⟩
    · show _≤h₅.objs.size;simp only[(hs₅.1:h₅.objs.size=h'.objs.size),← z₃];exact qB (si.size:h₃.objs.size≤s₁.heap.objs.size) (hsz:s₁.heap.objs.size≤h'.objs.size)
    · show(s₁.setGen g .finished).gens=_;unfold Shared.setGen;rw[si.gens];simp[Shared.setGen]
end
end Mine
namespace Mine
section
variable {prog:Program}{w:World}{W:Wd}{fr:p4}{fn:Bool}{Γ:xK}{P:yW}{s s':Shared}{F F':Fz}
noncomputable def p4.gens (fr:p4)(G:Array GenState):p4:=⟨{fr.sb with gens:=G},fr.Fb,fr.env⟩
theorem St.regens (x:St prog w W fr fn Γ P s F)(G:Array GenState):St prog w W (fr.gens G) fn Γ P {s with gens:=G} F :=
  ⟨⟨x.base.base,x.base.has,x.base.tok,x.base.tabs,x.base.off,x.base.size⟩,
    ⟨x.grow.keep,x.grow.has,x.grow.sub,x.grow.new,x.grow.tok,x.grow.toks,x.grow.size,x.grow.os,.rfl,x.grow.tabs⟩,
    x.bsize,x.glob,x.blt,x.kind,x.ns,x.nsNew,x.nsF,x.nsP,x.prv,x.cell,x.inj,x.cells,
    fun y b h=>let⟨v,h1,h2⟩:=x.vars y b h;⟨v,h1,by
      cases b with
      | val d=>exact h2
      | lst ds=>obtain⟨a,vs,n,e,h3,h4,h5⟩:=h2;exact⟨a,vs,n,e,h3,h4,h5.new,h5.loc,h5.cel,h5.prv,h5.frz⟩
      | byt bs=>obtain⟨a,n,e,h3,h5⟩:=h2;exact⟨a,n,e,h3,h5.new,h5.loc,h5.cel,h5.prv,h5.frz⟩
      | dic kvs=>obtain⟨a,kvv,e,h3,h4,h5⟩:=h2;exact⟨a,kvv,e,h3,h4,h5.new,h5.loc,h5.cel,h5.prv,h5.frz⟩⟩,x.apart⟩
theorem St.addP (x:St prog w W fr fn Γ P s F){a:Nat}{o:Obj}(ho:s.heap.get? a=some o)(ht:¬W.tab a)(hF:∀q∈F.obs,q.1≠a)(hL:a≠fr.env.locals)(hc:∀n c,fr.env.cells.lookup n=some c→a≠c)
    (hv:∀y b,Γ.lookup y=some b→b.own=false):St prog w W fr fn Γ ((a,o)::P) s F:=by
  refine⟨x.base,x.grow,x.bsize,x.glob,x.blt,x.kind,x.ns,x.nsNew,x.nsF,fun p hp=>?_,fun p hp=>?_,fun n c h=>?_,x.inj,x.cells,fun y b h=>?_,x.apart⟩
  · rcases qG hp with rfl | hp
    · exact hL
    · exact x.nsP p hp
  · rcases qG hp with rfl | hp
    · exact⟨ho,ht,hF⟩
    · exact x.prv p hp
  · obtain⟨h1,h2,h3,h4,h5,h6⟩:=x.cell n c h;refine⟨h1,h2,h3,fun p hp=>?_,h5,h6⟩;rcases qG hp with rfl | hp
    · exact hc n c h
    · exact h4 p hp
  · obtain⟨v,h1,h2⟩:=x.vars y b h;refine⟨v,h1,?_⟩;have:=hv y b h;cases b with
    | val d=>exact h2
    | lst ds=>cases this
    | byt bs=>cases this
    | dic kvs=>cases this
end
variable {w:World}{W:Wd}{env:Env}{it l n:Nat}{vs:List Value}{s₀ s:Shared}{A:Around}{ns:List Int}{Fg:Fz}{N:Nat}
section
variable {z TI TO r ga g k:Nat}{x left:Int}{a b:Value}{gs:GenState}{E:Value→Shared→Prop}
theorem WI {L:Nat}{Q:Fin→Shared→Prop}(D:FD z TI TO r ga L it)(rm:zZ 2 A)(hz:IsZip s.heap z TI TO .none)(hTI:IsPair s.heap TI (.ref r) (.ref ga))
    (hr:IsRangeIter s.heap r x left 1)(hleft:left≤0)
    (hE:∀e s',WD z TO r L it s s'→s'.gens=s.gens→(∃o,s'.heap.get? e=some o∧o.cls=.type "StopIteration")→E (.ref e) s') :
    wpAny (model pw w) A.in1 (Builtin.«zip.__next__» ⟨[.ref z],[]⟩) Q E s:=by
  show wpAny _ _ (field (.ref z) 2 >>= _) _ _ _;refine qC (zC hz rfl (x:=.bool false) rfl ?_);show wpAny _ _ (field (.ref z) 3 >>= _) _ _ _;refine qC (zC hz rfl (x:=.ref TI) rfl ?_);refine qC (kE hTI rfl ?_);show wpAny _ _ (Builtin.SmallTypes.ownedTupleIsFree (.ref z) >>= _) _ _ _;refine qC ?_;unfold Builtin.SmallTypes.ownedTupleIsFree;refine qC (zC hz rfl (x:=.none) rfl (qI ?_));simp only[if_true];refine qC (jO ?_);refine qC (zC hz rfl (x:=.ref TO) rfl ?_);refine qC (kA hz (by simp) fun h₁ hz₁ hs₁=>?_);replace hz₁:IsZip h₁ z TI TO .ellipsis:=hz₁;refine qC ?_;simp only[List.zipIdx_cons,List.zipIdx_nil,List.forIn_cons,List.forIn_nil];refine qC (qC (fI ?_));show wpAny _ _ (Builtin.SmallTypes.nextOf (.ref r) >>= _) _ _ _;refine qC (tP (A:=A.in1) rm.handled ((hs₁.2 _ D.rz).trans hr) hleft fun e s' hst=>?_);refine zS fun nG=>?_;obtain⟨h',rfl,hk',hsz,⟨o,ho,hc⟩,hnew⟩:=hst;refine nG ?_;have hez:e≠z:=fun q=>by
    have h1:h₁.get? z=some _:=hz₁;simp only[← q] at h1;rw[(hnew:h₁.get? e=none)] at h1;cases h1
  refine kA (hk' _ _ hz₁) (by simp) fun h₅ Z hs₅=>?_;refine hE e _ ⟨fun c o c1 c2 c3 c4 c5 q=>(hs₅.2 _ c1).trans (hk' _ _ ((hs₁.2 _ c1).trans q)),?_,qH _,rfl⟩ rfl ⟨o,(hs₅.2 _ hez).trans ho,hc⟩;show _≤h₅.objs.size;simp only[(hs₅.1:h₅.objs.size=h'.objs.size),← hs₁.1];exact(hsz:h₁.objs.size≤h'.objs.size)
theorem fP {TI TO:Addr}{f0:Value}{Q:Option Value→Shared→Prop}{Qi:Value→Shared→Prop}{Ee:Value→Shared→Prop}(hz:IsZip s.heap z TI TO f0)
    (h:wpAny (model pw w) A.in1 (Builtin.«zip.__next__» ⟨[.ref z],[]⟩) (fun fin s'=>∃v,fin=.done (.ret v)∧Qi v s') Ee s)
    (hQ:∀v s',Qi v s'→Q (some v) s')(hS:∀e s',Ee e s'→∃a o,e=.ref a∧s'.heap.get? a=some o∧o.cls=.type "StopIteration"∧Q none s'):wpAny (model pw w) A (pyNext (.ref z)) Q E s:=by
  have hT:s.TypeIs (.ref z) "zip":=⟨_,hz,rfl⟩;unfold pyNext
  refine qC (wpAny_attempt (wpAny_callSpecial?_slot (name:=Str.ofString "__next__") hT nW
    (jV nW hT F.entry_zip_next (xT h (fun fin s' hf=>?_) fun e s' he=>?_) (F.args_zip_next_1 _))))
  · obtain⟨v,rfl,hv⟩:=hf;exact⟨v,rfl,qI (hQ v s' hv)⟩
  · obtain⟨a,o,rfl,ho,hc,hq⟩:=hS e s' he;exact qC (z2 (T:="StopIteration") (b:=true) ⟨o,ho,hc⟩ isSubtype_stop (qI hq))
end
end Mine
namespace Mine
variable {w:World}{W:Wd}{k:Nat}{sc:Scope}{Γ:xK}
theorem pK {G G':Array GenState}{g:Nat}{gs':GenState}{s:Shared}(h:zQ G s.gens)(hg:G.size≤g)(hb:gs'.bare=true)(e:G'=(s.setGen g gs').gens):zQ G G':=by
  subst e;refine⟨fun i x hi=>?_,fun ha y hy=>?_⟩
  · have hlt:i<G.size:=(Array.getElem?_eq_some_iff.mp hi).1;show(s.gens.setIfInBounds g gs')[i]?=some x;rw[Array.getElem?_setIfInBounds_ne (by exact(Nat.ne_of_gt (Nat.lt_of_lt_of_le hlt hg)))];exact h.1 i x hi
  · have hy':y∈s.gens.setIfInBounds g gs':=hy;obtain⟨i,hi,rfl⟩:=Array.mem_iff_getElem.mp hy';rw[Array.getElem_setIfInBounds];split
    · exact hb
    · exact(h.2 ha) _ (Array.getElem_mem (by simpa using hi))
    · simpa using hi
noncomputable def GPh (w:World)(W:Wd)(A:Around)(env:Env)(l n:Nat)(vs:List Value)(ns:List Int)(Fg:Fz)(N i:Nat)(gs:GenState)(h:Heap)(gN:yW):Prop :=
  (∃oL m,gN=[(env.locals,oL)]∧i=0∧gs=.fresh (.func (xC 14).body env)∧h.Ns env.locals m∧m ("grouping":Str)=some (.ref l)) ∨
  (∃it oL oI,gN=[(env.locals,oL),(it,oI)]∧∀s',X7 W env it l n vs oL oI s'→gs.Goes (model pw w) A.in1.in1 (YP env it ns N) (GY W env it l n vs ns Fg N) (N-i) (.send .none) s')
structure eJ (z TI TO r L:Nat):Prop where
  TIz:TI≠z
  TOz:TO≠z
  rz:r≠z
  Lz:L≠z
  TITO:TI≠TO
  TIr:TI≠r
  TIL:TI≠L
  rTO:r≠TO
  LTO:L≠TO
  Lr:L≠r
theorem Q0 {A:Around}{env:Env}{l n:Nat}{vs:List Value}{ns:List Int}{Fg:Fz}{N i:Nat}{gs:GenState}{s:Shared}{gN:yW}{z TO r:Nat}(ok:bX W)(ge:nA env)(hv:xV Fg vs (ns.map Dat.int))(hne:∀q,jP ns none q≠.err)
    (rm:zZ 2 A)(ph:GPh w W A env l n vs ns Fg N i gs s.heap gN)(hin:∀p∈gN,s.heap.get? p.1=some p.2)(hb:W.base.StaysIn s.heap)(hl:s.heap.get? l=some (listOf vs.toArray n))(hLb:W.base.get? env.locals=none)(hbs:W.base.objs.size≤s.heap.objs.size)
    (hib:∀p∈gN,W.base.get? p.1=none)(hlL:∀p∈gN,l≠p.1)(hL2:∀it o o',gN=[(env.locals,o),(it,o')]→env.locals≠it)(hzb:W.base.get? z=none)(hTb:W.base.get? TO=none)(hrb:W.base.get? r=none)(hlz:l≠z)(hlT:l≠TO)(hlr:l≠r)
    (hgz:∀p∈gN,p.1≠z∧p.1≠TO∧p.1≠r)(hN:i+1≤N) :
    ∃it,((it=s.heap.objs.size∧∃oL,gN=[(env.locals,oL)]) ∨ ∃oL oI,gN=[(env.locals,oL),(it,oI)]) ∧
      ∀s',(∀c o,c≠z→c≠TO→c≠r→s.heap.get? c=some o→s'.heap.get? c=some o)→s'.heap.objs.size=s.heap.objs.size→gs.Goes (model pw w) A.in1.in1 (YP env it ns N) (GY W env it l n vs ns Fg N) (N-i) (.send .none) s':=by
  have base':∀s':Shared,(∀c o,c≠z→c≠TO→c≠r→s.heap.get? c=some o→s'.heap.get? c=some o)→W.base.StaysIn s'.heap:=fun s' hk c o e=>
    hk c o (fun q=>by rw[q,hzb] at e;cases e) (fun q=>by rw[q,hTb] at e;cases e) (fun q=>by rw[q,hrb] at e;cases e) (hb c o e)
  rcases ph with⟨oL,m,rfl,rfl,rfl,hns,hm⟩ | ⟨it,oL,oI,rfl,hgo⟩
  · refine⟨s.heap.objs.size,.inl ⟨rfl,oL,rfl⟩,fun s' hk hz=>?_⟩;refine zS fun nG=>?_;obtain⟨h1,h2,h3⟩:=hgz _ (.head _);obtain⟨k,rfl⟩:∃k,N=k+1:=⟨N-1,by exact(gO (qQ hN))⟩;refine nG ?_;refine⟨rfl,?_⟩;refine KF (A:=A.in1.in1) (k:=k) (m:=m) (n:=n) ok ge ⟨hLb,x4 hbs,hlL _ (.head _),qM (qJ hl),qM hns.lt⟩ PC hv hne rm.handled (base' s' hk) (hk _ _ hlz hlT hlr hl) (hns.at' fun o e=>hk _ _ h1 h2 h3 e) hm hz.symm rfl
  · refine⟨it,.inr ⟨oL,oI,rfl⟩,fun s' hk hz=>hgo s' ⟨base' s' hk,hk _ _ hlz hlT hlr hl,?_,?_⟩⟩
    · obtain⟨h1,h2,h3⟩:=hgz _ (.head _);exact hk _ _ h1 h2 h3 (hin _ (.head _))
    · obtain⟨h1,h2,h3⟩:=hgz _ (.tail _ (.head _));exact hk _ _ h1 h2 h3 (hin _ (.tail _ (.head _)))
end Mine
namespace Mine
variable {w:World}{W:Wd}{k:Nat}{sc:Scope}{Γ:xK}
noncomputable abbrev U1 (i most:Nat):Obj:={cls:=.type "range_iterator",dict:=none,data:=.fields #[rawInt (i:Int),rawInt ((most:Int)-(i:Int)),rawInt 1],slots:=#[]}
noncomputable def uZ (z TI TO r ga:Nat)(a b:Value)(i most:Nat):yW:=[(z,QD TI TO),(TO,fS a b),(r,U1 i most),(TI,fS (.ref r) (.ref ga))]
theorem UM {z TI TO r L ga it:Nat}(D:eJ z TI TO r L)(gz:ga≠z)(gT:ga≠TO)(gr:ga≠r)(gL:ga≠L)(gi:ga≠it)(iz:it≠z)(iT:it≠TO)(iI:TI≠it)(ir:it≠r)(iL:L≠it):FD z TI TO r ga L it :=
  ⟨D.TIz,D.TOz,D.rz,gz,D.Lz,iz,D.TITO,D.TIr,D.TIL,iI,D.rTO,gT,D.LTO,iT,gr,D.Lr,ir,gL,gi,iL⟩
inductive GI (W:Wd)(w:World)(fr:p4)(A:Around)(Γ:xK)(env:Env)(z TI TO r D ga g l n:Nat)(vs:List Value)(ns:List Int)(Fg F:Fz)(most cnt:Nat)(vals:Nat→Int)(m:Nat)(s':Shared):Prop
  | mk (i:Nat) (N' gN:yW) (a b:Value) (F':Fz) (o':Obj) (gs:GenState) (h:m=cnt+1-i) (hic:i≤cnt) (hN:N'=uZ z TI TO r ga a b i most++gN) (hF:F.le F') (st:St pw w W (fr.gens s'.gens) false Γ (N'++[(D,o')]) s' F') (hnew:∀p∈N',fr.sb.heap.objs.size≤p.1) (hND:∀q∈N',q.1≠D)
      (hok:vD.ok ((List.range i).map fun j=>Dat.int (vals j)) o' F') (hgs:s'.gens[g]?=some gs) (hkeep:zQ fr.sb.gens s'.gens) (ph:GPh w W A env l n vs ns Fg (most+3) i gs s'.heap gN) (hit:∀it o o',gN=[(env.locals,o),(it,o')]→env.locals≠it∧it≠z∧it≠TO∧it≠r∧TI≠it):GI W w fr A Γ env z TI TO r D ga g l n vs ns Fg F most cnt vals m s'
theorem FW {fr:p4}{A:Around}{R:Result→Shared→Prop}{s:Shared}{F:Fz}{elt iter:Expr}{elts:List Expr}{x1:Nat}{tp:Pos}{scope:Scope}{pos:Pos}{env:Env}{z TI TO r D ga g l n:Nat}{vs:List Value}{ns:List Int}{Fg:Fz}{oD oL:Obj}{gnm gqn:Value}{most cnt:Nat}{vals:Nat→Int}
    (ok:bX W)(ge:nA env)(hv:xV Fg vs (ns.map Dat.int))(hne:∀q,jP ns none q≠.err)(rm:zZ (k+2) A)(D5:eJ z TI TO r env.locals)
    (hout:∀i,i<cnt→jP ns none i=.y (vals i))(hcm:cnt≤most)(hend:cnt=most ∨ jP ns none cnt=.fin)(hmm:most≤1000)
    (hg:g=fr.sb.gens.size)(hcells:fr.env.cells=[])(hΓ:∀y b,Γ.lookup y=some b→b.own=false)
    (hsc:fr.env.scope=sc)(st:St pw w W fr false Γ ((uZ z TI TO r ga .none .none 0 most++[(env.locals,oL)])++[(D,oD)]) s F)
    (hnew:∀p∈uZ z TI TO r ga .none .none 0 most++[(env.locals,oL)],fr.sb.heap.objs.size≤p.1)(hD:fr.sb.heap.objs.size≤D)(hnD:∀p∈uZ z TI TO r ga .none .none 0 most++[(env.locals,oL)],p.1≠D)
    (hFg:Fg.le F)(hl:(l,listOf vs.toArray n)∈F.obs)(hga:(ga,({cls:=.type "generator",data:=.fields #[.int g 0,gnm,gqn],slots:=#[]}:Obj))∈F.obs)
    (hgs:s.gens[g]?=some (.fresh (.func (xC 14).body env)))(hkeep:zQ fr.sb.gens s.gens)(hns:∃m,s.heap.Ns env.locals m∧m ("grouping":Str)=some (.ref l))
    (hoD:vD.ok [] oD F)
    (turn:∀i,i<cnt→∃Γ₁,B7 pw w W k sc false Γ (.Tuple elts x1 tp) (.dat (.tuple [.int (i:Int),.int (vals i)])) Γ₁∧(∀y b,Γ.lookup y=some b→Γ₁.lookup y=some b) ∧
      X8 pw w W k sc Γ₁ vD (u8 elt) ((List.range i).map fun j=>Dat.int (vals j)) ((List.range (i+1)).map fun j=>Dat.int (vals j)))
    (fin:∀s' F' o',St pw w W (fr.gens s'.gens) false Γ [(D,o')] s' F'→vD.ok ((List.range cnt).map fun j=>Dat.int (vals j)) o' F'→F.le F'→zQ fr.sb.gens s'.gens→R (.ok .next) s') :
    codeAny (model pw w) A (.compLoop (.ListComp elt [⟨.Tuple elts x1 tp,iter,[],0⟩] scope pos) 0 (.ref z) (.ref D) fr.env) R s:=by
  have N0:most+3=most+3:=rfl
  refine codeAny_loop rfl (GI W w fr A Γ env z TI TO r D ga g l n vs ns Fg F most cnt vals)
    ?_ (cnt+1) ⟨0,_,_,.none,.none,F,oD,_,rfl,wJ _,rfl,.rfl,st.regens s.gens,hnew,hnD,hoD,hgs,hkeep,.inl ⟨oL,hns.choose,rfl,rfl,rfl,hns.choose_spec⟩,fun it o o' e=>by cases e⟩
  rintro m s' ⟨i,N',gN,a,b,F',o',gs,rfl,hic,hN,hF,st',hnew',hND',hok',hgs',hkeep',ph,hit⟩;show wpAny _ A ((compTurn _ 0 (.ref z) (.ref D) fr.env).onRaise (fun x=>do noteFrame x fr.env;theTreesLotGoes x)) _ _ s';refine wpAny_noted ?_;have b':=st'.base;have mz:(z,QD TI TO)∈N':=hN▸.head _;have mT:(TO,fS a b)∈N':=hN▸.tail _ (.head _);have mr:(r,U1 i most)∈N':=hN▸.tail _ (.tail _ (.head _));have mTI:(TI,fS (.ref r) (.ref ga))∈N':=hN▸.tail _ (.tail _ (.tail _ (.head _)));have hz:IsZip s'.heap z TI TO .none:=(st'.prv _ (qT _ mz)).1;have hTO:IsPair s'.heap TO a b:=(st'.prv _ (qT _ mT)).1;have hr:IsRangeIter s'.heap r (i:Int) ((most:Int)-i) 1:=(st'.prv _ (qT _ mr)).1;have hTI:IsPair s'.heap TI (.ref r) (.ref ga):=(st'.prv _ (qT _ mTI)).1;have hgaF:=hF.obs _ hga;have hlF:=hF.obs _ hl;have hgaG:s'.heap.IsGen ga g:=⟨_,_,_,b'.has _ hgaF,rfl,rfl,rfl⟩;have offP:∀p∈N',∀q∈F'.obs,q.1≠p.1:=fun p hp=>(st'.prv p (qT _ hp)).2.2;have baseP:∀p∈N',W.base.get? p.1=none:=fun p hp=>x4 (qB st.bsize (hnew' p hp));have mg:∀p∈gN,p∈N':=fun p hp=>hN▸xH _ hp;have mL:∃oL',(env.locals,oL')∈gN:=by
    rcases ph with⟨oL',m,rfl,_⟩ | ⟨it,oL',oI,rfl,_⟩
    · exact⟨oL',.head _⟩
    · exact⟨oL',.head _⟩
  obtain⟨oL₀,mL⟩:=mL;have hcs:∃mc,W.base.Ns cStatics mc:=let⟨mc,h1,_⟩:=W.nolimit;⟨mc,h1⟩;obtain⟨mc,hcs⟩:=hcs;have cne:∀p∈N',cStatics≠p.1:=fun p hp e=>by
    exact absurd (e▸hcs.lt) (xB (qB st.bsize (hnew' p hp)))
  obtain⟨it,hcase,hgo⟩:=Q0 (i:=i) (N:=most+3) ok ge hv hne (rm.mono (by exact(vH _ _))) ph (fun p hp=>(st'.prv p (qT _ (mg p hp))).1) b'.base (b'.has _ hlF) (baseP _ (mg _ mL)) b'.size (fun p hp=>baseP p (mg p hp)) (fun p hp=>offP p (mg p hp) _ hlF) (fun it o o' e=>(hit it o o' e).1)
    (baseP _ mz) (baseP _ mT) (baseP _ mr) (offP _ mz _ hlF) (offP _ mT _ hlF) (offP _ mr _ hlF) (fun p hp=>by
      rcases ph with⟨oL',m,rfl,_⟩ | ⟨it,oL',oI,rfl,_⟩
      · cases qF hp;exact⟨D5.Lz,D5.LTO,D5.Lr⟩
      · rcases qG hp with rfl | hp
        · exact⟨D5.Lz,D5.LTO,D5.Lr⟩
        · cases qF hp;obtain⟨_,h2,h3,h4,_⟩:=hit _ _ _ rfl;exact⟨h2,h3,h4⟩) (by exact(w0 (qB hic hcm) (by exact qA rfl)))
  have itfacts:env.locals≠it∧it≠z∧it≠TO∧it≠r∧TI≠it∧ga≠it∧(∀q∈F'.obs,q.1≠it)∧fr.sb.heap.objs.size≤it∧it≠D∧it≠fr.env.locals:=by
    rcases hcase with⟨rfl,_⟩ | ⟨oL',oI,rfl⟩
    · have lt:∀{c:Nat} {o:Obj},s'.heap.get? c=some o→c≠s'.heap.objs.size:=fun e=>qM (qJ e);obtain⟨mm,hmm'⟩:=st'.ns;refine⟨lt (st'.prv _ (qT _ (mg _ mL))).1,xW (lt hz),xW (lt hTO),xW (lt hr),lt hTI,lt (b'.has _ hgaF),fun q hq=>lt (b'.has _ hq),st'.grow.size,xW (lt (st'.prv (D,o') (xH _ (.head _))).1),xW (qM hmm'.lt)⟩
    · obtain⟨h1,h2,h3,h4,h5⟩:=hit _ _ _ rfl;have mi:(it,oI)∈N':=mg _ (.tail _ (.head _));exact⟨h1,h2,h3,h4,h5,offP _ mi _ hgaF,offP _ mi,hnew' _ mi,hND' _ mi,st'.nsP _ (qT _ mi)⟩
  refine zS fun nG=>?_;obtain⟨iL,iz,iT,ir,iI,gi,iF,inew,iD,iloc⟩:=itfacts;have ZA:FD z TI TO r ga env.locals it:=UM D5 (offP _ mz _ hgaF) (offP _ mT _ hgaF) (offP _ mr _ hgaF) (offP _ (mg _ mL) _ hgaF) gi iz iT iI ir iL;have hNL:s'.heap.NoLimit:=W.nolimit.keeps b'.base;have galt:=qJ (b'.has _ hgaF);refine nG ?_;have hX:∀c∈(N').map (·.1),c=z ∨ c=TO ∨ c=r ∨ c=TI ∨ c=env.locals ∨ c=it:=fun c hc=>by
    obtain⟨p,hp,rfl⟩:=qS hc;rw[hN] at hp;rcases qP hp with hp | hp
    · simp only[uZ,List.mem_cons,List.not_mem_nil,or_false] at hp;rcases hp with rfl | rfl | rfl | rfl
      · exact .inl rfl
      · exact .inr (.inl rfl)
      · exact .inr (.inr (.inl rfl))
      · exact .inr (.inr (.inr (.inl rfl)))
    · rcases hcase with⟨_,oL',rfl⟩ | ⟨oL',oI,rfl⟩
      · cases qF hp;exact .inr (.inr (.inr (.inr (.inl rfl))))
      · rcases qG hp with rfl | hp
        · exact .inr (.inr (.inr (.inr (.inl rfl))))
        · cases qF hp;exact .inr (.inr (.inr (.inr (.inr rfl))))
  have hX2:∀c o,s'.heap.get? c=some o→c∉(N').map (·.1)→c≠z∧c≠TO∧c≠r∧c≠env.locals∧c≠it:=fun c o hc hn=>by
    have h1:∀{p:Addr×Obj},p∈N'→c≠p.1:=fun hp e=>hn (List.mem_map.mpr ⟨_,hp,e.symm⟩);refine⟨h1 mz,h1 mT,h1 mr,h1 (mg _ mL),?_⟩;rcases hcase with⟨rfl,_⟩ | ⟨oL',oI,rfl⟩
    · exact qM (qJ hc)
    · exact h1 (mg (it,oI) (.tail _ (.head _)))
  have hfuel:most+3-1-(most+3-i-1)=i:=by lia
  show wpAny _ A (standAt iter.pos >>= fun Z=>pyNext (.ref z) >>= fun rr=>match rr with
    | none=>pure (.done .next)
    | some v=>letOwnedTupleGo (.Tuple elts x1 tp) (.ref z) v >>= fun Z=>assign (.Tuple elts x1 tp) fr.env v >>= fun Z=>u8 elt (.ref D) fr.env >>= fun Z=>again (.compLoop (.ListComp elt [⟨.Tuple elts x1 tp,iter,[],0⟩] scope pos) 0 (.ref z) (.ref D) fr.env)) _ _ s'
  refine qC (wA ?_);by_cases hi:i<cnt
  · refine qC (fP (Qi:=fun v s₁=>wpAny (model pw w) A (letOwnedTupleGo (.Tuple elts x1 tp) (.ref z) v >>= fun Z=>assign (.Tuple elts x1 tp) fr.env v >>= fun Z=>u8 elt (.ref D) fr.env >>= fun Z=>again (.compLoop (.ListComp elt [⟨.Tuple elts x1 tp,iter,[],0⟩] scope pos) 0 (.ref z) (.ref D) fr.env)) _ _ s₁) (Ee:=fun Z Z=>False) hz
      (rI ZA (rm.mono (by exact(vH _ _))) hNL (cne _ mz) (cne _ mT) (cne _ mr) hz hTI hTO hr (by exact(kN [_,_,_] [] (.l (.v 2) (.v 0)) (.t (.v 1) (.v 2)) [1,1] (.T (.n 0) (.s (.c (.v 0)) (.c (.v 1)))) 1 rfl hcm hi)) hgaG hgs' galt hgo (fun v T tx gs' iv s₁ zn hb hiv hvv hpa=>?_) (fun e s₁ Z hf Z Z=>?_)) (fun v s₁ h=>h) (fun Z Z h=>h.elim))
    · rw[hfuel,hout i hi] at hiv;cases hiv;refine zS fun nG=>?_;obtain⟨oL1,oI1,hL1,hI1,hgo1⟩:=hpa;refine nG ?_;refine qC (wpAny_letOwnedTupleGo_zip zn.zip fun h'' k8 hs=>?_);let F₂:Fz:=(F'.tk tx (.int (i:Int))).ob T {cls:=.type "tuple",data:=.seq [.int (i:Int) tx,v].toArray};have le2:F'.le F₂:=(F'.le_tk _ _).trans (Fz.le_ob _ _ _);have keep2:∀c o,s'.heap.get? c=some o→c∉(N').map (·.1)→h''.get? c=some o:=fun c o hc hn=>by
        obtain⟨h1,h2,h3,h4,h5⟩:=hX2 c o hc hn;exact(hs.2 c h1).trans (zn.keep c o h1 h2 h3 h4 h5 hc)
      have offX:∀p∈F'.obs,p.1∉(N').map (·.1):=fun p hp q=>by
        obtain⟨u,hu,e⟩:=qS q;exact offP u hu p hp e.symm
      have gX:zX W ((N').map (·.1)) {s' with gens:=s₁.gens} {s₁ with heap:=h''} F' F₂:=by
        refine⟨fun c o Z hc e=>keep2 c o e hc,fun p hp=>?_,le2,fun p hp=>?_,b'.tok.cons zn.tok0 zn.tok1,zn.toks,?_,zn.os,.rfl,?_⟩
        · rcases qG hp with rfl | hp
          · exact(hs.2 _ (xE (qK (qJ hz) zn.new):T≠z)).trans zn.out
          · exact keep2 _ _ (b'.has p hp) (offX p hp)
        · rcases qG hp with rfl | hp
          · exact .inr zn.new
          · exact .inl hp
        · show _≤h''.objs.size;rw[hs.1];exact zn.size
        · refine(b'.tabs.keeps fun c o ht e=>keep2 c o e fun m=>?_).mono le2;obtain⟨u,hu,rfl⟩:=qS m;exact(st'.prv u (qT _ hu)).2.1 ht
      have hr1:s₁.heap.get? r=some (U1 (i+1) most):=by
        have:=zn.rng;simp only[show(most:Int)-(i:Int)-1=(most:Int)-((i+1:Nat):Int) by exact(QA [_,_] [] [] [] (.E (.s (.s (.c (.v 0)) (.c (.v 1))) (.n 1)) (.s (.c (.v 0)) (.c (.p (.v 1) (.n 1))))) 1 1 rfl)] at this;exact this
      have st₂:=St.stepX (N':=uZ z TI TO r ga (.int (i:Int) tx) v (i+1) most++[(env.locals,oL1)]) (st'.regens s₁.gens) gX (fun p hp=>?_) (fun p hp=>?_) (fun p hp q hq=>by cases qF hp;exact hND' q hq:∀p∈[(D,o')],∀q∈N',q.1≠p.1) hnew';rotate_left
      · rcases qP hp with hp | hp
        · simp only[uZ,List.mem_cons,List.not_mem_nil,or_false] at hp;rcases hp with rfl | rfl | rfl | rfl
          · exact zE mz
          · exact List.mem_map.mpr ⟨_,mT,rfl⟩
          · exact List.mem_map.mpr ⟨_,mr,rfl⟩
          · exact zE mTI
        · cases qF hp;exact List.mem_map.mpr ⟨_,mg _ mL,rfl⟩
      · rcases qP hp with hp | hp
        · simp only[uZ,List.mem_cons,List.not_mem_nil,or_false] at hp;rcases hp with rfl | rfl | rfl | rfl
          · exact k8
          · exact(hs.2 _ D5.TOz).trans zn.pair
          · exact(hs.2 _ D5.rz).trans hr1
          · exact(hs.2 _ D5.TIz).trans (zn.keep _ _ D5.TIz D5.TITO D5.TIr D5.TIL iI hTI)
        · cases qF hp;exact(hs.2 _ D5.Lz).trans hL1
      have st₃:=st₂.addP (a:=it) (o:=oI1) ((hs.2 _ iz).trans hI1) (y9 (qB st.bsize inew)) (fun q hq=>by
        rcases qG hq with rfl | hq
        · exact zn.Tit
        · exact iF q hq) iloc (fun n c h=>by
          have h':fr.env.cells.lookup n=some c:=h;rw[hcells] at h';cases h') hΓ
      refine zS fun nG=>?_;obtain⟨Γ₁,hasg,hkeepΓ,hemit⟩:=turn i hi;refine nG ?_;have N2:∀p∈uZ z TI TO r ga (.int (i:Int) tx) v (i+1) most++[(env.locals,oL1),(it,oI1)],fr.sb.heap.objs.size≤p.1∧p.1≠D:=fun p hp=>by
        rcases qP hp with hp | hp
        · simp only[uZ,List.mem_cons,List.not_mem_nil,or_false] at hp;rcases hp with rfl | rfl | rfl | rfl
          · exact⟨hnew' _ mz,hND' _ mz⟩
          · have h1:=hnew' _ mT;have h2:=hND' _ mT;exact⟨h1,h2⟩
          · have h1:=hnew' _ mr;have h2:=hND' _ mr;exact⟨h1,h2⟩
          · exact⟨hnew' _ mTI,hND' _ mTI⟩
        · rcases qG hp with rfl | hp
          · have h1:=hnew' _ (mg _ mL);have h2:=hND' _ (mg _ mL);exact⟨h1,h2⟩
          · cases qF hp;exact⟨inew,iD⟩
      refine qC (hasg (fr.gens s₁.gens) _ _ F₂ (.ref T) hsc st₃ (.tuple (.head _) (.cons (.int (.head _)) (.cons (hvv.mono ((hFg.trans hF).trans le2)) .nil)):V.is pw w F₂ (.ref T) (.dat (.tuple [.int (i:Int),.int (vals i)]))) A _ _ (rm.mono (by exact(qR _ _))) fun s₄ F₄ st₄ hF₄=>?_);refine qC (hemit (fr.gens s₁.gens) (uZ z TI TO r ga (.int (i:Int) tx) v (i+1) most++[(env.locals,oL1),(it,oI1)]) s₄ F₄ D o' hsc (st₄.perm fun p hp=>?_) hD (fun p hp=>(N2 p hp).2) (vD.mono _ _ _ _ (le2.trans hF₄) hok') A _ _ (rm.mono (by exact(qR _ _))) fun s₆ F₆ o₆ st₆ hok₆ hF₆=>?_)
      · rcases qG hp with rfl | hp
        · exact .tail _ (xH _ (.head _))
        · rcases qP hp with hp | hp
          · exact .tail _ (qT _ (qT _ hp))
          · rcases qG hp with rfl | hp
            · exact .tail _ (qT _ (xH _ (.head _)))
            · cases qF hp;exact .head _
      · have hk6:zQ s₁.gens s₆.gens:=st₆.grow.gens
        refine qI ⟨rfl,cnt+1-(i+1),by exact(rX (qO (qU hi))),i+1,_,[(env.locals,oL1),(it,oI1)],.int (i:Int) tx,v,F₆,o₆,gs',rfl,hi,rfl,((hF.trans le2).trans hF₄).trans hF₆,((st₆.weaken hkeepΓ).perm fun p hp=>?_).regens s₆.gens,fun p hp=>(N2 p hp).1,fun p hp=>(N2 p hp).2,hok₆,hk6.1 _ _ (by rw[zn.gens];exact setGen_self hgs':s₁.gens[g]?=some gs'),
          (pK hkeep' (by exact(qL hg.symm)) hb zn.gens).trans hk6,.inr ⟨it,oL1,oI1,rfl,fun s'' rd=>hgo1 (by exact(xE (ZP [_,_,_,_,_] [] (.l (.v 1) (.v 2)) (.t (.v 3) (.v 1)) (.l (.v 4) (.p (.v 0) (.n 1))) (.l (.p (.v 2) (.n 3)) (.p (.v 4) (.v 3))) [1,1,1,1] (.t (.n 0) (.v 0)) 1 rfl hcm hi (jR _ _) (jR _ _)))) s'' rd⟩,fun it' o o'' e=>by cases e;exact⟨iL,iz,iT,ir,iI⟩⟩
        rcases qP hp with hp | hp
        · exact .tail _ hp
        · cases qF hp;exact .head _
    · rw[(by exact(ZO [_,_,_,_] [] (.l (.p (.v 2) (.n 3)) (.p (.v 0) (.v 3))) (.e (.p (.v 0) (.v 3)) (.p (.v 2) (.n 3))) (.l (.p (.v 2) (.n 3)) (.p (.v 3) (.v 1))) (.e (.p (.v 3) (.v 1)) (.p (.v 2) (.n 3))) [0,1,1,0] [1,0,0,1] (.e (.v 0) (.v 1)) 1 1 rfl (jR _ _) (Nat.sub_add_cancel (zT [_,_] [] (.l (.v 0) (.p (.v 1) (.n 3))) [1] (.l (.v 0) (.p (.v 1) (.n 3))) 1 rfl (Nat.sub_le _ _))) (jR _ _) (Nat.sub_add_cancel (kN [_,_,_] [] (.l (.v 2) (.v 1)) (.l (.v 0) (.v 2)) [1,1] (.l (.v 0) (.p (.v 1) (.n 3))) 1 rfl hcm hic))):most+3-(most+3-i)=i),hout i hi] at hf;cases hf
  · have hie:i=cnt:=by exact(kK hic (wV hi))
    have key:∀e s₁,WD z TO r env.locals it s' s₁→zQ fr.sb.gens s₁.gens→(∃o,s₁.heap.get? e=some o∧o.cls=.type "StopIteration") →
        ∃a o,Value.ref e=.ref a∧s₁.heap.get? a=some o∧o.cls=.type "StopIteration"∧R (.ok .next) s₁:=fun e s₁ zk hgk ⟨o,ho,hc⟩=>by
      refine⟨e,o,rfl,ho,hc,?_⟩;have keep2:∀c o,s'.heap.get? c=some o→c∉(N').map (·.1)→s₁.heap.get? c=some o:=fun c o hc hn=>by
        obtain⟨h1,h2,h3,h4,h5⟩:=hX2 c o hc hn;exact zk.keep c o h1 h2 h3 h4 h5 hc
      have offX:∀p∈F'.obs,p.1∉(N').map (·.1):=fun p hp q=>by
        obtain⟨u,hu,e⟩:=qS q;exact offP u hu p hp e.symm
      have gX:zX W ((N').map (·.1)) {s' with gens:=s₁.gens} s₁ F' F':=by
        refine⟨fun c o Z hc e=>keep2 c o e hc,fun p hp=>keep2 _ _ (b'.has p hp) (offX p hp),.rfl,fun p hp=>.inl hp,b'.tok.le zk.toks,zk.toks,zk.size,zk.os,.rfl,b'.tabs.keeps fun c o ht e=>keep2 c o e fun m=>?_⟩;obtain⟨u,hu,rfl⟩:=qS m;exact(st'.prv u (qT _ hu)).2.1 ht
      exact fin s₁ F' o' (St.stepX (N':=[]) (st'.regens s₁.gens) gX (fun Z h=>nomatch h) (fun Z h=>nomatch h) (fun p hp q hq=>by cases qF hp;exact hND' q hq) hnew') (hie▸hok') hF hgk
    by_cases hm:cnt=most
    · refine qC (fP (Qi:=fun Z Z=>False) (Ee:=fun e s₁=>∃a o,e=.ref a∧s₁.heap.get? a=some o∧o.cls=.type "StopIteration"∧R (.ok .next) s₁) hz
        (WI ZA (rm.mono (by exact(vH _ _))) hz hTI hr (by exact(kN [_,_,_] [] (.l (.v 2) (.v 1)) (.e (.v 2) (.v 0)) [1,-1] (.L (.s (.c (.v 0)) (.c (.v 1))) (.n 0)) 1 rfl (Nat.not_lt.mp hi) hm)) fun e s₁ zk hgn hst=>key e s₁ zk (by simp only[hgn];exact hkeep') hst) (fun Z Z h=>h.elim) (fun e s₁ h=>let⟨a,o,h1,h2,h3,h4⟩:=h;⟨a,o,h1,h2,h3,qI h4⟩))
    · have hf:=hend.resolve_left hm
      refine qC (fP (Qi:=fun Z Z=>False) (Ee:=fun e s₁=>∃a o,e=.ref a∧s₁.heap.get? a=some o∧o.cls=.type "StopIteration"∧R (.ok .next) s₁) hz
        (rI ZA (rm.mono (by exact(vH _ _))) hNL (cne _ mz) (cne _ mT) (cne _ mr) hz hTI hTO hr (by lia) hgaG hgs' galt hgo (fun v T tx gs' iv s₁ zn hb hiv hvv hpa=>?_) (fun e s₁ zk Z hgn hst=>key e s₁ zk (pK hkeep' (by exact(qL hg.symm)) rfl hgn) hst)) (fun Z Z h=>h.elim) (fun e s₁ h=>let⟨a,o,h1,h2,h3,h4⟩:=h;⟨a,o,h1,h2,h3,qI h4⟩))
      rw[hfuel,hie,hf] at hiv;cases hiv
end Mine
namespace Mine
variable {w:World}{W:Wd}{k:Nat}{A:Around}{E:Value→Shared→Prop}{s:Shared}{F:Fz}
structure F6 (l:Nat)(env:Env)(ga:Nat)(oL:Obj)(nm qn:Value)(s s':Shared):Prop where
  ge:nA env
  L:s'.heap.get? env.locals=some oL
  ns:∃m,s'.heap.Ns env.locals m∧m ("grouping":Str)=some (.ref l)
  Lnew:s.heap.objs.size≤env.locals
  gnew:s.heap.objs.size≤ga
  gL:ga≠env.locals
  gen:s'.heap.get? ga=some ({cls:=.type "generator",data:=.fields #[.int s.gens.size 0,nm,qn],slots:=#[]}:Obj)
  gens:s'.gens=s.gens.push (.fresh (.func (xC 14).body env))
  keep:∀a o,s.heap.get? a=some o→s'.heap.get? a=some o
  size:s.heap.objs.size≤s'.heap.objs.size
  toks:s.toks≤s'.toks
  os:s'.os=s.os
theorem o0 {a l:Nat}{Q:Value→Shared→Prop}(fn:mA W (xC 14) a)(b:wC W s F)(rm:zZ (k+1) A)(q:∀env ga oL nm qn s',F6 l env ga oL nm qn s s'→Q (.ref ga) s'):wpAny (model pw w) A (call (.ref a) [.ref l]) Q E s:=by
  refine zS fun nG=>?_;obtain⟨o,pm,code,doc,ho,hd,hc⟩:=fn.obj;refine nG ?_;refine vI (codeAny_call_generator (fd:=docDef (xC 14).name (xC 14).params (xC 14).body (xC 14).scope pm code doc) rm.depth (b.base _ _ ho) hd rfl rfl rfl (hc.keeps b.base) ?_);have hbind:bindArgs (docDef (xC 14).name (xC 14).params (xC 14).body (xC 14).scope pm code doc) ⟨[.ref l],[]⟩=pure [(("grouping":Str),Value.ref l)]:=rfl;rw[hbind];refine qI (wD (z9 rfl (fun x hx=>?_) fun env he s₁ X hz1 ht1=>?_))
  · cases qF hx;exact .inl rfl
  · have es:env.scope=(xC 14).scope:=by rw[he];rfl
    refine⟨W.nolimit.keeps (fun a o e=>X.toInCall.keep a o (b.base a o e)),?_⟩;refine zS fun nG=>?_;obtain⟨⟨h',tk,rfl⟩,hns,keep,hL⟩:=X.toInCall;obtain⟨oL,es',ep,hoL,hL2⟩:=id hns;refine nG ?_;refine q env _ oL _ _ _ ⟨⟨es,by rw[he];rfl,by rw[he];rfl,by rw[he];rfl⟩,Heap.get?_push_of_some _ hoL,⟨_,hns.push _,sN (by show env.scope.names.lookup _=_;rw[es];rfl) (by simp) rfl⟩,hL,hz1,xE hns.lt,Heap.get?_push_size _ rfl,rfl,fun a o e=>Heap.get?_push_of_some _ (keep a o e),?_,?_,rfl⟩
    · show _≤(h'.push _).objs.size;rw[Heap.size_push];exact qW hz1
    · show s.toks≤_;exact qW (qW ht1)
noncomputable abbrev K5 (h:Heap)(i left step:Int):Heap:=h.push {cls:=.type "range_iterator",data:=.fields #[rawInt i,rawInt left,rawInt step]}
noncomputable abbrev GF (h:Heap)(i left step:Int)(ga:Nat):Heap:=(K5 h i left step).push {cls:=.type "tuple",data:=.seq #[.ref h.objs.size,.ref ga]}
noncomputable abbrev GE (h:Heap)(i left step:Int)(ga:Nat):Heap:=(GF h i left step ga).push {cls:=.type "tuple",data:=.seq #[.none,.none]}
noncomputable abbrev WJ (h:Heap)(i left step:Int)(ga:Nat):Heap:=(GE h i left step ga).push {cls:=.type "zip",data:=.fields #[.none,.bool false,.bool false,.ref (K5 h i left step).objs.size,.ref (GF h i left step ga).objs.size]}
theorem aL {r0 ga g:Nat}{a b c:Int}{t u v:Tok}(hsmall:Builtin.Range.small a b c=true) :
    Meets (Builtin.«zip.__new__» ⟨[.type "zip",.ref r0,.ref ga],[]⟩) (fun Z R s=>IsRange s.heap r0 a b c t u v∧s.heap.IsGen ga g ∧
      R (.ok (.ret (.ref (GE s.heap a (Builtin.Range.rangeSize a b c) c ga).objs.size))) {s with heap:=WJ s.heap a (Builtin.Range.rangeSize a b c) c ga}) :=
  .of_wp fun prog w A R s h=>by
    obtain⟨hp,gg,d,tk,os⟩:=s;obtain⟨hl1,hl2,h⟩:=h;have hsub:=sub_zip;have hL2:Heap.IsGen (Shared.heap ⟨K5 hp a (Builtin.Range.rangeSize a b c) c,gg,d,tk,os⟩) ga g:=Heap.IsGen.push hl2 _
    wp_walk using wpAny_pyIter_range (hl1:IsRange (Shared.heap ⟨hp,gg,d,tk,os⟩) r0 a b c t u v) hsmall,wpAny_pyIter_gen hL2
    exact⟨_,rfl,h⟩
theorem nS {r0 ga g:Nat}{a b c:Int}{t u v:Tok}{Q:Value→Shared→Prop}(hr:IsRange s.heap r0 a b c t u v)(hsmall:Builtin.Range.small a b c=true)(hg:s.heap.IsGen ga g)
    (h:∀h',IsZip h' (s.heap.objs.size+3) (s.heap.objs.size+1) (s.heap.objs.size+2) .none→IsPair h' (s.heap.objs.size+1) (.ref s.heap.objs.size) (.ref ga)→IsPair h' (s.heap.objs.size+2) .none .none →
      IsRangeIter h' s.heap.objs.size a (Builtin.Range.rangeSize a b c) c→h'.objs.size=s.heap.objs.size+4→(∀c o,s.heap.get? c=some o→h'.get? c=some o)→Q (.ref (s.heap.objs.size+3)) {s with heap:=h'}) :
    wpAny (model pw w) A (call (.type "zip") [.ref r0,.ref ga]) Q E s:=by
  refine callType_new F.called_zip (by exact rfl) (F.typeCall_zip_2 _ _) (F.newCall_zip_2 _ _) (fun obj=>F.args_object_init_3 obj _ _) F.entry_zip_new (aL (r0:=r0) (ga:=ga) (g:=g) (t:=t) (u:=u) (v:=v) hsmall) ⟨hr,hg,?_⟩;have z1:(K5 s.heap a (Builtin.Range.rangeSize a b c) c).objs.size=s.heap.objs.size+1:=Heap.size_push ..;have z3:(GF s.heap a (Builtin.Range.rangeSize a b c) c ga).objs.size=s.heap.objs.size+2:=by rw[Heap.size_push,z1]
  have z4:(GE s.heap a (Builtin.Range.rangeSize a b c) c ga).objs.size=s.heap.objs.size+3:=by rw[Heap.size_push,z3]
  have g5:(WJ s.heap a (Builtin.Range.rangeSize a b c) c ga).get? (GE s.heap a (Builtin.Range.rangeSize a b c) c ga).objs.size=some _:=Heap.get?_push_size _ rfl;have g4:(WJ s.heap a (Builtin.Range.rangeSize a b c) c ga).get? (GF s.heap a (Builtin.Range.rangeSize a b c) c ga).objs.size=some _:=Heap.get?_push_of_some _ (Heap.get?_push_size _ rfl);have g3:(WJ s.heap a (Builtin.Range.rangeSize a b c) c ga).get? (K5 s.heap a (Builtin.Range.rangeSize a b c) c).objs.size=some _:=Heap.get?_push_of_some _ (Heap.get?_push_of_some _ (Heap.get?_push_size _ rfl));have g1:(WJ s.heap a (Builtin.Range.rangeSize a b c) c ga).get? s.heap.objs.size=some _:=Heap.get?_push_of_some _ (Heap.get?_push_of_some _ (Heap.get?_push_of_some _ (Heap.get?_push_size _ rfl)));show _∧_;rw[z1,z3,z4] at g5;rw[z1] at g3;rw[z3] at g4;rw[z4];exact⟨⟨_,g5,rfl⟩,h _ g5 g3 g4 g1 (by rw[Heap.size_push,z4]:(WJ s.heap a (Builtin.Range.rangeSize a b c) c ga).objs.size=s.heap.objs.size+4) fun c o x=>Heap.get?_push_of_some _ (Heap.get?_push_of_some _ (Heap.get?_push_of_some _ (Heap.get?_push_of_some _ x)))⟩
end Mine
namespace Mine
variable {w:World}{W:Wd}{k:Nat}
theorem gF {prog:Program}{sc:Scope}{fn:Bool}{Γ:xK}{tgt e:Expr}{y:Str}{p pos:Pos}{n:Nat}(hB:kZ W sc y (.type "range"))
    (he:Ev prog w W k sc fn Γ e (.dat (.int (n:Int))))(ht:autoParam (w5 tgt=true) au4)(hn:n≤1000000)(hs:autoParam (∀env,starEach [e] env=[(false,eval e env)]) au1) :
    wR prog w W k sc fn Γ tgt (.Call (.Name y p) [e] [] pos) ((List.range n).map fun j:Nat=>V.dat (.int (j:Int))):=by
  have:=cY (tgt:=tgt) (p:=p) (pos:=pos) hB he ht (by exact(lX hn (by decide))) (by exact(B8 (by decide))) hs;rw[show((n:Int)).toNat=n by exact rfl,bZ,List.map_map] at this;exact this
set_option tactic.hygienic true in
theorem ZM {kept:jQ}:∀{f c r:Nat},cA kept f c=some r→∃(n:Nat) (cs:Nat→Nat),cs 0=c∧cs n=r∧(∀i,i<n→cs i≠0∧∃d,lT kept (xL (cs i))=some d∧cs (i+1)=cs i^^^d)∧(r=0 ∨ lT kept (xL r)=none)
  | 0,c,r,h=>nomatch h
  | f+1,c,r,h=>by
    change ite _ _ _=_ at h;split at h
    · rename_i hc
      cases h;exact⟨0,fun Z=>c,rfl,hc,fun i hi=>absurd hi (uN _),.inl rfl⟩
    · rename_i hc
      split at h
      · rename_i ha
        cases h;exact⟨0,fun Z=>c,rfl,rfl,fun i hi=>absurd hi (uN _),.inr ha⟩
      · rename_i d ha
        refine zS fun nG=>?_;obtain⟨n,cs,c0,cn,st,fin⟩:=ZM h;refine nG ?_;refine⟨n+1,fun i=>if i=0 then c else cs (i-1),rfl,by assumption,fun i hi=>?_,fin⟩;cases i with
        | zero=>exact⟨hc,d,ha,by assumption⟩
        | succ i=>simpa using st i (gK hi)
theorem pC {prog:Program}{sc:Scope}{fn:Bool}{Γ:xK}{y:Str}{pos:Pos}{a:Int}{c:Bool}(hy:Γ.lookup y=some (.val (.dat (.int a))))(hc:(a != 0)=c)
    (hd:autoParam ((y==("__debug__":Str))=false) au2)(hn:autoParam ((y==("__classdict__":Str))=false) au2):eM prog w W k sc fn Γ (.Name y pos) c:=by
  subst hc;exact mF (qD hy hd hn) UO
theorem e8 (ok:bX W){levels:List (List Str)}{rs:List Nat}(hr:vQ levels=some rs)(hs:∀l∈levels,l.length≤1000∧∀x∈l,x.length≤8)(hl:levels.length≤1000) :
    jM w W (k+2) 33 [.dat (.list (levels.map wL))] (.dat (.list (rs.map fun n:Nat=>Dat.int (n:Int)))):=by
  refine kX ["levels"] (fun Z Z Z=>Q7 fun Z=>rfl) (by exact rfl) (by decide) rfl ?_;have hz2:sizeLine=16777216:=rfl;refine xU (u9 (ds:=[]) qN (.inl rfl)) ?_;refine zS fun nG=>?_;obtain⟨rsf,rs0,rsn,rsst⟩:=uE hr;refine nG ?_;have rsl:∀i,i≤(levels.zip (levels.drop 1)).length→(rsf i).length=i:=by
    intro i
    induction i with
    | zero=>intro _;rw[rs0];rfl
    | succ i ih =>
      intro hi;have h1:=rsst i hi;unfold pS at h1;cases hk:jY (levels.zip (levels.drop 1))[i].1 (levels.zip (levels.drop 1))[i].2 with
      | none=>rw[hk] at h1;cases h1
      | some kp =>
        rw[hk] at h1;simp only[← (by simpa using h1:rsf i++[kp.length]=rsf (i+1)),List.length_append,ih (by exact(Nat.le_of_lt hi))];rfl
  let L:Bd:=.val (.dat (.list (levels.map wL)));let Γs:Nat→xK:=fun i=>[("ranks",.lst ((rsf i).map fun n:Nat=>Dat.int (n:Int))),("levels",L)];have h0:∀y b,(Γs 0).lookup y=some b→List.lookup y [((("ranks":Str)),Bd.lst []),("levels",L)]=some b:=by
    show ∀y b,List.lookup y [((("ranks":Str)),Bd.lst ((rsf 0).map fun n:Nat=>Dat.int (n:Int))),("levels",L)]=some b→_;rw[rs0];exact fun y b h=>h
  refine xU (yE (Γs:=Γs) (n:=(levels.zip (levels.drop 1)).length) (tB (l:=levels) (r:=levels.drop 1) (f:=wL) (g:=wL) (zA ok (by decide) rfl (by decide +kernel)) (qD rfl) (mG (n:=1) (qD rfl) (kH qX) (by exact(qB hl (by exact qA rfl))))) h0 ?_ (.inl ⟨by simp,rfl⟩)) ?_
  · intro i x hi hx;obtain⟨_,rfl⟩:=vR hx;generalize hpq:(levels.zip (levels.drop 1))[i]=pq;have hin:pq∈levels.zip (levels.drop 1):=hpq▸wF hi;obtain⟨b1,b2⟩:=hs pq.1 (z0 hin).1;obtain⟨a1,a2⟩:=hs pq.2 (sW (z0 hin).2);have hst:=rsst i hi;simp only[hpq] at hst;unfold pS at hst;cases hk:jY pq.1 pq.2 with
    | none=>rw[hk] at hst;cases hst
    | some kp =>
      rw[hk] at hst;refine zS fun nG=>?_;obtain⟨kf,k0,kn,kst⟩:=uE hk;refine nG ?_;have kl:∀j,j≤pq.2.length→(kf j).length≤j:=by
        intro j
        induction j with
        | zero=>intro _;rw[k0];exact qH _
        | succ j ih =>
          intro hj;have h1:=kst j hj;unfold yP at h1;cases hc:sE pq.1 pq.2[j] with
          | none=>rw[hc] at h1;cases h1
          | some c =>
            rw[hc] at h1;cases hd:cA (kf j) 64 c with
            | none=>simp[hd] at h1
            | some d =>
              simp[hd] at h1;have:=YF (kept:=kf j) (c:=d);rw[h1] at this;have:=ih (by exact(qU hj));exact(qB ‹_› (z5 this))
      let B:Bd:=.val (.dat (wL pq.1));let R:Bd:=.lst ((rsf i).map fun n:Nat=>Dat.int (n:Int));let Γn:Nat→xK:=fun j=>[("kept",.dic (v8 (kf j))),("below",B),("ranks",R),("levels",L)];refine⟨_,kQ (.inl rfl) (.inl rfl),?_⟩;refine xU (i6 (.inl rfl)) ?_;have h0n:∀y b,(Γn 0).lookup y=some b→List.lookup y [((("kept":Str)),Bd.dic []),("above",.val (.dat (wL pq.2))),("below",B),("ranks",R),("levels",L)]=some b:=by
        show ∀y b,List.lookup y [((("kept":Str)),Bd.dic (v8 (kf 0))),("below",B),("ranks",R),("levels",L)]=some b→_;rw[k0];exact(Sub.cons rfl (.cons rfl (.cons rfl (.cons rfl .nil)))).go
      refine xU (yE (Γs:=Γn) (n:=pq.2.length) (z6 (l:=pq.2) (h:=Dat.str) (qD rfl)) h0n ?_ (.inl ⟨by simp,rfl⟩)) ?_
      · intro j x hj hx;obtain⟨_,rfl⟩:=vR hx;generalize hnm:pq.2[j]=nm;have hnm8:nm.length≤8:=a2 nm (hnm▸wF hj);have h1:=kst j hj;simp only[hnm] at h1;unfold yP at h1;cases hc:sE pq.1 nm with
        | none=>rw[hc] at h1;cases h1
        | some c =>
          rw[hc] at h1;cases hd:cA (kf j) 64 c with
          | none=>simp[hd] at h1
          | some d =>
            refine zS fun nG=>?_;have hkj:keep (kf j) d=kf (j+1):=by simpa[hd] using h1
            obtain⟨cf,c0,cn,cst⟩:=uE hc;obtain⟨nw,cs,cs0,csn,wst,wfin⟩:=ZM hd;refine nG ?_;let K:Bd:=.dic (v8 (kf j));let N:Bd:=.val (.dat (.str nm));let Γk:Nat→xK:=fun m=>[("column",.val (.dat (.int (cf m:Int)))),("name",N),("kept",K),("below",B),("ranks",R),("levels",L)];let Γw:Nat→xK:=fun m=>[("column",.val (.dat (.int (cs m:Int)))),("kept",K),("below",B),("ranks",R),("levels",L)];refine⟨_,xY (.inl rfl),?_⟩;refine xU (xJ qX (.inl rfl)) ?_;have h0k:∀y b,(Γk 0).lookup y=some b→List.lookup y [((("column":Str)),Bd.val (.dat (.int 0))),("name",N),("kept",K),("below",B),("ranks",R),("levels",L)]=some b:=by
              show ∀y b,List.lookup y [((("column":Str)),Bd.val (.dat (.int (cf 0:Int)))),("name",N),("kept",K),("below",B),("ranks",R),("levels",L)]=some b→_;rw[c0];exact fun y b h=>h
            refine xU (yE (Γs:=Γk) (n:=(List.range nm.length).length) (gF (n:=nm.length) (zA ok (by exact .tail _ (.head _)) rfl (by decide +kernel)) (yI (zA ok (by exact .head _) rfl (by decide +kernel)) (qE (qD rfl) qN) (vW (by exact(qB hnm8 (by exact qA rfl))))) rfl (by exact(qB hnm8 (by exact qA rfl)))) h0k ?_ (.inl ⟨by simp,rfl⟩)) ?_
            · intro m x hm hx;obtain⟨_,rfl⟩:=vR hx;have hstep:=cst m hm;rw[List.getElem_range] at hstep ⊢;unfold pE at hstep;cases hix:idxOf (vP nm m) pq.1 with
              | none=>rw[hix] at hstep;cases hstep
              | some ix =>
                rw[hix] at hstep;obtain⟨i1,i2⟩:=gB hix;refine⟨_,xY (.inl rfl),?_⟩;have hsz:(b9 nm m++dJ nm (m+1)).length≤sizeLine:=by
                  show((b9 nm m).cps++(dJ nm (m+1)).cps).size≤sizeLine;rw[Array.size_append];have t1':(b9 nm m).cps.size≤nm.cps.size:=(rP nm m);have t2':(dJ nm (m+1)).cps.size≤nm.cps.size:=(rQ nm (m+1));have t3:nm.cps.size≤8:=hnm8;exact(qB (w0 t1' t2') (qB (w0 t3 t3) (by exact qA rfl)))
                refine gD (xU (xJ (x:=.dat (.int (cf (m+1):Int))) ?_ (.inl rfl)) wX) (.cons rfl (.cons rfl (.cons rfl (.cons rfl (.cons rfl (.cons rfl .nil))))));simp only[(by simpa using hstep.symm:cf (m+1)=cf m^^^2^ix),← hU,show((2^ix:Nat):Int)=1*2^((ix:Nat):Int).toNat by simp];refine zW ok QR (qE (qD rfl) (qE (zW ok (rM (by exact(xM _)) ?_) (qE qX (qE (zW ok (uA (g:=Dat.str) (fun a b h=>by injection h) (fun a=>.str a) i1 i2 ok) (qE (qD rfl) (qE (zW ok (m4 hsz) (qE (nP (n:=m) (qD rfl) (kH (qD rfl)) (by exact(qB hnm8 (by exact qA rfl)))) (qE (oJ (n:=m+1) (qD rfl) (kH (xF (qD rfl) qX kB)) (by exact(zT [nm.length] [] (.l (.v 0) (.n 8)) [1] (.l (.v 0) (.n 16777216)) 1 rfl hnm8))) qN))) qN))) qN))) qN));have:Builtin.Int.intBits 1=1:=by decide +kernel
                rw[this];exact(kN [_,_] [] (.l (.v 1) (.n 1000)) (.t (.v 0) (.v 1)) [1,1] (.L (.p (.c (.n 1)) (.c (.v 0))) (.n 134217728)) 1 rfl b1 (YL hix))
            · have hcn:cf (List.range nm.length).length=c:=cn;have hbl:∀(v:Nat),((xL v:Nat):Int)=(Builtin.Int.intBits (v:Int):Int):=fun v=>by rw[jA]
              have h0w:∀y b,(Γw 0).lookup y=some b→(Γk (List.range nm.length).length).lookup y=some b:=by
                show ∀y b,List.lookup y [((("column":Str)),Bd.val (.dat (.int (cs 0:Int)))),("kept",K),("below",B),("ranks",R),("levels",L)]=some b→List.lookup y [((("column":Str)),Bd.val (.dat (.int (cf (List.range nm.length).length:Int)))),("name",N),("kept",K),("below",B),("ranks",R),("levels",L)]=some b;rw[cs0,hcn];exact(Sub.cons rfl (.cons rfl (.cons rfl (.cons rfl (.cons rfl .nil))))).go
              refine xU (QG (Γs:=Γw) nw h0w (fun m hm=>?_) ?_) ?_
              · obtain⟨w1,e,w2,w3⟩:=wst m hm;constructor
                · have hin:(v8 (kf j)).any (fun p=>decide (p.1=((xL (cs m):Nat):Int)))=true:=by simp only[tS,w2];rfl
                  have:true=(true&&(true&&true)):=rfl;rw[this];refine yH (j6 (pC rfl (by simp;omega:((cs m:Int) != 0)=true)) fun Z=>j6 ?_ fun Z=>oH);rw[← hin,hbl];exact cX rfl (kP (qD rfl))
                · refine gD (xU (xJ (x:=.dat (.int (cs (m+1):Int))) ?_ (.inl rfl)) wX) (.cons rfl (.cons rfl (.cons rfl (.cons rfl (.cons rfl .nil)))));simp only[w3,← hU];refine zW ok QR (qE (qD rfl) (qE (XM (d:=.int (e:Int)) (x:=((xL (cs m):Nat):Int)) rfl ?_ ?_) qN))
                  · simp only[hbl];exact kP (qD rfl)
                  · simp only[YE,w2];rfl
              · rcases wfin with rfl | hnone
                · have hz0:((cs nw:Int) != 0)=false:=by rw[csn];rfl
                  have:false=(false&&true):=rfl;rw[this];exact yH (j6 (pC rfl hz0) fun h=>nomatch h)
                · by_cases hd0:d=0
                  · subst hd0;have:false=(false&&true):=rfl;rw[this];exact yH (j6 (pC rfl (by rw[csn];rfl:((cs nw:Int) != 0)=false)) fun h=>nomatch h)
                  · have hne:((cs nw:Int) != 0)=true:=by rw[csn];simp;omega
                    have:false=(true&&(false&&true)):=rfl;rw[this];refine yH (j6 (pC rfl hne) fun Z=>j6 ?_ fun h=>nomatch h);rw[← (by rw[tS,csn,hnone];rfl:(v8 (kf j)).any (fun p=>decide (p.1=((xL (cs nw):Nat):Int)))=false),hbl];exact cX rfl (kP (qD rfl))
              · have hcol:List.lookup ("column":Str) (Γw nw)=some (.val (.dat (.int (d:Int)))):=by show some _=some _;rw[csn]
                refine xU (Γ':=Γn (j+1)) ?_ wX;by_cases hd0:d=0
                · have hkk:kf (j+1)=kf j:=by simp only[← hkj,hd0];rfl
                  refine kY (b:=false) (pC hcol (by rw[hd0];rfl:((d:Int) != 0)=false)) (fun h=>nomatch h) (fun Z=>gD wX (.cons ?_ (.cons rfl (.cons rfl (.cons rfl .nil)))));rw[hkk];rfl
                · have hnone:lT (kf j) (xL d)=none:=wfin.resolve_left hd0;refine kY (b:=true) (pC hcol (by simp;omega:((d:Int) != 0)=true)) (fun Z=>?_) (fun h=>nomatch h);refine gD (xU (XG (kvs:=v8 (kf j)) (x:=((xL d:Nat):Int)) (d:=.int (d:Int)) rfl (qD hcol) ?_ ?_) wX) (.cons ?_ (.cons rfl (.cons rfl (.cons rfl .nil))))
                  · simp only[hbl];exact kP (qD hcol)
                  · rw[List.length_map];exact(qU (qV (kl j (qU hj)) (qK hj (qB a1 (by exact qA rfl)))))
                  · show some _=some _;rw[(by simp only[← hkj];unfold keep;rw[if_neg hd0]:kf (j+1)=kf j++[(xL d,d)]),iR hnone]
      · refine gD (xU (cV (ds:=(rsf i).map fun n:Nat=>Dat.int (n:Int)) (d:=.int ((v8 (kf pq.2.length)).length:Int)) rfl (XL (zA ok (by exact .head _) rfl (by decide +kernel)) rfl ?_) ?_) wX) (.cons ?_ (.cons rfl .nil))
        · rw[List.length_map];have:=kl pq.2.length (qH _);exact(qB this (qB a1 (by exact qA rfl)))
        · simp only[List.length_map,(rsl i (Nat.le_of_lt hi))];exact(qU (qK hi (qB (by simp;exact(qW hl):(levels.zip (levels.drop 1)).length≤1000) (by exact qA rfl))))
        · show some _=some _;rw[(by simpa using hst.symm:rsf (i+1)=rsf i++[kp.length]),List.map_append,kn];simp
  · refine pW (y:="ranks") (ds:=rs.map fun n:Nat=>Dat.int (n:Int)) ?_ (xR (xN (qD rfl)));show some _=some _;rw[rsn]
end Mine
namespace Mine
variable {w:World}{W:Wd}{k:Nat}
theorem bO {G:Array GenState}{x:GenState}(h:x.bare=true):zQ G (G.push x):=by
  refine⟨fun i y hi=>?_,fun ha y hy=>?_⟩
  · have hlt:=(Array.getElem?_eq_some_iff.mp hi).1;rw[Array.getElem?_push,if_neg (by exact(Nat.ne_of_lt hlt))];exact hi
  · rcases Array.mem_push.mp hy with h1 | rfl
    · exact ha y h1
    · exact h
theorem aP {fr:p4}{P:yW}{s:Shared}{F:Fz}{A:Around}{E:Value→Shared→Prop}{Q:Value→Shared→Prop}{y:Str}{es:List Expr}{xs:List V}{p pos:Pos}{a:Nat}{o:Obj}{fd:FuncData}{sc:Scope}{fn:Bool}{Γ:xK}
    (hf:Ev pw w W k sc fn Γ (.Name y p) (.ref a))(ho:W.base.get? a=some o)(hd:o.data=.func fd)(ha:sY pw w W k sc fn Γ es xs)(hsc:fr.env.scope=sc)(st:St pw w W fr fn Γ P s F)(rm:zZ k A)
    (hs:∀env,(starEach es env).any (·.1)=false)(q:∀vs s' F',q0 W s s' F F'→w8 pw w F' vs xs→wpAny (model pw w) A (PySem.call (.ref a) vs) Q E s'):wpAny (model pw w) A (eval (.Call (.Name y p) es [] pos) fr.env) Q E s:=by
  rw[(rfl:eval (.Call (.Name y p) es [] pos) fr.env=(do callWith pos (← eval (.Name y p) fr.env) [] (backTo pos (starEach es fr.env)) []))];refine qC (hf fr P s F hsc st A _ E rm fun v s₁ F₁ g₁ hv=>?_);cases hv;refine callWith_function (o:=o) (fd:=fd) ?_;refine kC ha hsc (st.step g₁) rm hs fun vs s₂ F₂ g₂ hv=>?_;exact⟨⟨((st.step g₁).step g₂).base.base _ _ ho,hd⟩,q vs s₂ F₂ (g₁.trans g₂) hv⟩
noncomputable def n6 (ns:List Int)(j:Nat):Int:=match jP ns none j with
  | .y i=>i
  | _=>0
theorem JI (ok:bX W){ns:List Int}{most cnt:Nat}(hne:∀q,jP ns none q≠.err)(hout:∀i,i<cnt→∃v,jP ns none i=.y v)(hcm:cnt≤most)(hend:cnt=most ∨ jP ns none cnt=.fin)(hmm:most≤1000) :
    jM w W (k+5) 29 [.dat (.list (ns.map Dat.int)),.dat (.int (most:Int))] (.dat (.list ((List.range cnt).map fun j=>Dat.int (n6 ns j)))):=by
  have hout':∀i,i<cnt→jP ns none i=.y (n6 ns i):=fun i hi=>by
    obtain⟨v,hv⟩:=hout i hi;rw[hv];unfold n6;rw[hv]
  refine kX ["sizes","most"] (fun Z Z Z=>gQ fun Z Z=>rfl) (by exact rfl) (by decide) rfl ?_;refine xR (xN fun fr P s F hsc st A Q E rm q=>?_);simp only[eval_ListComp];have okS:=tK (sc:=(xC 29).scope) (scope:=⟨.function,[(".0",.local),("k",.local),("size",.local)],false,false,[]⟩) (by exact rfl);refine fJ rfl (by intro _;rfl) (uJ (scope:=⟨.function,[(".0",.local),("k",.local),("size",.local)],false,false,[]⟩) (env:=fr.env) (fun x hx hf=>by simp at hx;rcases hx with rfl | rfl | rfl<;>cases hf)) okS.kind okS.loc ?_;have e:∀{y:Str} {p pos:Pos} {es:List Expr},eval (.Call (.Name y p) es [] pos) fr.env=(do callWith pos (← eval (.Name y p) fr.env) [] (backTo pos (starEach es fr.env)) []):=rfl;show wpAny (model pw w) A (eval (.Call (.Name ("zip":Str) _) [_,_] [] _) fr.env) _ _ s;rw[e];have hBz:kZ W (xC 29).scope ("zip":Str) (.type "zip"):=zA ok (by decide) rfl (by decide +kernel);have hBr:kZ W (xC 29).scope ("range":Str) (.type "range"):=zA ok (by exact .tail _ (.head _)) rfl (by decide +kernel);refine qC (wN st (hsc▸hBz.kind) hBz.glob hBz.boot hBz.nn ?_ hBz.nd);refine wZ rfl (evalArgs_plain (spliced_cons ?_));refine jB hBr.kind hBr.glob hBr.boot hBr.nn hBr.call (qE (qD rfl) qN) (by intro _;rfl) hBr.nd hsc st rm fun vs s₁ F₁ g₁ hv=>?_;refine w8.e1 hv fun Z h1=>?_;refine xQ.eInt h1 fun t₀ hm=>?_;refine call_range_1 ?_;let oR:Obj:={cls:=.type "range",data:=.fields #[.int 0 s₁.toks,.int (most:Int) t₀,.int 1 (s₁.toks+1)]};have g₂:q0 W s₁ {s₁ with heap:=s₁.heap.push oR,toks:=s₁.toks+1+1} F₁ (F₁.ob s₁.heap.objs.size oR):=q0.push ((st.step g₁).base) oR (by exact(qW (qR _ _))) rfl;have st₂:=(st.step g₁).step g₂;refine spliced_cons ?_;refine zS fun nG=>?_;obtain⟨a,fn⟩:=ok.fns 14 (by decide);obtain⟨o,pm,code,doc,ho,hd,_⟩:=id fn.obj;refine nG ?_;refine aP (xs:=[.dat (.list (ns.map Dat.int))]) (vU rfl fn.glob) ho hd (qE (qD rfl) qN) hsc st₂ rm (by intro _;rfl) fun vs s₃ F₃ g₃ hv=>?_;refine w8.e1 hv fun Z h1=>?_;refine xQ.eList h1 fun l vs n hl hvs=>?_;have st₃:=st₂.step g₃;refine o0 (k:=k+3) fn st₃.base (rm.mono (by exact(qH _))) fun genv ga oL nm qn s₄ gm=>?_;refine spliced_nil ?_;show wpAny _ A (call (.type "zip") [.ref s₁.heap.objs.size,.ref ga]) _ _ s₄;refine nS (gm.keep _ _ (st₃.base.has _ (g₃.sub.obs _ (.head _))):IsRange s₄.heap s₁.heap.objs.size 0 (most:Int) 1 s₁.toks t₀ (s₁.toks+1)) (small_one (by decide) (by decide) (by exact(B8 (by decide))) (by exact(lX hmm (by decide))):Builtin.Range.small 0 (most:Int) 1=true) (⟨_,_,_,gm.gen,rfl,rfl,rfl⟩:s₄.heap.IsGen ga s₃.gens.size) fun h₅ hz hTI hTO hri hz5 hk5=>?_;refine yY hz ?_;have hacc:∀(s:Shared) (Q:Value→Shared→Prop),Q (.ref s.heap.objs.size) {s with heap:=s.heap.push (listOf ([]:List Value).toArray 0)}→wpAny (model pw w) A (newList []) Q E s:=fun s Q h=>zF h;refine hacc _ _ ?_;refine jJ okS.cell (by intro y hy;simp at hy) (fun h₁ hns hsb=>?_) okS.kind;dsimp only at hns hsb ⊢;rw[show(h₅.push (listOf ([]:List Value).toArray 0)).objs.size=h₅.objs.size+1 by simp] at hns hsb ⊢;rw[(by rw[m9,hsc]:relabel ⟨.function,[(".0",.local),("k",.local),("size",.local)],false,false,[]⟩ fr.env=vM (xC 29).scope ⟨.function,[(".0",.local),("k",.local),("size",.local)],false,false,[]⟩)];let scope:Scope:=⟨.function,[(".0",.local),("k",.local),("size",.local)],false,false,[]⟩;let cenv:Env:={newEnv scope (h₅.objs.size+1) fr.env.globals (pZ fr.env.cells scope.names) fr.env.qual none .none (some fr.env) fr.env.builtins with scope:=vM (xC 29).scope scope};let oG:Obj:={cls:=.type "generator",data:=.fields #[.int s₃.gens.size 0,nm,qn],slots:=#[]};let s₅:Shared:={s₄ with heap:=h₅};have sz5:s₃.heap.objs.size≤h₅.objs.size:=by rw[hz5];have:=gm.size;exact(xA this)
  have g₄:q0 W s₃ s₅ F₃ ⟨[(ga,oG)]++F₃.obs,F₃.tks⟩:=q0.of_keeps [(ga,oG)] st₃.base (fun c o e=>hk5 _ _ (gm.keep _ _ e):∀c o,s₃.heap.get? c=some o→h₅.get? c=some o) (fun p hp=>by cases qF hp;exact⟨hk5 _ _ gm.gen,gm.gnew⟩) sz5 gm.toks gm.os (by show zQ _ s₄.gens;rw[gm.gens];exact bO rfl);have off3:∀a,s₃.heap.objs.size≤a→a≠ga→∀q∈([(ga,oG)]++F₃.obs:yW),q.1≠a:=fun a ha hg q hq=>by
    rcases qP hq with hq | hq
    · cases qF hq;exact xW hg
    · exact fun e=>absurd (qJ (st₃.base.has q hq)) (xB (e▸ha))
  have galt:ga<s₄.heap.objs.size:=qJ gm.gen;have Llt:@LT.lt Nat _ genv.locals s₄.heap.objs.size:=qJ gm.L;have sz4:=gm.size;have hN:∀p∈uZ (s₄.heap.objs.size+3) (s₄.heap.objs.size+1) (s₄.heap.objs.size+2) s₄.heap.objs.size ga .none .none 0 most++[(genv.locals,oL)],h₅.get? p.1=some p.2∧s₃.heap.objs.size≤p.1∧∀q∈([(ga,oG)]++F₃.obs:yW),q.1≠p.1:=fun p hp=>by
    rcases qP hp with hp | hp
    · simp only[uZ,List.mem_cons,List.not_mem_nil,or_false] at hp;rcases hp with rfl | rfl | rfl | rfl
      · exact⟨hz,by show _≤s₄.heap.objs.size+3;exact(xA sz4),off3 _ (by show _≤s₄.heap.objs.size+3;exact(xA sz4)) (by show s₄.heap.objs.size+3≠ga;exact(xE (qK galt (qR _ _))))⟩
      · exact⟨hTO,by show _≤s₄.heap.objs.size+2;exact(xA sz4),off3 _ (by show _≤s₄.heap.objs.size+2;exact(xA sz4)) (by show s₄.heap.objs.size+2≠ga;exact(xE (qK galt (qR _ _))))⟩
      · refine⟨?_,by show _≤s₄.heap.objs.size;omega,off3 _ (by show _≤s₄.heap.objs.size;omega) (by show s₄.heap.objs.size≠ga;exact(xE galt))⟩;have hri':=hri;rw[y8] at hri';rw[(by exact rfl:(((((most:Int)-0).toNat:Nat):Int))=(most:Int)-((0:Nat):Int))] at hri';exact hri'
      · exact⟨hTI,by show _≤s₄.heap.objs.size+1;exact(qW sz4),off3 _ (by show _≤s₄.heap.objs.size+1;exact(qW sz4)) (by show s₄.heap.objs.size+1≠ga;exact(xE (qO (qU galt))))⟩
    · cases qF hp;exact⟨hk5 _ _ gm.L,gm.Lnew,off3 _ gm.Lnew (xW gm.gL)⟩
  have st₅:=f9 (P:=P) (N:=uZ (s₄.heap.objs.size+3) (s₄.heap.objs.size+1) (s₄.heap.objs.size+2) s₄.heap.objs.size ga .none .none 0 most++[(genv.locals,oL)]) (s₂:=s₅) (o:=listOf ([]:List Value).toArray 0) (t:=s₄.toks+([]:List (Str×Value)).length) st₃ hsc okS g₄ hN rfl cenv hns hsb rfl rfl rfl rfl rfl (by simp[s₅]);have D5:eJ (s₄.heap.objs.size+3) (s₄.heap.objs.size+1) (s₄.heap.objs.size+2) s₄.heap.objs.size genv.locals:=by
    constructor<;>(refine(fun h=>h:∀{a b:Nat},a≠b→a≠b) ?_;(first | exact(xE (qO (qU Llt))) | exact(xE (qO (qH _))) | exact(qM (qK Llt (qR _ _))) | exact(qM (qO (qR _ _))) | exact(qM (qO (qH _))) | exact(qM (qO (xI _))) | exact(qM Llt)))
  suffices loop:codeAny (model pw w) A (.compLoop (.ListComp _ [⟨_,_,[],0⟩] _ _) 0 (.ref (s₄.heap.objs.size+3)) (.ref h₅.objs.size) cenv) (compPost (model pw w) A E none Q (.ref h₅.objs.size) cenv.locals) {s₅ with heap:=h₁,toks:=s₄.toks+([]:List (Str×Value)).length} from
    codeAny_compStart_list loop (yY (f0:=.none) (st₅.prv _ (.head _)).1 loop)
  refine FW (k:=k+2) (fr:=⟨s₃,F₃,cenv⟩) (env:=genv) (D:=h₅.objs.size) (g:=s₃.gens.size) (l:=l) (n:=n) (ns:=ns) (Fg:=F₃) (vals:=n6 ns) (cnt:=cnt) (gnm:=nm) (gqn:=qn) ok gm.ge hvs hne rm D5 hout' hcm hend hmm rfl rfl (fun y b h=>by obtain⟨_,_,_,z,rfl,_⟩:=bU h;rfl) rfl st₅ (fun p hp=>(hN p hp).2.1) (by exact sz5) (fun p hp=>qM (qJ (hN p hp).1)) g₄.sub (g₄.sub.obs _ hl) (.head _) ?_ ?_ ?_ ⟨[],0,rfl,.nil⟩ (fun i hi=>?_) (fun s' F' o' st' hok' hF' hkeep'=>?_)
  · show s₄.gens[s₃.gens.size]?=_;rw[gm.gens];exact Array.getElem?_push_size ..
  · show zQ _ s₄.gens;rw[gm.gens];exact bO rfl
  · obtain⟨m,hm1,hm2⟩:=gm.ns;refine⟨m,hm1.at' fun o e=>(hsb.2 _ ?_).trans (Heap.get?_push_of_some _ (Heap.get?_push_of_some _ (hk5 _ _ e))),hm2⟩;refine(fun h=>h:∀{a b:Nat},a≠b→a≠b) ?_;exact(qM (kN [genv.locals,h₅.objs.size,s₄.heap.objs.size] [] (.e (.v 1) (.p (.v 2) (.n 4))) (.t (.v 0) (.v 2)) [-1,1] (.t (.v 0) (.p (.v 1) (.n 1))) 1 rfl hz5 Llt))
  · refine⟨_,kQ (.inl rfl) (.inl rfl),(fun y b h=>by obtain⟨h1,_⟩:=bU h;simp at h1),?_⟩
    have:=lK (prog:=pw) (w:=w) (W:=W) (k:=k+2) (sc:=vM (xC 29).scope scope) (Γ:=(("size":Str),.val (.dat (.int (n6 ns i))))::(("k":Str),.val (.dat (.int (i:Int))))::capt (xC 29).scope scope ([("sizes":Str),("most":Str)].zip (List.map Bd.val [V.dat (Dat.list (List.map Dat.int ns)),V.dat (Dat.int ↑most)])))
      (elt:=.Name ("size":Str) ⟨144,12,144,16⟩) (d:=.int (n6 ns i)) (a:=(List.range i).map fun j=>Dat.int (n6 ns j)) (qD rfl) (by simp[sizeLine];exact(qU (qK hi (qB hcm (qB hmm (by decide))))))
    rw[(by rw[List.range_succ,List.map_append];rfl:(List.range (i+1)).map (fun j=>Dat.int (n6 ns j))=(List.range i).map (fun j=>Dat.int (n6 ns j))++[.int (n6 ns i)])];exact this
  · obtain⟨vs',n',rfl,hr'⟩:=hok';obtain⟨m,hm⟩:=st'.ns;obtain⟨hDo,_,hDF⟩:=st'.prv _ (.head _);refine⟨m,hm,fun h' hs'=>?_⟩;have g':=st'.grow;have g₆:q0 W s s' F F':=((g₁.trans g₂).trans g₃).trans ⟨g'.keep,g'.has,g'.sub,g'.new,g'.tok,g'.toks,g'.size,g'.os,hkeep',g'.tabs⟩;have hCn0:s.heap.objs.size≤cenv.locals:=qB ((g₁.trans g₂).trans g₃).size (st'.nsNew:s₃.heap.objs.size≤cenv.locals);have g₇:q0 W s {s' with heap:=h'} F F':=by
      refine⟨fun a o ht e=>(hs'.2 a (fun q=>?_)).trans (g₆.keep a o ht e),fun p hp=>(hs'.2 _ (st'.nsF p hp)).trans (g₆.has p hp),g₆.sub,g₆.new,g₆.tok,g₆.toks,?_,g₆.os,g₆.gens,g₆.tabs.keeps fun a o ha e=>(hs'.2 a fun q=>?_).trans e⟩
      · rw[q] at e;exact absurd (qJ e) (xB hCn0)
      · show _≤h'.objs.size;rw[hs'.1];exact g₆.size
      · rw[q] at ha;exact st.base.not_tab_of_size hCn0 ha
    exact q _ _ _ (g₇.freeze (qB ((g₁.trans g₂).trans g₃).size sz5) ((hs'.2 _ (qM (wE _):h₅.objs.size≠cenv.locals)).trans hDo)) (.list (.head _) (hr'.mono (Fz.le_ob _ _ _)))
end Mine
namespace Mine
noncomputable def j9 (B:Heap)(l:List Env)(e t:Nat)(h:Heap):Prop:=B.StaysIn h∧B.get? e=none∧h.FunFrames B l∧∃fl,h.TracedAtW B e (.type "ValueError") (.ref t) fl
section
variable {M:Model}{A:Around}{E:Value→Shared→Prop}{s:Shared}{B:Heap}{l outer:List Env}{env env₀:Env}{L e t:Nat}{Q:Unit→Shared→Prop}
theorem gC {fr:Option Addr}(x:j9 B l e t s.heap)(hQ:∀h',j9 B l e t h'→s.heap.UpToSlots h'→Q () {s with heap:=h'}):wpAny M A (setFlight (.ref e) fr) Q E s:=by
  refine zS fun nG=>?_;obtain⟨x1,x2,x3,fl,oe,vs,T,oT,ts,he,hc,hd,h1,hnT,hTe,hT,hdT,h3⟩:=x;have hlt:3<ts.size:=(Array.getElem?_eq_some_iff.mp h3).1;refine nG ?_;unfold setFlight;refine qC (zC he hd h1 ?_);rw[if_pos (show(Value.ref T != Value.none)=true from by exact rfl)];refine wpAny_setField hT hdT hlt ?_;have off:∀b,b≠T→(s.heap.update T (Obj.mapFields (·.setIfInBounds 3 (fr.elim Value.none fun f=>rawInt f)))).get? b=s.heap.get? b:=fun b hb=>Heap.get?_update_other _ _ (xW hb);have rc:∀b o,s.heap.get? b=some o→(∀vs,o.data≠.fields vs)→b≠T:=fun b o hb hn q=>by
    subst q;rw[hT] at hb;cases hb;exact hn ts hdT
  refine hQ _ ⟨fun b o hb=>(off b fun q=>?_).trans (x1 b o hb),x2,x3.of_keeps fun b o hb hn=>⟨o,(off b (rc b o hb hn)).trans hb,rfl⟩,_,oe,vs,T,_,_,(off e (xW hTe)).trans he,hc,hd,h1,hnT,hTe,
    Heap.get?_update_self _ hT (Obj.isFreed_of_fields (Obj.data_mapFields hdT _)),Obj.data_mapFields hdT _,Array.getElem?_setIfInBounds_self_of_lt hlt⟩ fun b o hb hn=>⟨o.slots,(off b (rc b o hb hn)).trans hb⟩
  rw[q,hnT] at hb;cases hb
theorem Q3 (h:env.frame=env₀.frame)(x:Value):noteFrame x env=noteFrame x env₀:=by
  unfold noteFrame PySem.frameOf;rw[h]
theorem tW (hfr:A.frames=some (env::outer))(hf:env.frame=some L)(x:j9 B (env::outer) e t s.heap)(hQ:∀h',j9 B (env::outer) e t h'→s.heap.UpToSlots h'→Q () {s with heap:=h'}) :
    wpAny M A (noteFrame (.ref e) env) Q E s:=by
  refine zS fun nG=>?_;obtain⟨x1,x2,x3,fl,oe,vs,T,oT,ts,he,hc,hd,h1,hnT,hTe,hT,hdT,h3⟩:=id x;have hlt:3<ts.size:=(Array.getElem?_eq_some_iff.mp h3).1;refine nG ?_;unfold noteFrame;simp only[hf];refine qC (zC he hd h1 ?_);rw[if_pos (show(Value.ref T != Value.none)=true from by exact rfl)];refine qC (zC hT hdT h3 ?_);by_cases hfl:(fl==rawInt L)=true
  · rw[if_pos hfl];exact qI (hQ s.heap x (Heap.UpToSlots.refl _))
  · rw[if_neg hfl];refine qC (wpAny_setField hT hdT hlt ?_);have off:∀b,b≠T→(s.heap.update T (Obj.mapFields (·.setIfInBounds 3 Value.none))).get? b=s.heap.get? b:=fun b hb=>Heap.get?_update_other _ _ (xW hb);have rc:∀b o,s.heap.get? b=some o→(∀vs,o.data≠.fields vs)→b≠T:=fun b o hb hn q=>by
      subst q;rw[hT] at hb;cases hb;exact hn ts hdT
    refine wpAny_entryW (base:=B) hfr (x3.of_keeps fun b o hb hn=>⟨o,(off b (rc b o hb hn)).trans hb,rfl⟩) hf ((off e (xW hTe)).trans he) (fun b o hb=>(off b fun q=>?_).trans (x1 b o hb)) x2 hd (Array.getElem?_eq_some_iff.mp h1).1 hc.2 fun h' hN=>?_
    · rw[q,hnT] at hb;cases hb
    · obtain⟨n1,n2,n3,n4⟩:=hN;rw[hc.1] at n3;exact hQ h' ⟨n1,x2,n2,_,n3⟩ fun b o hb hn=>n4 b o ((off b (rc b o hb hn)).trans hb) hn
theorem YS (hfr:A.frames=some (env₀::outer))(hf:env₀.frame=some L)(he:env.frame=env₀.frame)(x:j9 B (env₀::outer) e t s.heap)(hQ:∀h',j9 B (env₀::outer) e t h'→s.heap.UpToSlots h'→Q () {s with heap:=h'}) :
    wpAny M A (noteFrame (.ref e) env) Q E s:=by
  rw[Q3 he];exact tW hfr hf x hQ
theorem lG (hfr:A.frames=some (env::outer))(hf:env.frame=some L)(x:j9 B (env::outer) e t s.heap)(hQ:∀h',j9 B outer e t h'→s.heap.UpToSlots h'→Q () {s with heap:=h'}) :
    wpAny M A (leaving env (.ref e)) Q E s:=by
  unfold leaving;refine qC (tW hfr hf x fun h₁ x₁ u₁=>gC (s:={s with heap:=h₁}) x₁ fun h₂ x₂ u₂=>?_);refine zS fun nG=>?_;obtain⟨k1,k2,⟨_,_,k3⟩,k4⟩:=x₂;refine nG ?_;exact hQ h₂ ⟨k1,k2,k3,k4⟩ (u₁.trans u₂)
theorem YT {h:Heap}{args:List Value}(hfr:A.frames=some (env::outer))(hf:env.frame=some L)(hB:B.StaysIn h)(hl:h.FunFrames B (env::outer))(hx:Heap.MadeExcOf h s.heap e (.type "ValueError") args)
    (hQ:∀h' t,j9 B (env::outer) e t h'→h'.TupAt t args→B.get? t=none→s.heap.UpToSlots h'→Q () {s with heap:=h'}):wpAny M A (noteFrame (.ref e) env) Q E s:=by
  refine zS fun nG=>?_;obtain⟨t,he,htn,ht⟩:=hx.there;refine nG ?_;have fresh:∀b,h.get? b=none→B.get? b=none:=fun b hb=>by
    cases hq:B.get? b with
    | none=>rfl
    | some o=>have:=hB b o hq;rw[hb] at this;cases this
  unfold noteFrame;simp only[hf];refine qC (zC he rfl (x:=.none) rfl ?_);rw[if_neg (by decide)];refine wpAny_entryW (base:=B) (a0:=.ref t) hfr (hl.of_keeps fun b o hb Z=>⟨o,hx.keeps b o hb,rfl⟩) hf he (fun b o hb=>hx.keeps b o (hB b o hb)) (fresh e hx.new) rfl (by simp) rfl fun h' hN=>?_;obtain⟨n1,n2,n3,n4⟩:=hN;exact hQ h' t ⟨n1,fresh e hx.new,n2,_,n3⟩ (Heap.TupAt.of_slots ⟨_,_,ht,rfl,rfl⟩ n4) (fresh t htn) n4
theorem j9.tracedback {h:Heap}(x:j9 B l e t h):∃oe vs T,h.get? e=some oe∧oe.cls=.type "ValueError"∧oe.data=.fields vs∧vs[1]?=some (.ref T)∧vs[0]?=some (.ref t):=by
  refine zS fun nG=>?_;obtain⟨_,_,_,fl,oe,vs,T,oT,ts,he,hc,hd,h1,_⟩:=x;refine nG ?_;exact⟨oe,vs,T,he,hc.1,hd,h1,hc.2⟩
theorem i4 {fr:Option Addr}{what:String}(x:j9 B l e t s.heap)(hQ:∀h',j9 B l e t h'→s.heap.UpToSlots h'→Q () {s with heap:=h'}) :
    wpAny M A (do
      if(← field (.ref e) 1)==Value.none then unsupported what
      setFlight (.ref e) fr:Sem Unit) Q E s:=by
  refine zS fun nG=>?_;obtain⟨oe,vs,T,he,_,hd,h1,_⟩:=x.tracedback;refine nG ?_;refine qC (zC he hd h1 ?_);rw[if_neg (show ¬(Value.ref T==Value.none)=true from by simp)];exact gC x hQ
theorem aT (x:j9 B l e t s.heap)(hQ:∀h',j9 B l e t h'→s.heap.UpToSlots h'→E (.ref e) {s with heap:=h'}):cameBackBy M A env E (.ref e) s:=i4 x hQ
theorem XF {α:Type}{what:String}{Q:α→Shared→Prop}(x:j9 B l e t s.heap)(hQ:∀h',j9 B l e t h'→s.heap.UpToSlots h'→E (.ref e) {s with heap:=h'}):wpAny M A (PySem.passOn what (.ref e) env:Sem α) Q E s:=by
  refine zS fun nG=>?_;obtain⟨oe,vs,T,he,_,hd,h1,_⟩:=x.tracedback;refine nG ?_;unfold PySem.passOn;refine qC (zC he hd h1 ?_);rw[if_neg (show ¬(Value.ref T==Value.none)=true from by simp)];exact qC (gC x fun h' x' u'=>mP (hQ h' x' u'))
end
end Mine
namespace Mine
noncomputable def pO (l:List Env):List Nat:=l.filterMap (·.frame)
noncomputable def w9 (h:Heap)(l:List Env):Prop:=∀env∈l,env.scope.kind≠.module∧∃L o,env.frame=some L∧h.get? L=some o∧∀vs,o.data≠.fields vs
theorem w9.mem {h:Heap}{l:List Env}(x:w9 h l){a:Nat}(ha:a∈pO l):∃o,h.get? a=some o∧∀vs,o.data≠.fields vs:=by
  refine zS fun nG=>?_;obtain⟨env,he,hf⟩:=List.mem_filterMap.mp ha;obtain⟨_,L,o,hf',ho,hd⟩:=x env he;refine nG ?_;rw[hf] at hf';cases hf';exact⟨o,ho,hd⟩
theorem dX {h B:Heap}:∀{l:List Env},w9 h l→(∀a∈pO l,B.get? a=none)→h.FunFrames B l
  | [],_,_=>trivial
  | env::l,x,hB=>by
    refine zS fun nG=>?_;obtain⟨hk,L,o,hf,ho,hd⟩:=x env (.head _);refine nG ?_;refine⟨hk,⟨L,o,hf,hB L (List.mem_filterMap.mpr ⟨env,.head _,hf⟩),ho,hd⟩,dX (fun e he=>x e (.tail _ he)) fun a ha=>hB a ?_⟩;obtain⟨e,he,hf'⟩:=List.mem_filterMap.mp ha;exact List.mem_filterMap.mpr ⟨e,.tail _ he,hf'⟩
structure UI (B:Heap)(t tk:Nat)(X:List Nat)(l:List Env)(s s':Shared)(e:Nat)(msg:Str):Prop where
  any:j9 B l e t s'.heap
  tup:s'.heap.TupAt t [.str msg tk]
  tn:B.get? t=none
  tk0:s.toks≤tk
  tk1:tk<s'.toks
  keep:∀a o,a∉X→s.heap.get? a=some o→B.get? a=some o
  upto:s.heap.UpToSlots s'.heap
  os:s'.os=s.os
  gens:s'.gens=s.gens
theorem UI.next {B:Heap}{t tk:Nat}{X:List Nat}{l l':List Env}{s s':Shared}{e:Nat}{msg:Str}{h':Heap}(x:UI B t tk X l s s' e msg)(a:j9 B l' e t h')(u:s'.heap.UpToSlots h'):UI B t tk X l' s {s' with heap:=h'} e msg :=
  ⟨a,x.tup.of_slots u,x.tn,x.tk0,x.tk1,x.keep,x.upto.trans u,x.os,x.gens⟩
section
variable {w:World}{W:Wd}{A:Around}{s:Shared}{F:Fz}{env:Env}{outer:List Env}
theorem cC {E:Value→Shared→Prop}{Q:Flow→Shared→Prop}{np cpos p pos:Pos}{msg:Str}{c:Nat}(ok:bX W)(hb:W.base.StaysIn s.heap)(hh:A.handled=none)(hfr:A.frames=some (env::outer))(hF:w9 s.heap (env::outer))
    (hk:env.scope.kind=.function)(hx:env.scope.names.lookup ("ValueError":Str)=some .globalImplicit)(hg:env.globals=mainGlobals)(hbt:env.builtins=builtinsNs)
    (h:∀B t tk e s',UI B t tk (pO (env::outer)) (env::outer) s s' e msg→E (.ref e) s') :
    wpAny (model pw w) A (exec (.Raise (some (.Call (.Name ("ValueError":Str) np) [.Constant (.str msg) c p] [] cpos)) none pos) env) Q (fun x s'=>wpAny (model pw w) A (noteFrame x env) (fun Z s''=>E x s'') (fun Z Z=>False) s') s:=by
  refine Raise_madeB PySem.F.excCall_ValueError PySem.F.excRaise_ValueError hh ?_;refine Name_function_global hk hx (loadGlobal_builtin (by rw[hg];exact W.g.keeps hb) (ok.free _ (by decide)) (by rw[hbt];exact W.b.keeps hb) ((W.builtins _ (by decide)).trans (by decide +kernel:bootBuiltins ("ValueError":Str)=some (.type "ValueError"))) ⟨rfl,?_⟩);refine spliced_cons (wpAny_Constant_str (k:=c) (pos:=p) (spliced_nil ⟨by simp[sizeLine],fun h' e hx'=>?_⟩));refine zS fun nG=>?_;obtain⟨_,L,oL,hf,_⟩:=hF env (.head _);refine nG ?_;let B:=hideAll s.heap (pO (env::outer));refine YT (s:={s with heap:=h',toks:=s.toks+1}) (h:=s.heap) (B:=B) hfr hf (fun b o q=>of_hideAll _ q) (dX hF (fun a ha=>hideAll_none _ ha:∀a∈pO (env::outer),B.get? a=none)) hx'.of fun h₁ t a₁ tu hBt u=>?_;exact h B t s.toks e _ ⟨a₁,tu,hBt,qH _,wE _,fun a o hn ho=>hideAll_get _ ho hn,(Heap.UpToSlots.of_keeps hx'.keeps).trans u,rfl,rfl⟩
end
theorem j9.less {B B' h:Heap}{l:List Env}{e t:Nat}(x:j9 B l e t h)(hB:∀a o,B'.get? a=some o→B.get? a=some o):j9 B' l e t h:=by
  have no:∀a,B.get? a=none→B'.get? a=none:=fun a ha=>by
    cases q:B'.get? a with
    | none=>rfl
    | some o=>rw[hB a o q] at ha;cases ha
  obtain⟨x1,x2,x3,fl,oe,vs,T,oT,ts,he,hc,hd,h1,hnT,r⟩:=x;refine⟨fun a o q=>x1 a o (hB a o q),no _ x2,?_,fl,oe,vs,T,oT,ts,he,hc,hd,h1,no _ hnT,r⟩;clear he hc hd h1 hnT r x1 x2
  induction l with
  | nil=>trivial
  | cons env l ih =>
    obtain⟨a1,⟨L,o,a2,a3,a4⟩,a5⟩:=x3;exact⟨a1,⟨L,o,a2,no _ a3,a4⟩,ih a5⟩
theorem j9.turn {B h h':Heap}{l:List Env}{e t c:Nat}{o:Obj}(x:j9 B l e t h)(hc:B.get? c=some o)(hs:Heap.SameBut c h h'):j9 (B.hide c) l e t h':=by
  have ne:∀{a:Nat},B.get? a=none→a≠c:=fun ha q=>by rw[q,hc] at ha;cases ha
  have stay:∀{a:Nat} {o:Obj},B.get? a=none→h.get? a=some o→h'.get? a=some o:=fun ha q=>(hs.2 _ (ne ha)).trans q;obtain⟨y1,y2,y3,_⟩:=(x.less (B':=B.hide c) fun a o q=>Heap.of_hide q);obtain⟨x1,x2,x3,fl,oe,vs,T,oT,ts,he,hcc,hd,h1,hnT,hTe,hT,hdT,h3⟩:=x;have none':∀{a:Nat},B.get? a=none→(B.hide c).get? a=none:=fun{a} ha=>by
    cases q:(B.hide c).get? a with
    | none=>rfl
    | some o=>rw[Heap.of_hide q] at ha;cases ha
  refine⟨fun a o q=>(hs.2 a fun e=>by rw[e,Heap.hide_self] at q;cases q).trans (y1 a o q),y2,?_,fl,oe,vs,T,oT,ts,stay x2 he,hcc,hd,h1,none' hnT,hTe,stay hnT hT,hdT,h3⟩;clear he hcc hd h1 hnT x1 x2 hT y1 y2 y3 hdT h3
  induction l with
  | nil=>trivial
  | cons env l ih =>
    obtain⟨a1,⟨L,o,a2,a3,a4,a5⟩,a6⟩:=x3;exact⟨a1,⟨L,o,a2,none' a3,stay a3 a4,a5⟩,ih a6⟩
structure hZ (B:Heap)(t tk:Nat)(X:List Nat)(l:List Env)(s s':Shared)(e:Nat)(msg:Str):Prop where
  any:j9 B l e t s'.heap
  tup:s'.heap.TupAt t [.str msg tk]
  tn:B.get? t=none
  tk0:s.toks≤tk
  tk1:tk<s'.toks
  keep:∀a o,a∉X→s.heap.get? a=some o→B.get? a=some o
  upto:∀a∈pO l,∀o,s.heap.get? a=some o→(∀vs,o.data≠.fields vs)→∃sl,s'.heap.get? a=some {o with slots:=sl}
  os:s'.os=s.os
theorem hZ.next {B:Heap}{t tk:Nat}{X:List Nat}{l:List Env}{s s':Shared}{e:Nat}{msg:Str}{h':Heap}(x:hZ B t tk X l s s' e msg)(a:j9 B l e t h')(u:s'.heap.UpToSlots h'):hZ B t tk X l s {s' with heap:=h'} e msg :=
  ⟨a,x.tup.of_slots u,x.tn,x.tk0,x.tk1,x.keep,fun b hb o ho hd=>by
    obtain⟨sl,h1⟩:=x.upto b hb o ho hd;obtain⟨sl',h2⟩:=u b _ h1 hd;exact⟨sl',h2⟩,x.os⟩
theorem hZ.turn {B:Heap}{t tk c:Nat}{X:List Nat}{l:List Env}{s s':Shared}{e:Nat}{msg:Str}{h':Heap}{o:Obj}(x:hZ B t tk X l s s' e msg)(hc:B.get? c=some o)(hs:Heap.SameBut c s'.heap h')(hcf:c∉pO l):hZ (B.hide c) t tk (c::X) l s {s' with heap:=h'} e msg where
  any:=x.any.turn hc hs
  tup:=let⟨o',n,h1,h2,h3⟩:=x.tup;⟨o',n,(hs.2 _ fun q=>by have:=x.tn;rw[q,hc] at this;cases this).trans h1,h2,h3⟩
  tn:=by
    cases q:(B.hide c).get? t with
    | none=>rfl
    | some o=>have:=Heap.of_hide q;rw[x.tn] at this;cases this
  tk0:=x.tk0
  tk1:=x.tk1
  keep:=fun a o hn ho=>by
    simp only[List.mem_cons,not_or] at hn;rw[Heap.hide_ne _ hn.1];exact x.keep a o hn.2 ho
  upto:=fun a ha o ho hd=>let⟨sl,h1⟩:=x.upto a ha o ho hd;⟨sl,(hs.2 _ fun q=>hcf (q▸ha)).trans h1⟩
  os:=x.os
theorem UI.z {B:Heap}{t tk:Nat}{X:List Nat}{l:List Env}{s s':Shared}{e:Nat}{msg:Str}(x:UI B t tk X l s s' e msg):hZ B t tk X l s s' e msg :=
  ⟨x.any,x.tup,x.tn,x.tk0,x.tk1,x.keep,fun a Z o ho hd=>x.upto a o ho hd,x.os⟩
theorem hZ.before {B:Heap}{t tk:Nat}{X:List Nat}{l:List Env}{s₀ s s':Shared}{e:Nat}{msg:Str}(x:hZ B t tk X l s s' e msg)(hk:∀a o,s₀.heap.get? a=some o→s.heap.get? a=some o)(ht:s₀.toks≤s.toks)(ho:s.os=s₀.os):hZ B t tk X l s₀ s' e msg :=
  ⟨x.any,x.tup,x.tn,qB ht x.tk0,x.tk1,fun a o hn h=>x.keep a o hn (hk a o h),fun a ha o h hd=>x.upto a ha o (hk a o h) hd,x.os.trans ho⟩
structure sX (W:Wd)(B:Heap)(t tk:Nat)(l:List Env)(s s':Shared)(F F':Fz)(e:Nat)(msg:Str):Prop where
  any:j9 B l e t s'.heap
  tup:s'.heap.TupAt t [.str msg tk]
  tkm:(tk,Dat.str msg)∈F'.tks
  keep:∀a o,¬W.tab a→a∉pO l→s.heap.get? a=some o→B.get? a=some o
  obs:∀p∈F'.obs,B.get? p.1=some p.2
  tabs:gH W F' B
  upto:∀a∈pO l,∀o,s.heap.get? a=some o→∃sl,s'.heap.get? a=some {o with slots:=sl}
  sub:F.le F'
  new:∀p∈F'.obs,p∈F.obs ∨ s.heap.objs.size≤p.1
  tok:bB F'.tks s'.toks
  toks:s.toks≤s'.toks
  os:s'.os=s.os
  gens:zQ s.gens s'.gens
theorem sX.next {W:Wd}{B:Heap}{t tk:Nat}{l:List Env}{s s':Shared}{F F':Fz}{e:Nat}{msg:Str}{h':Heap}(x:sX W B t tk l s s' F F' e msg)(hF:w9 s.heap l)(a:j9 B l e t h')(u:s'.heap.UpToSlots h'):sX W B t tk l s {s' with heap:=h'} F F' e msg :=
  ⟨a,x.tup.of_slots u,x.tkm,x.keep,x.obs,x.tabs,fun b hb o ho=>by
    obtain⟨sl,h1⟩:=x.upto b hb o ho;obtain⟨o',h2,hd⟩:=hF.mem hb;rw[ho] at h2;cases h2;obtain⟨sl',h3⟩:=u b _ h1 hd;exact⟨sl',h3⟩,x.sub,x.new,x.tok,x.toks,x.os,x.gens⟩
theorem sX.size {W:Wd}{B:Heap}{t tk:Nat}{l:List Env}{s s':Shared}{F F':Fz}{e:Nat}{msg:Str}(x:sX W B t tk l s s' F F' e msg)(hz:hz s≤hz s'):zX W (pO l) s s' F F' :=
  ⟨fun a o ht hn ho=>x.any.1 _ _ (x.keep a o ht hn ho),fun p hp=>x.any.1 _ _ (x.obs p hp),x.sub,x.new,x.tok,x.toks,hz,x.os,x.gens,x.tabs.keeps fun a o Z e=>x.any.1 _ _ e⟩
theorem yD {env:Env}{outer:List Env}{L:Nat}(h:env.frame=some L):pO (env::outer)=L::pO outer:=by unfold pO;rw[List.filterMap_cons,h]
noncomputable def sR (w:World)(W:Wd)(k:Nat)(f:Value)(xs:List V)(msg:Str):Prop :=
  ∀s F vs,wC W s F→w8 pw w F vs xs→∀(A:Around) (l:List Env) (Q:Value→Shared→Prop) (E:Value→Shared→Prop),zZ k A→A.frames=some l→w9 s.heap l→(∀p∈F.obs,p.1∉pO l) →
    (∀B t tk e s' F',sX W B t tk l s s' F F' e msg→E (.ref e) s')→wpAny (model pw w) A (call f vs) Q E s
section
variable {w:World}{W:Wd}{k:Nat}
theorem W4 {A:Around}{E:Value→Shared→Prop}{s s₁ s':Shared}{F F₁:Fz}{env:Env}{outer:List Env}{Γ:xK}{B:Heap}{t tk e:Nat}{X:List Nat}{msg:Str}(b₀:wC W s F)(st:St pw w W ⟨s,F,env⟩ true Γ [] s₁ F₁)(hf:env.frame=some env.locals)(hfr:A.frames=some (env::outer))
    (hFo:w9 s.heap outer)(hoff:∀p∈F.obs,p.1∉pO outer)(x:hZ B t tk X (env::outer) s₁ s' e msg)(hX:∀a∈X,a∈pO (env::outer) ∨ (s.heap.objs.size≤a∧∀p∈F₁.obs,p.1≠a))(hg:zQ s₁.gens s'.gens)
    (h:∀s' F',sX W B t tk outer s s' F F' e msg→E (.ref e) s'):wpAny (model pw w) A (leaving env (.ref e)) (fun Z s''=>E (.ref e) s'') (fun e' s''=>E e' s'') s':=by
  refine lG hfr hf x.any fun h' a' u'=>h _ (F₁.tk tk (.str msg)) ?_;have y:hZ B t tk X outer s₁ {s' with heap:=h'} e msg:=⟨a',x.tup.of_slots u',x.tn,x.tk0,x.tk1,x.keep,fun a ha o ho hd=>by
    obtain⟨sl,h1⟩:=x.upto a (by rw[yD hf];exact .tail _ ha) o ho hd;obtain⟨sl',h2⟩:=u' a _ h1 hd;exact⟨sl',h2⟩,x.os⟩
  have hLn:s.heap.get? env.locals=none:=x4 st.nsNew;have ntab:∀{c:Nat} {o:Obj},s.heap.get? c=some o→(∀vs,o.data≠.fields vs)→¬W.tab c:=fun{c o} ho hd ht=>by
    obtain⟨q,hq,rfl⟩:=ht;obtain⟨ps,h1,_⟩:=b₀.tabs q hq;rw[ho] at h1;cases h1;exact hd _ rfl
  have inX:∀a,a∈X→a=env.locals ∨ a∈pO outer ∨ (s.heap.objs.size≤a∧∀p∈F₁.obs,p.1≠a):=fun a ha=>by
    rcases hX a ha with h1 | h1
    · rw[yD hf] at h1;rcases qG h1 with rfl | h1
      · exact .inl rfl
      · exact .inr (.inl h1)
    · exact .inr (.inr h1)
  refine⟨y.any,y.tup,.head _,fun a o ht hn ho=>y.keep a o (fun hm=>?_) (st.grow.keep a o ht ho),fun p hp=>y.keep _ _ (fun hm=>?_) (st.base.has p hp),(st.base.tabs.keeps fun a o ha ho=>y.keep a o (fun hm=>?_) ho).mono (Fz.le_tk _ _ _),fun a ha o ho=>?_,st.grow.sub.trans (Fz.le_tk _ _ _),st.grow.new,?_,?_,?_,?_⟩
  · rcases inX a hm with rfl | h1 | ⟨h1,_⟩
    · rw[hLn] at ho;cases ho
    · exact hn h1
    · exact absurd (qJ ho) (xB h1)
  · rcases inX p.1 hm with h1 | h1 | ⟨_,h1⟩
    · exact st.nsF p hp h1
    · rcases st.grow.new p hp with h2 | h2
      · exact hoff p h2 h1
      · obtain⟨o,ho,_⟩:=hFo.mem h1;exact absurd (qJ ho) (xB h2)
    · exact h1 p hp rfl
  · rcases inX a hm with h1 | h1 | ⟨h1,_⟩
    · exact st.tabL (h1▸ha)
    · obtain⟨o',ho',hd'⟩:=hFo.mem h1;exact ntab ho' hd' ha
    · exact b₀.not_tab_of_size h1 ha
  · obtain⟨o',ho',hd'⟩:=hFo.mem ha;rw[ho] at ho';cases ho';obtain⟨sl,h1⟩:=x.upto a (by rw[yD hf];exact .tail _ ha) o (st.grow.keep a o (ntab ho hd') ho) hd';obtain⟨sl',h2⟩:=u' a _ h1 hd';exact⟨sl',h2⟩
  · exact st.base.tok.cons y.tk0 y.tk1
  · have:=st.grow.toks;exact qB this (qB y.tk0 (qU y.tk1))
  · exact y.os.trans st.grow.os
  · exact st.grow.gens.trans hg
end
end Mine
namespace Mine
variable {w:World}{W:Wd}{k:Nat}
theorem fC {s:Shared}{F:Fz}(b:wC W s F){c:Nat}{o:Obj}(ho:s.heap.get? c=some o)(hd:∀vs,o.data≠.fields vs):¬W.tab c:=fun ht=>by
  obtain⟨q,hq,rfl⟩:=ht;obtain⟨ps,h1,_⟩:=b.tabs q hq;rw[ho] at h1;cases h1;exact hd _ rfl
theorem iX {s s':Shared}{F:Fz}{outer:List Env}(b:wC W s F)(hk:∀a o,¬W.tab a→s.heap.get? a=some o→s'.heap.get? a=some o)(h:w9 s.heap outer):w9 s'.heap outer:=fun e he=>by
  refine zS fun nG=>?_;obtain⟨h1,L,o,hf,ho,hd⟩:=h e he;refine nG ?_;exact⟨h1,L,o,hf,hk _ _ (fC b ho hd) ho,hd⟩
theorem bP {prog:Program}{s s':Shared}{F F':Fz}{env:Env}{fn:Bool}{Γ:xK}{P:yW}{outer:List Env}(st:St prog w W ⟨s,F,env⟩ fn Γ P s' F')(b:wC W s F)(h:w9 s.heap outer)(hf:env.frame=some env.locals):w9 s'.heap (env::outer):=fun e he=>by
  rcases qG he with rfl | he
  · obtain⟨m,o,es,ep,ho,hd,_⟩:=st.ns;exact⟨by rw[(st.kind:e.scope.kind=.function)];decide,_,o,hf,ho,fun vs q=>by rw[hd] at q;cases q⟩
  · exact iX b (fun a o ht ho=>st.grow.keep a o ht ho) h e he
theorem cB {i:Nat}{a:Nat}{xs:List V}{msg:Str}(fn:mA W (xC i) a)(names:List Str)
    (hb:∀pm code doc (vs:List Value),vs.length=xs.length→bindArgs (docDef (xC i).name (xC i).params (xC i).body (xC i).scope pm code doc) ⟨vs,[]⟩=pure (names.zip vs))
    (hp:uR (xC i).scope names=true)(hn:names.Nodup)(hl:names.length=xs.length)
    (hex:∀(s:Shared) (F:Fz) (env:Env) (s₁:Shared) (F₁:Fz) (A:Around) (outer:List Env) (Q:Flow→Shared→Prop) (E:Value→Shared→Prop),env.scope=(xC i).scope→env.frame=some env.locals→wC W s F→St pw w W ⟨s,F,env⟩ true (names.zip (xs.map Bd.val)) [] s₁ F₁ →
      zZ k A→A.frames=some (env::outer)→w9 s.heap outer→(∀p∈F.obs,p.1∉pO outer) →
      (∀B t tk e X s₂ F₂ s',St pw w W ⟨s,F,env⟩ true [] [] s₂ F₂→hZ B t tk X (env::outer) s₂ s' e msg→(∀a∈X,a∈pO (env::outer) ∨ (s.heap.objs.size≤a∧∀p∈F₂.obs,p.1≠a))→zQ s₂.gens s'.gens→E (.ref e) s')→wpAny (model pw w) A (execs (xC i).body env) Q E s₁) :
    sR w W (k+1) (.ref a) xs msg:=by
  intro s F vs b hv A outer Q E rm hfr hFo hoff q;refine zS fun nG=>?_;obtain⟨o,pm,code,doc,ho,hd,hc⟩:=fn.obj;refine nG ?_;unfold uR at hp;simp only[Bool.and_eq_true,beq_iff_eq,Bool.not_eq_true',List.all_eq_true,Bool.or_eq_true] at hp;refine zS fun nG=>?_;obtain⟨⟨⟨hk,hco⟩,hgen⟩,hkinds⟩:=hp;have vl:=hv.length;refine nG ?_;refine vI ?_;refine codeAny_call_function (fd:=docDef (xC i).name (xC i).params (xC i).body (xC i).scope pm code doc) rm.depth (b.base _ _ ho) hd hco hgen rfl (hc.keeps b.base) ?_;rw[hb _ _ _ _ vl];have hbm:(names.zip vs).map (·.1)=names:=by
    rw[List.map_fst_zip];exact(qL (jN hl vl.symm))
  have key:∀x∈names.zip vs,(xC i).scope.names.lookup x.1=some .local ∨ (xC i).scope.names.lookup x.1=some .cell:=fun x hx=>hkinds x.1 (z0 hx).1;refine qI (wD (z9 hk (fun x hx=>?_) fun env he s₁ X hz1 ht1=>?_))
  · rcases key x hx with h | h
    · exact .inl h
    · obtain⟨c,hc⟩:=wO (n:=s.heap.objs.size+1) (acc:=[]) (.inl (mem_of_lookup h));exact .inr ⟨h,by show((cellsFrom (s.heap.objs.size+1) (xC i).scope.names []).lookup x.1).isSome=true;rw[hc];rfl⟩
  · have es:env.scope=(xC i).scope:=by rw[he];rfl
    have st:St pw w W ⟨s,F,env⟩ true (names.zip (xs.map Bd.val)) [] s₁ F:=y5 (sc:=(xC i).scope) (binds:=names.zip vs) b hz1 ht1 (by rw[he];rfl) (by rw[he];rfl) es hk ⟨s.heap.objs.size+1,by simp only[he];rfl⟩ X (by simp only[hbm];exact hn) fun y bd hy=>by
      refine zS fun nG=>?_;obtain⟨h1,x,v,e1,e2,e3⟩:=wW hv hy;refine nG ?_;exact⟨hkinds y h1,x,v,e1,e2,e3⟩
    refine⟨W.nolimit.keeps (fun a o e=>X.toInCall.keep a o (b.base a o e)),codeAny_func ?_⟩;have hf:env.frame=some env.locals:=by rw[he];rfl
    have hfr':(A.deeper env).frames=some (env::outer):=s5 hfr;refine hex s F env s₁ F _ outer _ _ es hf b st (rm.deeper env) hfr' hFo hoff fun B t tk e X s₂ F₂ s' st₂ fly hX hg=>?_;exact W4 (E:=fun x s''=>E x s'') b st₂ hf hfr' hFo hoff fly hX hg fun s'' F' fl=>q B t tk e s'' F' fl
theorem QZ {α:Type} [DecidableEq α] {l:List α} {g:α→Dat} {e:α} (hg:∀a b,g a=g b→a=b) (ha:∀a,mB (g a)) (hnot:∀i:Nat,l[i]?≠some e) (ok:bX W) {a:Nat} (fn:mA W (xC 23) a) :
    sR w W (k+1) (.ref a) [.dat (.list (l.map g)),.dat (g e)] ("sequence.index(x): x not in sequence":Str):=by
  refine cB fn ["a","b"] (fun Z Z Z=>gQ fun Z Z=>rfl) (by exact rfl) (by decide) rfl ?_;intro s F env s₁ F₁ A outer Q E hsc hf b st rm hfr hFo hoff hE;let Γs:Nat→xK:=fun i=>[("a",.val (.dat (.list (l.map g)))),("b",.val (.dat (g e)))];have hen:∀(ds:List Dat) (j i:Nat),(uT j ds)[i]?=(ds[i]?).map fun d=>Dat.tuple [.int ((j+i:Nat):Int),d]:=by
    intro ds
    induction ds with
    | nil=>intro j i;exact rfl
    | cons d r ih =>
      intro j i;cases i with
      | zero=>exact rfl
      | succ i =>
        have:=ih (j+1) i;dsimp only[uT];simp only[List.getElem?_cons_succ,this];rw[show j+1+i=j+(i+1) by exact(Nat.add_right_comm _ _ _)]
  have hx':∀(i:Nat) (x:V),((uT 0 (l.map g)).map V.dat)[i]?=some x→∃a,l[i]?=some a∧x=V.dat (.tuple [.int (i:Int),g a]):=fun i x hx=>by
    rw[List.getElem?_map,hen,List.getElem?_map] at hx;cases h:l[i]? with
    | none=>rw[h] at hx;cases hx
    | some a =>
      rw[h] at hx;simp at hx;exact⟨a,rfl,hx.symm⟩
  have hlen:∀(ds:List Dat) (j:Nat),(uT j ds).length=ds.length:=by
    intro ds
    induction ds with
    | nil=>intro j;rfl
    | cons d r ih=>intro j;dsimp only[uT];simp[ih]
  refine xP (iZ (fr:=⟨s,F,env⟩) (Γs:=Γs) (n:=l.length) (c8 (zA ok (by decide) rfl (by decide +kernel):kZ W (xC 23).scope "enumerate" (.type "enumerate")) (qD rfl)) (Sub.cons rfl (.cons rfl .nil)).go ?_ hsc st rm (.inl ⟨by simp[hlen],fun s' F' hF st'=>?_⟩))
  · intro i x hi hx;obtain⟨a,h1,rfl⟩:=hx' i x hx;refine⟨_,kQ (.inl rfl) (.inl rfl),?_⟩;refine gD (xU (Γ':=_) (kY (bS (qD rfl) (qD rfl) (qD rfl) (qD rfl) (⟨fun h=>(nomatch h),fun h=>absurd (by rw[h1,hg _ _ h]) (hnot i)⟩:false=true↔g a=g e) (ha _) (ha _)) (fun h=>nomatch h) (fun Z=>wX)) wX) (.cons rfl (.cons rfl .nil))
  · refine xP (xT (cC (Q:=fun Z Z=>False) (E:=fun x s'=>cameBackBy (model pw w) A env E x s') ok st'.base.base rm.handled hfr (bP st' b hFo hf) (by rw[hsc];rfl) (by rw[hsc];rfl) st'.glob st'.blt ?_) (fun Z Z h=>h.elim) fun x s'' h=>?_)
    · intro B t tk e' s'' fly;exact aT fly.any fun h' a' u'=>hE B t tk e' _ s' F' _ (st'.weaken fun y b h=>by cases h) (fly.next a' u').z (fun Z h=>.inl h) (by have:=fly.gens;simp only[this];exact .rfl)
    · exact xT h (fun Z Z h=>h) fun Z Z h=>h.elim
end Mine
namespace Mine
variable {w:World}{W:Wd}{k:Nat}{env:Env}{it l n:Nat}{vs:List Value}{m:Str→Option Value}{s₀ s:Shared}{A:Around}
noncomputable abbrev KW:Str:="invalid grouping"
noncomputable def PB (env:Env)(it:Nat)(lenv:List Env):GenEnd:=fun k s₀ r s=>∃e B t tk s₁,r=.error (.ref e)∧lV env.locals it s₀ s₁∧UI B t tk (pO (env::lenv)) lenv s₁ s e KW
theorem PA {lenv:List Env}{j:Nat}{s':Shared}(ge:nA env)(st3:WG W env it l n vs j m s s')(hF:w9 s.heap lenv)(hLf:env.locals∉pO lenv)(hit:it=s.heap.objs.size):w9 s'.heap (env::lenv):=fun e he=>by
  rcases qG he with rfl | he
  · obtain⟨o,es,ep,ho,hd,_⟩:=st3.ns;exact⟨by rw[ge.sc];decide,_,o,ge.frame,ho,fun vs q=>by rw[hd] at q;cases q⟩
  · obtain⟨h1,L,o,hf,ho,hd⟩:=hF e he;refine⟨h1,L,o,hf,st3.since.keep L o (fun q=>hLf (q▸List.mem_filterMap.mpr ⟨e,he,hf⟩)) (fun q=>?_) ho,hd⟩;have:=qJ ho;rw[q,hit] at this;exact zK _ this
theorem KD {lenv:List Env}{Y:Protocol}(ok:bX W)(ge:nA env)(ap:FG W env it l)(hA:A.handled=none)(hfr:A.frames=some lenv)(hF:w9 s.heap lenv)(hLf:env.locals∉pO lenv)
    (hb:W.base.StaysIn s.heap)(hl:s.heap.get? l=some (listOf vs.toArray n))(hv:∃t,vs[0]?=some (.int 0 t))(hn:s.heap.Ns env.locals m)(hm:m ("grouping":Str)=some (.ref l))(hit:it=s.heap.objs.size) :
    Seg (model pw w) A (PB env it lenv) Y k s (.func (xC 14).body env) ((model pw w).den (.func (xC 14).body env)) [] s:=by
  refine seg_func (zB (yO (kI (s9 (dW ge hn rfl fun h' hn' hs=>?_)))));have hsz:h'.objs.size=it:=by rw[hs.1,hit]
  have hl':h'.get? l=some (listOf vs.toArray n):=(hs.2 _ ap.lL).trans hl;refine zB (ZK (uD ge hn' rfl ((if_neg (by decide)).trans hm) ?_) (by intro _;rfl));refine bY ⟨_,hl',rfl,_,rfl⟩ fun p=>?_;show Seg _ _ _ _ _ _ (.forLoop _ (.ref h'.objs.size) _ _ _) _ _ _;rw[hsz];obtain⟨t,hv⟩:=hv;have st:WG W env it l n vs 0 (fun y=>if y=("last_interval":Str) then some Value.none else m y) s {s with heap:=h'.push {cls:=.type "list_iterator",data:=.fields #[.ref l,.int 0 0]},toks:=s.toks+1}:=by
    refine⟨?_,?_,hn'.push _,?_,⟨?_,?_,xI _,rfl,rfl⟩⟩
    · exact fun a o e=>Heap.get?_push_of_some _ (p9 hb hs ap.bL a o e)
    · exact Heap.get?_push_of_some _ hl'
    · exact⟨_,by rw[← hsz];exact Heap.get?_push_size _ rfl,rfl,rfl⟩
    · exact fun a o h1 h2 e=>Heap.get?_push_of_some _ ((hs.2 a h1).trans e)
    · show _≤(h'.push _).objs.size;simp only[Heap.size_push,hs.1];exact(qR _ _)
  refine u6 (vY st.iter ⟨_,st.list,rfl,_,rfl⟩ (x:=.int 0 t) (by simpa using hv) fun h₂ hi hs₂=>?_);have st1:=st.next ap hi hs₂
  refine x7 (pA rfl _ _) ?_;refine yJ (dW ge st1.ns rfl fun h'' hn'' hs'=>?_);have st2:=st1.store ap hn'' hs';refine zB (tJ (YR ok ge st2.base st2.ns rfl (if_pos rfl) ?_));rw[if_neg (show ¬((0:Int)==127)=true by decide)];refine rO ?_;refine zB (tJ (YQ ge st2.ns rfl (if_pos rfl) ?_));have st3:=st2.tok;rw[if_pos (show((0:Int)==0)=true by exact rfl)];refine zB (tJ (iW (v:=.none) ge st3.ns rfl ((if_neg (by decide)).trans (if_pos rfl)) ?_));rw[if_pos (show(Value.none==Value.none)=true by exact rfl)];refine zB (yO (xT (cC (Q:=fun Z Z=>False) (E:=fun x s'=>Seg (model pw w) A (PB env it lenv) Y k s (.forLoop FX (.ref it) UB [] env) (.raise x) (ZS env p) s') (env:=env) (outer:=lenv) ok st3.base (by exact hA) (by show Option.map _ _=_;rw[hfr];rfl) (PA ge st3 hF hLf hit) (by rw[ge.sc];rfl) (by rw[ge.sc];rfl) ge.glob ge.blt ?_) (fun Z Z h=>h.elim) fun x s' h=>?_))
  · intro B tt tk e s' fly;refine seg_leaf (.error (.ref e)) ?_
    show Seg _ A _ Y k s _ (((do
      if(← field (.ref e) 1)==Value.none then unsupported "frame.own-activation:exception-without-traceback"
      setFlight (.ref e) env.frame:Sem Unit) >>= fun Z=>(.raise (.ref e):Sem Flow)).wrap _ (BJ env) id id) [] s'
    rw[Sem.bind_eq_wrap',Sem.wrap_wrap];refine yO (i4 fly.any fun h₅ a₅ u₅=>?_);show Seg _ A _ Y k s _ ((leaving env (.ref e)).wrap (fun Z=>.raise (.ref e)) .raise id id) [] _;refine yO (lG (s:={s' with heap:=h₅}) (env:=env) (outer:=lenv) (by show Option.map _ _=_;rw[hfr];rfl) ge.frame a₅ fun h₆ a₆ u₆=>?_);exact seg_end (.error (.ref e)) ⟨e,B,tt,tk,_,rfl,st3.since,(fly.next a₅ u₅).next a₆ u₆⟩
  · refine yO (qC (xT h (fun Z s₂ h₂=>wpAny_theTreesLotGoes h₂) fun Z Z h=>h.elim))
end Mine
namespace Mine
variable {w:World}{W:Wd}{k:Nat}{env:Env}{it l n:Nat}{vs:List Value}{m:Str→Option Value}{s₀ s:Shared}{A:Around}
theorem u4:isSubtype (.type "ValueError") (.type "StopIteration")=pure false:=by rw[isSubtype_type];kernel_rfl
theorem j9.typeIs {B:Heap}{l:List Env}{e t:Nat}{s:Shared}(x:j9 B l e t s.heap):s.TypeIs (.ref e) "ValueError":=by
  refine zS fun nG=>?_;obtain⟨oe,vs,T,he,hc,_⟩:=x.tracedback;refine nG ?_;exact⟨oe,he,hc⟩
section
variable {E:Value→Shared→Prop}{Q:Value→Shared→Prop}{lenv:List Env}
theorem tQ {a g k:Nat}{c:Code}{Y:Protocol}(hh:A.handled=none)(hl:s.heap.NoLimit)(hroom:A.depth<recursionLimit)(hg:s.heap.IsGen a g)(hgs:s.gens[g]?=some (.fresh c))
    (hgo:(GenState.fresh c).Goes (model pw w) A.in1 (PB env it lenv) Y k (.send .none) (s.setGen g .running))(hY:∀v s₁ κ,¬Y (k-1) (s.setGen g .running) v s₁ κ)
    (haL:a≠env.locals)(hai:a≠it)(haf:a∉pO (env::lenv))
    (hE:∀e s' B t tk s₁,lV env.locals it (s.setGen g .running) s₁→UI B t tk (pO (env::lenv)) lenv s₁ s' e KW→E (.ref e) (s'.setGen g .finished)) :
    wpAny (model pw w) A (Builtin.SmallTypes.nextOf (.ref a)) Q E s:=by
  unfold Builtin.SmallTypes.nextOf
  refine qC (wpAny_callSpecial?_slot (name:=Str.ofString "__next__") hg.typeIs slot_gen_next
    (jV slot_gen_next hg.typeIs entry_gen_next ?_ (args_gen_next _)))
  show wpAny _ _ (Builtin.Generator.genWake (.ref a) (.send .none)) _ _ s;unfold Builtin.Generator.genWake;refine qC (xS (wpAny_genNumber hg (qC (wpAny_genState hgs ?_))));refine qC (wpAny_roomToWake hl hroom ?_);show wpAny _ _ (.resume g (.send .none) [] _) _ _ s;refine wpAny_resumeQ hgs hgo (fun x s₁ hx=>?_) (fun v s₁ gs' hb hv=>absurd hv (hY _ _ _));refine zS fun nG=>?_;obtain⟨e,B,t,tk,s₂,rfl,si,fly⟩:=hx;refine nG ?_;show wpAny _ A.in1 (Builtin.Generator.genLeft (.ref a) (.ref e)) _ _ _;refine zS fun nG=>?_;obtain⟨o,nm,qn,ho,hcl,hdt,hsl⟩:=hg;refine nG ?_;unfold Builtin.Generator.genLeft Builtin.Generator.madeByALambda;refine qC (qC (pI (o:=o) (fly.any.1 _ _ (fly.keep a o haf (si.keep a o haL hai ho)):s₁.heap.get? a=some o) ?_));refine qI ?_;refine qC (z2 (T:="ValueError") (U:="StopIteration") (b:=false) (j9.typeIs (s:=s₁.setGen g .finished) fly.any) u4 ?_);rw[hdt];simp only[Bool.and_false,Bool.false_eq_true,if_false];unfold Builtin.Generator.genEscaped;refine qC (z2 (T:="ValueError") (U:="StopIteration") (b:=false) (j9.typeIs (s:=s₁.setGen g .finished) fly.any) u4 ?_);simp only[Bool.not_false,if_true];exact qC (mP (hE e s₁ B t tk s₂ si fly))
end
end Mine
namespace Mine
variable {w:World}{W:Wd}{k:Nat}{env:Env}{it l n:Nat}{vs:List Value}{m:Str→Option Value}{s₀ s:Shared}{A:Around}
variable {E:Value→Shared→Prop}{lenv:List Env}{z TI TO r ga g:Nat}{x left:Int}{a b:Value}{c:Code}
theorem QC {Q:Fin→Shared→Prop}(D:FD z TI TO r ga env.locals it)(rm:zZ 2 A)(hl0:s.heap.NoLimit)(hcz:cStatics≠z)(hcT:cStatics≠TO)(hcr:cStatics≠r)(hz:IsZip s.heap z TI TO .none)(hTI:IsPair s.heap TI (.ref r) (.ref ga))(hTO:IsPair s.heap TO a b)
    (hr:IsRangeIter s.heap r x left 1)(hleft:0<left)(hg:s.heap.IsGen ga g)(hgs:s.gens[g]?=some (.fresh c))
    (hgo:∀s',(∀c o,c≠z→c≠TO→c≠r→s.heap.get? c=some o→s'.heap.get? c=some o)→s'.heap.objs.size=s.heap.objs.size→(GenState.fresh c).Goes (model pw w) A.in1.in1 (PB env it lenv) (fun Z Z Z Z Z=>False) k (.send .none) s')
    (hXf:∀a∈pO lenv,a≠z∧a≠TO∧a≠r∧a≠env.locals∧a≠it∧a≠ga)(hfe:env.frame=some env.locals)
    (hE:∀e s' B t tk,hZ B t tk (z::TO::r::env.locals::it::pO (env::lenv)) lenv s s' e KW→s'.gens=(s.setGen g .finished).gens→E (.ref e) s') :
    wpAny (model pw w) A.in1 (Builtin.«zip.__next__» ⟨[.ref z],[]⟩) Q E s:=by
  show wpAny _ _ (field (.ref z) 2 >>= _) _ _ _;refine qC (zC hz rfl (x:=.bool false) rfl ?_);show wpAny _ _ (field (.ref z) 3 >>= _) _ _ _;refine qC (zC hz rfl (x:=.ref TI) rfl ?_);refine qC (kE hTI rfl ?_);show wpAny _ _ (Builtin.SmallTypes.ownedTupleIsFree (.ref z) >>= _) _ _ _;refine qC ?_;unfold Builtin.SmallTypes.ownedTupleIsFree;refine qC (zC hz rfl (x:=.none) rfl (qI ?_));simp only[if_true];refine qC (jO ?_);refine qC (zC hz rfl (x:=.ref TO) rfl ?_);refine qC (kA hz (by simp) fun h₁ hz₁ hs₁=>?_);replace hz₁:IsZip h₁ z TI TO .ellipsis:=hz₁;refine qC ?_;simp only[List.zipIdx_cons,List.zipIdx_nil,List.forIn_cons,List.forIn_nil];refine qC (qC (fI ?_));show wpAny _ _ (Builtin.SmallTypes.nextOf (.ref r) >>= _) _ _ _;refine qC (gW (x:=x) (left:=left) (step:=1) ((hs₁.2 _ D.rz).trans hr) hleft fun h₂ hr₂ hs₂=>qI ?_);have hTO₂:IsPair h₂ TO a b:=(hs₂.2 _ D.rTO.symm).trans ((hs₁.2 _ D.TOz).trans hTO);refine qC (kE hTO₂ rfl ?_);refine qC (mO hTO₂ fun h₃ hTO₃ hs₃=>?_);refine qC (ZB (qI ?_));have k₃:∀c o,c≠z→c≠TO→c≠r→s.heap.get? c=some o→h₃.get? c=some o:=fun c o c1 c2 c3 e=>(hs₃.2 _ c2).trans ((hs₂.2 _ c3).trans ((hs₁.2 _ c1).trans e));refine qC (qC (fI ?_));show wpAny _ _ (Builtin.SmallTypes.nextOf (.ref ga) >>= _) _ _ _;have hfc:pO (env::lenv)=env.locals::pO lenv:=yD hfe;have hgf:ga∉pO (env::lenv):=by
    rw[hfc];intro hm;rcases qG hm with h | h
    · exact D.gL h
    · exact(hXf ga h).2.2.2.2.2 rfl
  have hzf:z∉pO (env::lenv):=by
    rw[hfc];intro hm;rcases qG hm with h | h
    · exact D.Lz h.symm
    · exact(hXf z h).1 rfl
  refine qC (tQ (A:=A.in1) rm.handled (let⟨mc,hns,hnn⟩:=hl0;⟨mc,hns.at' fun o e=>k₃ _ _ hcz hcT hcr e,hnn⟩:h₃.NoLimit) rm.depth (let⟨o,nm,qn,ho,y⟩:=hg;⟨o,nm,qn,k₃ _ _ D.gz D.gTO D.gr ho,y⟩:h₃.IsGen ga g) hgs (hgo _ k₃ (by rw[hs₃.1,hs₂.1,hs₁.1]:h₃.objs.size=s.heap.objs.size)) (fun Z Z Z h=>h) D.gL D.gi hgf fun e s' B t tk s₁ si fly=>?_);have hzs:s₁.heap.get? z=some _:=si.keep _ _ D.Lz.symm D.iz.symm ((hs₃.2 _ D.TOz.symm).trans ((hs₂.2 _ D.rz.symm).trans hz₁):IsZip h₃ z TI TO .ellipsis);have hzB:B.get? z=some _:=fly.keep z _ hzf hzs;have fz:hZ B t tk (TO::r::z::env.locals::it::pO (env::lenv)) lenv s (s'.setGen g .finished) e KW:=by
    refine⟨fly.any,fly.tup,fly.tn,?_,fly.tk1,fun a o hn ho=>?_,fun a ha o ho hd=>?_,fly.os.trans si.os⟩
    · have:=si.toks;exact qB (zH this) fly.tk0
    · simp only[List.mem_cons,not_or] at hn;exact fly.keep a o hn.2.2.2.2.2 (si.keep a o hn.2.2.2.1 hn.2.2.2.2.1 (k₃ a o hn.2.2.1 hn.1 hn.2.1 ho))
    · obtain⟨c1,c2,c3,c4,c5,_⟩:=hXf a ha;exact fly.upto a o (si.keep a o c4 c5 (k₃ a o c1 c2 c3 ho)) hd
  refine kA (fly.any.1 _ _ hzB:IsZip s'.heap z TI TO .ellipsis) (by simp) fun h₅ Z hs₅=>?_;have fz2:=fz.turn (h':=h₅) hzB hs₅ fun hm=>(hXf z hm).1 rfl;refine hE e _ _ t tk ⟨fz2.any,fz2.tup,fz2.tn,fz2.tk0,fz2.tk1,fun a o hn ho=>fz2.keep a o (fun hm=>hn ?_) ho,fz2.upto,fz2.os⟩ ?_
  · simp only[List.mem_cons] at hm ⊢;rcases hm with h | h | h | h | h | h | h
    · exact .inl h
    · exact .inr (.inl h)
    · exact .inr (.inr (.inl h))
    · exact .inl h
    · exact .inr (.inr (.inr (.inl h)))
    · exact .inr (.inr (.inr (.inr (.inl h))))
    · exact .inr (.inr (.inr (.inr (.inr h))))
  · show(s'.setGen g .finished).gens=_;unfold Shared.setGen;rw[fly.gens,si.gens];simp[Shared.setGen]
theorem tM {f0:Value}{Q:Option Value→Shared→Prop}{Ee:Value→Shared→Prop}(hz:IsZip s.heap z TI TO f0)
    (h:wpAny (model pw w) A.in1 (Builtin.«zip.__next__» ⟨[.ref z],[]⟩) (fun Z Z=>False) Ee s)
    (hS:∀e s',Ee e s'→∃a,e=.ref a∧s'.TypeIs (.ref a) "ValueError"∧E e s'):wpAny (model pw w) A (pyNext (.ref z)) Q E s:=by
  have hT:s.TypeIs (.ref z) "zip":=⟨_,hz,rfl⟩;unfold pyNext
  refine qC (wpAny_attempt (wpAny_callSpecial?_slot (name:=Str.ofString "__next__") hT nW
    (jV nW hT F.entry_zip_next (xT h (fun fin s' hf=>hf.elim) fun e s' he=>?_) (F.args_zip_next_1 _))))
  obtain⟨a,rfl,ht,hq⟩:=hS e s' he;refine qC (z2 (T:="ValueError") (U:="StopIteration") (b:=false) ht u4 ?_);exact mP hq
end Mine
namespace Mine
variable {w:World}{W:Wd}{k:Nat}
theorem JO (ok:bX W){r:List Int}{most:Nat}(hmm:most≤1000)(hm0:0<most){a:Nat}(fn29:mA W (xC 29) a):sR w W (k+5) (.ref a) [.dat (.list (((0:Int)::r).map Dat.int)),.dat (.int (most:Int))] KW:=by
  refine cB fn29 ["sizes","most"] (fun Z Z Z=>gQ fun Z Z=>rfl) (by exact rfl) (by decide) rfl ?_;intro s₀ F₀ env s F A outer Q₀ E hsc hf b₀ st rm hfr hFo hoff hE;refine xP (vZ ?_);generalize hnsE:((0:Int)::r)=ns at st ⊢;rw[eval_ListComp];have okS:=tK (sc:=(xC 29).scope) (scope:=⟨.function,[(".0",.local),("k",.local),("size",.local)],false,false,[]⟩) (by exact rfl);refine fJ rfl (by intro _;rfl) (uJ (scope:=⟨.function,[(".0",.local),("k",.local),("size",.local)],false,false,[]⟩) (env:=env) (fun x hx hf=>by simp at hx;rcases hx with rfl | rfl | rfl<;>cases hf)) okS.kind okS.loc ?_;have e:∀{y:Str} {p pos:Pos} {es:List Expr},eval (.Call (.Name y p) es [] pos) env=(do callWith pos (← eval (.Name y p) env) [] (backTo pos (starEach es env)) []):=rfl;show wpAny (model pw w) A (eval (.Call (.Name ("zip":Str) _) [_,_] [] _) env) _ _ s;rw[e];have hBz:kZ W (xC 29).scope ("zip":Str) (.type "zip"):=zA ok (by decide) rfl (by decide +kernel);have hBr:kZ W (xC 29).scope ("range":Str) (.type "range"):=zA ok (by exact .tail _ (.head _)) rfl (by decide +kernel);refine qC (wN st (hsc▸hBz.kind) hBz.glob hBz.boot hBz.nn ?_ hBz.nd);refine wZ rfl (evalArgs_plain (spliced_cons ?_));refine jB hBr.kind hBr.glob hBr.boot hBr.nn hBr.call (qE (qD rfl) qN) (by intro _;rfl) hBr.nd hsc st rm fun vs s₁ F₁ g₁ hv=>?_;refine w8.e1 hv fun Z h1=>?_;refine xQ.eInt h1 fun t₀ hm=>?_;refine call_range_1 ?_;let oR:Obj:={cls:=.type "range",data:=.fields #[.int 0 s₁.toks,.int (most:Int) t₀,.int 1 (s₁.toks+1)]};have g₂:q0 W s₁ {s₁ with heap:=s₁.heap.push oR,toks:=s₁.toks+1+1} F₁ (F₁.ob s₁.heap.objs.size oR):=q0.push ((st.step g₁).base) oR (by exact(qW (qR _ _))) rfl;have st₂:=(st.step g₁).step g₂;refine spliced_cons ?_;refine zS fun nG=>?_;obtain⟨a,fn⟩:=ok.fns 14 (by decide);obtain⟨o,pm,code,doc,ho,hd,_⟩:=id fn.obj;refine nG ?_;refine aP (xs:=[.dat (.list (ns.map Dat.int))]) (vU rfl fn.glob) ho hd (qE (qD rfl) qN) hsc st₂ rm (by intro _;rfl) fun vs s₃ F₃ g₃ hv=>?_;refine w8.e1 hv fun Z h1=>?_;refine xQ.eList h1 fun l vs n hl hvs=>?_;have st₃:=st₂.step g₃;refine o0 (k:=k+3) fn st₃.base (rm.mono (by exact(qH _))) fun genv ga oL nm qn s₄ gm=>?_;refine spliced_nil ?_;show wpAny _ A (call (.type "zip") [.ref s₁.heap.objs.size,.ref ga]) _ _ s₄;refine nS (gm.keep _ _ (st₃.base.has _ (g₃.sub.obs _ (.head _))):IsRange s₄.heap s₁.heap.objs.size 0 (most:Int) 1 s₁.toks t₀ (s₁.toks+1)) (small_one (by decide) (by decide) (by exact(B8 (by decide))) (by exact(lX hmm (by decide))):Builtin.Range.small 0 (most:Int) 1=true) (⟨_,_,_,gm.gen,rfl,rfl,rfl⟩:s₄.heap.IsGen ga s₃.gens.size) fun h₅ hz hTI hTO hri hz5 hk5=>?_;refine yY hz ?_;have hacc:∀(s:Shared) (Q:Value→Shared→Prop),Q (.ref s.heap.objs.size) {s with heap:=s.heap.push (listOf ([]:List Value).toArray 0)}→wpAny (model pw w) A (newList []) Q E s:=fun s Q h=>zF h;refine hacc _ _ ?_;refine jJ okS.cell (by intro y hy;simp at hy) (fun h₁ hns hsb=>?_) okS.kind;dsimp only at hns hsb ⊢;rw[show(h₅.push (listOf ([]:List Value).toArray 0)).objs.size=h₅.objs.size+1 by simp] at hns hsb ⊢;rw[(by rw[m9,hsc]:relabel ⟨.function,[(".0",.local),("k",.local),("size",.local)],false,false,[]⟩ env=vM (xC 29).scope ⟨.function,[(".0",.local),("k",.local),("size",.local)],false,false,[]⟩)];let scope:Scope:=⟨.function,[(".0",.local),("k",.local),("size",.local)],false,false,[]⟩;let cenv:Env:={newEnv scope (h₅.objs.size+1) env.globals (pZ env.cells scope.names) env.qual none .none (some env) env.builtins with scope:=vM (xC 29).scope scope};let oG:Obj:={cls:=.type "generator",data:=.fields #[.int s₃.gens.size 0,nm,qn],slots:=#[]};let s₅:Shared:={s₄ with heap:=h₅};have keep45:∀c o,s₃.heap.get? c=some o→h₅.get? c=some o:=fun c o e=>hk5 _ _ (gm.keep _ _ e);have sz5:s₃.heap.objs.size≤h₅.objs.size:=by rw[hz5];have:=gm.size;exact(xA this)
  have off3:∀a,s₃.heap.objs.size≤a→a≠ga→∀q∈([(ga,oG)]++F₃.obs:yW),q.1≠a:=fun a ha hg q hq=>by
    rcases qP hq with hq | hq
    · cases qF hq;exact xW hg
    · exact fun e=>absurd (qJ (st₃.base.has q hq)) (xB (e▸ha))
  have galt:ga<s₄.heap.objs.size:=qJ gm.gen;have Llt:@LT.lt Nat _ genv.locals s₄.heap.objs.size:=qJ gm.L;have sz4:=gm.size;have hN:∀p∈uZ (s₄.heap.objs.size+3) (s₄.heap.objs.size+1) (s₄.heap.objs.size+2) s₄.heap.objs.size ga .none .none 0 most++[(genv.locals,oL)],h₅.get? p.1=some p.2∧s₃.heap.objs.size≤p.1∧∀q∈([(ga,oG)]++F₃.obs:yW),q.1≠p.1:=fun p hp=>by
    rcases qP hp with hp | hp
    · simp only[uZ,List.mem_cons,List.not_mem_nil,or_false] at hp;rcases hp with rfl | rfl | rfl | rfl
      · exact⟨hz,by show _≤s₄.heap.objs.size+3;exact(xA sz4),off3 _ (by show _≤s₄.heap.objs.size+3;exact(xA sz4)) (by show s₄.heap.objs.size+3≠ga;exact(xE (qK galt (qR _ _))))⟩
      · exact⟨hTO,by show _≤s₄.heap.objs.size+2;exact(xA sz4),off3 _ (by show _≤s₄.heap.objs.size+2;exact(xA sz4)) (by show s₄.heap.objs.size+2≠ga;exact(xE (qK galt (qR _ _))))⟩
      · refine⟨?_,by show _≤s₄.heap.objs.size;omega,off3 _ (by show _≤s₄.heap.objs.size;omega) (by show s₄.heap.objs.size≠ga;exact(xE galt))⟩;have hri':=hri;rw[y8] at hri';rw[(by exact rfl:(((((most:Int)-0).toNat:Nat):Int))=(most:Int)-((0:Nat):Int))] at hri';exact hri'
      · exact⟨hTI,by show _≤s₄.heap.objs.size+1;exact(qW sz4),off3 _ (by show _≤s₄.heap.objs.size+1;exact(qW sz4)) (by show s₄.heap.objs.size+1≠ga;exact(xE (qO (qU galt))))⟩
    · cases qF hp;exact⟨hk5 _ _ gm.L,gm.Lnew,off3 _ gm.Lnew (xW gm.gL)⟩
  have st₅:=f9 (P:=[]) (N:=uZ (s₄.heap.objs.size+3) (s₄.heap.objs.size+1) (s₄.heap.objs.size+2) s₄.heap.objs.size ga .none .none 0 most++[(genv.locals,oL)]) (s₂:=s₅) (o:=listOf ([]:List Value).toArray 0) (t:=s₄.toks+([]:List (Str×Value)).length) st₃ hsc okS (q0.of_keeps [(ga,oG)] st₃.base keep45 (fun p hp=>by cases qF hp;exact⟨hk5 _ _ gm.gen,gm.gnew⟩) sz5 gm.toks gm.os (by show zQ _ s₄.gens;rw[gm.gens];exact bO rfl):q0 W s₃ s₅ F₃ ⟨[(ga,oG)]++F₃.obs,F₃.tks⟩) hN rfl cenv hns hsb rfl rfl rfl rfl rfl (by simp[s₅]);have D5:eJ (s₄.heap.objs.size+3) (s₄.heap.objs.size+1) (s₄.heap.objs.size+2) s₄.heap.objs.size genv.locals:=by
    have hn:∀{a b:Nat},a≠b→a≠b:=fun h=>h;constructor<;>(refine hn ?_;(first | exact(xE (qO (qU Llt))) | exact(xE (qO (qH _))) | exact(qM (qK Llt (qR _ _))) | exact(qM (qO (qR _ _))) | exact(qM (qO (qH _))) | exact(qM (qO (xI _))) | exact(qM Llt)))
  suffices loop:codeAny (model pw w) A (.compLoop (.ListComp _ [⟨_,_,[],0⟩] _ _) 0 (.ref (s₄.heap.objs.size+3)) (.ref h₅.objs.size) cenv) (compPost (model pw w) A E none _ (.ref h₅.objs.size) cenv.locals) {s₅ with heap:=h₁,toks:=s₄.toks+([]:List (Str×Value)).length} from
    codeAny_compStart_list loop (yY (f0:=.none) (st₅.prv _ (.head _)).1 loop)
  have gt3:∀{a:Nat} {o:Obj},s₃.heap.get? a=some o→@LT.lt Nat _ a s₃.heap.objs.size:=fun e=>qJ e;have hn:∀{a b:Nat},a≠b→a≠b:=fun h=>h;have Ln:@LE.le Nat _ s₃.heap.objs.size genv.locals:=gm.Lnew;have galt':@LT.lt Nat _ ga s₄.heap.objs.size:=galt;have gLne:@Ne Nat ga genv.locals:=gm.gL;have hz1:h₁.objs.size=h₅.objs.size+2:=by rw[hsb.1];simp
  have keep36:∀c o,s₃.heap.get? c=some o→h₁.get? c=some o:=fun c o e=>by
    refine(hsb.2 _ ?_).trans (Heap.get?_push_of_some _ (Heap.get?_push_of_some _ (keep45 c o e)));refine hn ?_;exact(qM (bW [c,h₅.objs.size,s₄.heap.objs.size,s₃.heap.objs.size] [] (.e (.v 1) (.p (.v 2) (.n 4))) (.l (.v 3) (.v 2)) (.t (.v 0) (.v 3)) [-1,1,1] (.t (.v 0) (.p (.v 1) (.n 1))) 1 rfl hz5 sz4 (gt3 e)))
  have frlt:∀a∈pO (env::outer),@LT.lt Nat _ a s₃.heap.objs.size:=fun a ha=>by
    obtain⟨o,ho,_⟩:=(bP st₃ b₀ hFo hf).mem ha;exact gt3 ho
  have hbs:W.base.objs.size≤s₃.heap.objs.size:=st₃.base.size;have bn:∀a,s₃.heap.objs.size≤a→W.base.get? a=none:=fun a ha=>x4 (qB hbs ha);have llt:=gt3 (st₃.base.has _ hl);refine codeAny_of_tree ?_;show wpAny _ A ((compTurn _ 0 (.ref (s₄.heap.objs.size+3)) (.ref h₅.objs.size) cenv).onRaise (fun x=>do noteFrame x cenv;theTreesLotGoes x)) _ _ _;refine wpAny_noted ?_;show wpAny _ A (standAt _ >>= fun Z=>pyNext (.ref (s₄.heap.objs.size+3)) >>= _) _ _ _;refine qC (wA ?_);have hz₆:IsZip h₁ (s₄.heap.objs.size+3) (s₄.heap.objs.size+1) (s₄.heap.objs.size+2) .none:=(st₅.prv _ (.head _)).1;have cne:∀a,s₃.heap.objs.size≤a→cStatics≠a:=fun a ha e=>by
    obtain⟨mc,hcs,_⟩:=W.nolimit;exact absurd (e▸hcs.lt) (xB (qB hbs ha))
  have ZA:FD (s₄.heap.objs.size+3) (s₄.heap.objs.size+1) (s₄.heap.objs.size+2) s₄.heap.objs.size ga genv.locals h₁.objs.size:=by
    constructor<;>(refine hn ?_;(first | exact(xE (qO (qU Llt))) | exact(xE (qO (qH _))) | exact(qM (qK Llt (qR _ _))) | exact(qM (qK galt (qR _ _))) | exact(qM (qO (qR _ _))) | exact(qM (qO (qH _))) | exact(qM (qO (xI _))) | exact(qM Llt) | exact(qM galt) | lia | grind | omega))
  obtain⟨vv,hvv1,hvv2⟩:=hvs.get (k:=0) (d:=.int 0) (by rw[← hnsE];rfl);obtain⟨mg,hmg1,hmg2⟩:=gm.ns;refine qC (tM (Ee:=fun e s'=>∃a,e=.ref a∧s'.TypeIs (.ref a) "ValueError"∧_) hz₆ (QC (k:=0) (env:=genv) (lenv:=env::outer) (it:=h₁.objs.size) (s:={s₅ with heap:=h₁,toks:=s₄.toks+([]:List (Str×Value)).length}) ZA (rm.mono (by exact(vH _ _))) (W.nolimit.keeps st₅.base.base:h₁.NoLimit) (cne _ (by exact(xA sz4))) (cne _ (by exact(xA sz4))) (cne _ (by omega)) hz₆ ((st₅.prv _ (.tail _ (.tail _ (.tail _ (.head _))))).1:IsPair h₁ (s₄.heap.objs.size+1) (.ref s₄.heap.objs.size) (.ref ga)) ((st₅.prv _ (.tail _ (.head _))).1:IsPair h₁ (s₄.heap.objs.size+2) .none .none) ((st₅.prv _ (.tail _ (.tail _ (.head _)))).1:IsRangeIter h₁ s₄.heap.objs.size ((0:Nat):Int) ((most:Int)-((0:Nat):Int)) 1) (by exact(zT [_] [] (.t (.n 0) (.v 0)) [1] (.T (.n 0) (.s (.c (.v 0)) (.c (.n 0)))) 1 rfl hm0)) (⟨_,_,_,st₅.base.has _ (.head _),rfl,rfl,rfl⟩:h₁.IsGen ga s₃.gens.size) (c:=.func (xC 14).body genv) (by show s₄.gens[s₃.gens.size]?=_;rw[gm.gens];exact Array.getElem?_push_size ..) (fun s' hk hzz=>⟨rfl,?_⟩) (fun a ha=>?_) gm.ge.frame (fun e s' B t tk fly hgn=>⟨e,rfl,fly.any.typeIs,?_⟩)) fun e s' h=>h)
  · have kk:∀c o,s₃.heap.get? c=some o→s'.heap.get? c=some o:=fun c o e=>by
      have h1:=gt3 e;refine hk c o ?_ ?_ ?_ (keep36 c o e)<;>(refine hn ?_;(first | exact(qM (qK h1 (xA sz4))) | exact(qM (qK h1 sz4))))
    have kL:∀o,s₄.heap.get? genv.locals=some o→s'.heap.get? genv.locals=some o:=fun o e=>by
      refine hk _ o ?_ ?_ ?_ ((hsb.2 _ ?_).trans (Heap.get?_push_of_some _ (Heap.get?_push_of_some _ (hk5 _ _ e))))<;>(refine hn ?_;(first | exact(qM (qK Llt (qR _ _))) | exact(qM Llt) | exact(qM (kN [genv.locals,h₅.objs.size,s₄.heap.objs.size] [] (.e (.v 1) (.p (.v 2) (.n 4))) (.t (.v 0) (.v 2)) [-1,1] (.t (.v 0) (.p (.v 1) (.n 1))) 1 rfl hz5 Llt))))
    refine KD (A:=A.in1.in1) (m:=mg) (n:=n) ok gm.ge ⟨bn _ Ln,bn _ ?_,?_,?_,?_⟩ rm.handled hfr ?_ (fun hm=>?_) (fun a o e=>kk a o (st₃.base.base a o e)) (kk _ _ (st₃.base.has _ hl)) (by cases hvv2 with | int _=>exact⟨_,hvv1⟩:∃t,vs[0]?=some (.int 0 t)) (hmg1.at' fun o e=>kL o e) hmg2 hzz.symm
    · exact(bW [s₃.heap.objs.size,h₁.objs.size,h₅.objs.size,s₄.heap.objs.size] [] (.e (.v 2) (.p (.v 3) (.n 4))) (.l (.v 0) (.v 3)) (.e (.v 1) (.p (.v 2) (.n 2))) [-1,1,-1] (.l (.v 0) (.v 1)) 1 rfl hz5 sz4 hz1)
    · refine hn ?_;exact(qM (qK llt Ln))
    · refine hn ?_;exact(qM (ZP [(l,PySem.W.listOf vs.toArray n).fst,h₁.objs.size,h₅.objs.size,s₄.heap.objs.size,s₃.heap.objs.size] [] (.e (.v 2) (.p (.v 3) (.n 4))) (.l (.v 4) (.v 3)) (.e (.v 1) (.p (.v 2) (.n 2))) (.t (.v 0) (.v 4)) [-1,1,-1,1] (.t (.v 0) (.v 1)) 1 rfl hz5 sz4 hz1 llt))
    · refine hn ?_;grind
    · intro e' he';refine zS fun nG=>?_;obtain⟨h1,L,o,hf',ho,hd'⟩:=bP st₃ b₀ hFo hf e' he';refine nG ?_;exact⟨h1,L,o,hf',kk _ _ ho,hd'⟩
    · have:=frlt _ hm;exact(WZ _ _ this Ln)
  · have:=frlt a ha;refine⟨?_,?_,?_,?_,?_,?_⟩<;>(refine hn ?_;(first | exact(qM (qK this (xA sz4))) | exact(qM (qK this Ln)) | exact(qM (qK this (gm.gnew:@LE.le Nat _ s₃.heap.objs.size ga))) | exact(qM (qK this sz4)) | exact(qM (ZP [a,h₁.objs.size,h₅.objs.size,s₄.heap.objs.size,s₃.heap.objs.size] [] (.e (.v 2) (.p (.v 3) (.n 4))) (.l (.v 4) (.v 3)) (.e (.v 1) (.p (.v 2) (.n 2))) (.t (.v 0) (.v 4)) [-1,1,-1,1] (.t (.v 0) (.v 1)) 1 rfl hz5 sz4 hz1 this))))
  · have hfg:pO (genv::env::outer)=genv.locals::pO (env::outer):=yD gm.ge.frame;refine zS fun nG=>?_;obtain⟨mC,oC,esC,epC,hoC,hC2⟩:=id st₅.ns;refine nG ?_;have hCX:h₅.objs.size+1∉(s₄.heap.objs.size+3)::(s₄.heap.objs.size+2)::s₄.heap.objs.size::genv.locals::h₁.objs.size::pO (genv::env::outer):=fun hm=>by
      rw[hfg] at hm;simp only[List.mem_cons] at hm;rcases hm with h | h | h | h | h | h | h
      · exact(nF2 [h₅.objs.size,s₄.heap.objs.size] [] (.e (.v 0) (.p (.v 1) (.n 4))) (.e (.p (.v 0) (.n 1)) (.p (.v 1) (.n 3))) [-1,1] rfl hz5 h)
      · exact(nF2 [h₅.objs.size,s₄.heap.objs.size] [] (.e (.v 0) (.p (.v 1) (.n 4))) (.e (.p (.v 0) (.n 1)) (.p (.v 1) (.n 2))) [-1,1] rfl hz5 h)
      · exact(nF2 [h₅.objs.size,s₄.heap.objs.size] [] (.e (.v 0) (.p (.v 1) (.n 4))) (.e (.p (.v 0) (.n 1)) (.v 1)) [-1,1] rfl hz5 h)
      · have h':@Eq Nat (h₅.objs.size+1) genv.locals:=h;exact(HA [h₅.objs.size,s₄.heap.objs.size,genv.locals] [] (.e (.v 0) (.p (.v 1) (.n 4))) (.t (.v 2) (.v 1)) (.e (.p (.v 0) (.n 1)) (.v 2)) [-1,1,1] rfl hz5 Llt h)
      · exact(WZ _ _ (qO (qL h.symm)) (qL hz1.symm))
      · have h':@Eq Nat (h₅.objs.size+1) genv.locals:=h;exact(HA [h₅.objs.size,s₄.heap.objs.size,genv.locals] [] (.e (.v 0) (.p (.v 1) (.n 4))) (.t (.v 2) (.v 1)) (.e (.p (.v 0) (.n 1)) (.v 2)) [-1,1,1] rfl hz5 Llt h)
      · have:=frlt _ h;exact(HA [h₅.objs.size,s₄.heap.objs.size,s₃.heap.objs.size] [] (.e (.v 0) (.p (.v 1) (.n 4))) (.l (.v 2) (.v 1)) (.t (.p (.v 0) (.n 1)) (.v 2)) [-1,1,1] rfl hz5 sz4 this)
    have hCB:B.get? (h₅.objs.size+1)=some oC:=fly.keep _ _ hCX (hoC:h₁.get? (h₅.objs.size+1)=some oC);refine YS (env₀:=env) (outer:=outer) hfr hf rfl fly.any fun h' a' u'=>?_;refine⟨mC,⟨oC,esC,epC,a'.1 _ _ hCB,hC2⟩,fun h'' hs'' cenv' hce=>?_⟩;have fly2:=(fly.next a' u').turn (h':=h'') hCB hs'' (fun hm=>by have:=frlt _ hm;exact(HA [h₅.objs.size,s₄.heap.objs.size,s₃.heap.objs.size] [] (.e (.v 0) (.p (.v 1) (.n 4))) (.l (.v 2) (.v 1)) (.t (.p (.v 0) (.n 1)) (.v 2)) [-1,1,1] rfl hz5 sz4 this));refine XF (l:=env::outer) (s:={s' with heap:=h''}) fly2.any fun h₇ a₇ u₇=>?_;refine hE _ t tk e _ s₃ F₃ _ (st₃.weaken fun y b h=>by cases h) ((fly2.next a₇ u₇).before keep36 (by show _≤s₄.toks+_;have:=gm.toks;simp;exact this) gm.os) (fun a ha=>?_) ?_
    · have new:∀a,s₃.heap.objs.size≤a→s₀.heap.objs.size≤a∧∀p∈F₃.obs,p.1≠a:=fun a h=>⟨qB st₃.grow.size h,fun p hp e=>absurd (qJ (st₃.base.has p hp)) (xB (e▸h))⟩;rw[hfg] at ha;simp only[List.mem_cons] at ha;rcases ha with rfl | rfl | rfl | rfl | rfl | rfl | rfl | h
      · exact .inr (new _ (by exact(qW (qB sz4 (Q5 (qL hz5.symm))))))
      · exact .inr (new _ (by exact(xA sz4)))
      · exact .inr (new _ (by exact(xA sz4)))
      · exact .inr (new _ (by omega))
      · exact .inr (new _ Ln)
      · exact .inr (new _ (by lia))
      · exact .inr (new _ Ln)
      · exact .inl h
    · show zQ s₃.gens s'.gens;refine pK (g:=s₃.gens.size) (gs':=.finished) (s:={s₅ with heap:=h₁,toks:=s₄.toks+([]:List (Str×Value)).length}) ?_ (qH _) rfl hgn;show zQ _ s₄.gens;rw[gm.gens];exact bO rfl
end Mine
namespace Mine
variable {w:World}{W:Wd}{k:Nat}
noncomputable def V7 (w:World)(W:Wd)(k:Nat)(f:Value)(xs:List V)(msg:Str):Prop :=
  ∀s F vs,wC W s F→w8 pw w F vs xs→∀(A:Around) (l:List Env) (Q:Value→Shared→Prop) (E:Value→Shared→Prop),zZ k A→A.frames=some l→w9 s.heap l→(∀p∈F.obs,p.1∉pO l)→(∀a∈pO l,W.base.get? a=none) →
    (∀v s' F',zX W (pO l) s s' F F'→(∀a∈pO l,∀o,s.heap.get? a=some o→∃sl,s'.heap.get? a=some {o with slots:=sl})→xQ F' v (.str msg)→Q v s')→wpAny (model pw w) A (call f vs) Q E s
section
variable {prog:Program}{sc:Scope}{fn:Bool}{Γ:xK}
theorem PI {body:List Stmt}{h₀:ExceptHandler}{hs:List ExceptHandler}{pos:Pos}{x:V}(h:Ex prog w W k sc fn Γ body (.ret x)):nX prog w W k sc fn Γ (.Try body (h₀::hs) [] [] pos) (.ret x) :=
  fun fr P s F hsc st A Q E rm q=>wpAny_Try_except (h fr P s F hsc st A _ _ rm fun fl s' F' ho hF=>by
    obtain⟨v,rfl,h1⟩:=ho;exact q _ s' F' ⟨v,rfl,h1⟩ hF)
end
theorem JN {b:Nat}{o:Obj}{fd:FuncData}{x y r:V}(ho:W.base.get? b=some o)(hd:o.data=.func fd)(hc:Calls pw w W k (.ref b) [x,y] r):jM w W (k+1) 31 [.ref b,x,y] r :=
  kX ["deed","one","two"] (fun Z Z Z=>YC fun Z Z Z=>rfl) (by exact rfl) (by decide) rfl
    (xR (PI (xR (xN (Z0 (qD rfl) ho hd (qE (qD rfl) (qE (qD rfl) qN)) hc)))))
theorem eY:isSubtype (.type "ValueError") (.type "BaseException")=pure true:=by rw[isSubtype_type];kernel_rfl
theorem eX:isSubtype (.type "ValueError") (.type "ValueError")=pure true:=by rw[isSubtype_type];kernel_rfl
theorem aB:isSubtype (.type ((Manifest.find? "ValueError").elim "type" fun x=>x.metatype)) (.type "tuple")=pure false:=by
  rw[(by decide +kernel:((Manifest.find? "ValueError").elim "type" fun x=>x.metatype)="type")];exact tc_notTuple
theorem VO (ok:bX W){b a:Nat}{o:Obj}{fd:FuncData}{x y:V}{msg:Str}(ho:W.base.get? b=some o)(hd:o.data=.func fd)(hr:sR w W k (.ref b) [x,y] msg)(fn:mA W (xC 31) a):V7 w W (k+1) (.ref a) [.ref b,x,y] msg:=by
  intro s F vs b₀ hv A outer Q E rm hfr hFo hoff hfb q;refine zS fun nG=>?_;obtain⟨o',pm,code,doc,ho',hd',hc⟩:=fn.obj;refine nG ?_;refine wD ?_;have vl:=hv.length;refine vI ?_;refine codeAny_call_function (fd:=docDef (xC 31).name (xC 31).params (xC 31).body (xC 31).scope pm code doc) rm.depth (b₀.base _ _ ho') hd' rfl rfl rfl (hc.keeps b₀.base) ?_;rw[(fun Z Z Z=>YC fun Z Z Z=>rfl:∀pm code doc (vs:List Value),vs.length=3→bindArgs (docDef (xC 31).name (xC 31).params (xC 31).body (xC 31).scope pm code doc) ⟨vs,[]⟩=pure ((["deed","one","two"]:List Str).zip vs)) _ _ _ _ vl];have hbm:((["deed","one","two"]:List Str).zip vs).map (·.1)=(["deed","one","two"]:List Str):=by
    rw[List.map_fst_zip];simp at vl ⊢; exact(qL vl.symm)
  have key:∀x∈(["deed","one","two"]:List Str).zip vs,(xC 31).scope.names.lookup x.1=some .local:=fun x hx=>by
    have:=(z0 hx).1;simp at this;rcases this with h | h | h<;>rw[h]<;>rfl
  refine qI (wD (z9 rfl (fun x hx=>.inl (key x hx)) fun env he s₁ X hz1 ht1=>?_));have es:env.scope=(xC 31).scope:=by rw[he];rfl
  have st:St pw w W ⟨s,F,env⟩ true ((["deed","one","two"]:List Str).zip ([V.ref b,x,y].map Bd.val)) [] s₁ F:=y5 (sc:=(xC 31).scope) (binds:=(["deed","one","two"]:List Str).zip vs) b₀ hz1 ht1 (by rw[he];rfl) (by rw[he];rfl) es rfl ⟨s.heap.objs.size+1,by rw[he];rfl⟩ X (by simp only[hbm];decide) fun y bd hy=>by
    refine zS fun nG=>?_;obtain⟨h1,x,v,e1,e2,e3⟩:=wW hv hy;refine nG ?_;refine⟨.inl ?_,x,v,e1,e2,e3⟩;simp at h1;rcases h1 with h | h | h<;>rw[h]<;>rfl
  refine⟨W.nolimit.keeps (fun a o e=>X.toInCall.keep a o (b₀.base a o e)),codeAny_func ?_⟩;have hf:env.frame=some env.locals:=by rw[he];rfl
  have hfr':(A.deeper env).frames=some (env::outer):=s5 hfr;have rm':zZ k (A.deeper env):=rm.deeper env;refine xP (wpAny_Try_except (xP (vZ ?_)));refine aP (xs:=[x,y]) (qD rfl) ho hd (qE (qD rfl) (qE (qD rfl) qN)) es st rm' (by intro _;rfl) fun vs₂ s₂ F₂ g₂ hv₂=>?_;have st₂:=st.step g₂;have hFk:=bP st₂ b₀ hFo hf;have hoff₂:∀p∈F₂.obs,p.1∉pO (env::outer):=fun p hp hm=>by
    rw[yD hf] at hm;rcases qG hm with h | h
    · exact st₂.nsF p hp h
    · rcases st₂.grow.new p hp with h1 | h1
      · exact hoff p h1 h
      · obtain⟨o,ho,_⟩:=hFo.mem h;exact absurd (qJ ho) (xB h1)
  refine hr s₂ F₂ vs₂ st₂.base hv₂ _ (env::outer) _ _ rm' hfr' hFk hoff₂ fun B t tk e s₃ F₃ fl=>?_;refine tW hfr' hf fl.any fun h₄ a₄ u₄=>?_;refine gC (s:={s₃ with heap:=h₄}) a₄ fun h₅ a₅ u₅=>?_;have BL:B.get? env.locals=none:=by
    refine zS fun nG=>?_;obtain⟨_,_,⟨_,⟨L,_,hL,hn,_⟩,_⟩,_⟩:=fl.any;refine nG ?_;rw[hf] at hL;cases hL;exact hn
  have Bbase:W.base.StaysIn B:=fun a o e=>fl.keep a o (Wd.not_tab e) (fun hm=>by
    rw[yD hf] at hm;rcases qG hm with h | h
    · have:W.base.get? env.locals=none:=x4 (qB st₂.bsize st₂.nsNew);rw[h,this] at e;cases e
    · rw[hfb a h] at e;cases e) (st₂.base.base a o e)
  refine wpAny_handleBy_builtin_as (X:="ValueError") (T:="ValueError") (b:=true) eY aB eX ?_;have hkind:env.scope.kind=.function:=by rw[es];rfl
  refine Name_function_global hkind (by show env.scope.names.lookup _=_;rw[es];rfl) (loadGlobal_builtin (by rw[st₂.glob];exact W.g.keeps (fun a o e=>a₅.1 _ _ (Bbase a o e))) (ok.free _ (by decide)) (by rw[st₂.blt];exact W.b.keeps (fun a o e=>a₅.1 _ _ (Bbase a o e))) ((W.builtins _ (by decide)).trans (by decide +kernel:bootBuiltins ("ValueError":Str)=some (.type "ValueError"))) ⟨rfl,j9.typeIs (s:={s₃ with heap:=h₅}) a₅,?_⟩);show wpAny _ _ (setFlight (.ref e) none) _ _ _;refine gC (s:={s₃ with heap:=h₅}) a₅ fun h₆ a₆ u₆=>?_;refine zS fun nG=>?_;have fl6:=((fl.next hFk a₄ u₄).next hFk a₅ u₅).next hFk a₆ u₆
  obtain⟨mL,oL,esL,epL,hoL,hdL,hL3⟩:=st₂.ns;obtain⟨sl,hL6⟩:=fl6.upto env.locals (by rw[yD hf];exact .head _) oL hoL;obtain⟨oe,ws,T,heo,hecls,hedat,he1,he0⟩:=a₆.tracedback;obtain⟨ot,nt,hto,htcls,htdat⟩:=fl6.tup;refine nG ?_;have eL:e≠env.locals:=fun q=>by
    rw[q] at heo;have:=heo.symm.trans hL6;cases this;rw[hdL] at hedat;cases hedat
  have tL:t≠env.locals:=fun q=>by
    rw[q] at hto;have:=hto.symm.trans hL6;cases this;simp only[hdL] at htdat;cases htdat
  refine nY (by show env.scope.names.lookup _=_;rw[es];rfl) (⟨_,esL,epL,hL6,hdL,hL3⟩:h₆.Ns env.locals mL) (fun h₇ hn₇ hs₇=>?_) (by rw[hkind];rfl);have stay7:∀a o,B.get? a=some o→h₇.get? a=some o:=fun a o q=>(hs₇.2 a fun e=>by rw[e,BL] at q;cases q).trans (a₆.1 a o q);refine xP (vZ ?_);rw[(rfl:∀{y:Str} {p pos:Pos} {es:List Expr},eval (.Call (.Name y p) es [] pos) env=(do callWith pos (← eval (.Name y p) env) [] (backTo pos (starEach es env)) []))];refine qC (Name_function_global hkind (by show env.scope.names.lookup _=_;rw[es];rfl) (loadGlobal_builtin (by rw[st₂.glob];exact W.g.keeps (fun a o e=>stay7 _ _ (Bbase a o e))) (ok.free _ (by decide)) (by rw[st₂.blt];exact W.b.keeps (fun a o e=>stay7 _ _ (Bbase a o e))) ((W.builtins _ (by decide)).trans (by decide +kernel:bootBuiltins ("str":Str)=some (.type "str"))) ?_));refine wZ rfl (evalArgs_plain (spliced_cons ?_));refine l7 (pQ hkind (by show env.scope.names.lookup _=_;rw[es];rfl) hn₇ (if_pos rfl) (spliced_nil ?_));show wpAny _ _ (call (.type "str") [.ref e]) _ _ _;refine P.str_of_exc_one (t0:=t) (m:=msg) (tk:=tk) PySem.F.excStr_ValueError ?_ ⟨oe,ws,(hs₇.2 _ eL).trans heo,hecls,hedat,he0⟩ ⟨ot,nt,(hs₇.2 _ tL).trans hto,htcls,htdat⟩ ?_
  · have:=rm'.units;show _+2<_;simp only[Around.mark_units];exact(qV (qZ (zM (qH _)) _) this)
  · refine wpAny_nameGoes (by show env.scope.names.lookup _=_;rw[es];rfl) hn₇ (by rw[hkind];rfl) fun h₈ m₈ hn₈ hs₈=>?_;have stay8:∀a o,B.get? a=some o→h₈.get? a=some o:=fun a o q=>(hs₈.2 a fun e=>by rw[e,BL] at q;cases q).trans (stay7 a o q);have hLs:s.heap.get? env.locals=none:=x4 st₂.nsNew;intro hz8 ht8;refine q _ _ F₃ ⟨fun a o ht hn h=>stay8 _ _ (fl.keep a o ht (fun hm=>?_) (st₂.grow.keep a o ht h)),fun p hp=>stay8 _ _ (fl.obs p hp),st₂.grow.sub.trans fl.sub,fun p hp=>?_,fl.tok.le ?_,ht8,hz8,fl.os.trans st₂.grow.os,st₂.grow.gens.trans fl.gens,fl.tabs.keeps fun a o Z h=>stay8 _ _ h⟩ (fun a ha o h=>?_) (.str fl.tkm)
    · rw[yD hf] at hm;rcases qG hm with rfl | h1
      · rw[hLs] at h;cases h
      · exact hn h1
    · rcases fl.new p hp with h1 | h1
      · exact st₂.grow.new p h1
      · exact .inr (qB st₂.grow.size h1)
    · show s₃.toks≤s₃.toks+1+1;exact(qW (qR _ _))
    · obtain⟨o2,h2,hd2⟩:=hFo.mem ha;rw[h] at h2;cases h2;obtain⟨sl2,h3⟩:=fl6.upto a (by rw[yD hf];exact .tail _ ha) o (st₂.grow.keep a o (fC b₀ h hd2) h);have hne:a≠env.locals:=fun e=>by rw[e,hLs] at h;cases h
      exact⟨sl2,(hs₈.2 _ hne).trans ((hs₇.2 _ hne).trans h3)⟩
end Mine
namespace Mine
variable {prog:Program}{w:World}{W:Wd}{k:Nat}{sc:Scope}{fn:Bool}{Γ:xK}{fr:p4}{P:yW}{s:Shared}{F:Fz}
set_option tactic.hygienic true in
theorem hW {pos:Pos}{a b:Int}{c cv:Value}:∀{l:List Value},TriplesOk l→codeAmong pos (l++[rawInt a,rawInt b,c])=some cv→codeAmong pos l=some cv ∨ cv=c
  | [],_,h=>by
    have h':(if a==(pos.line:Int)&&b==(pos.col:Int) then some c else none)=some cv:=h;split at h'
    · cases h';exact .inr rfl
    · cases h'
  | .int x _::.int y _::d::r,ht,h=>by
    have h':(if x==(pos.line:Int)&&y==(pos.col:Int) then some d else codeAmong pos (r++[rawInt a,rawInt b,c]))=some cv:=h;show(if x==(pos.line:Int)&&y==(pos.col:Int) then some d else codeAmong pos r)=some cv ∨ cv=c;split at h'
    · rename_i hc
      rw[if_pos hc];exact .inl h'
    · rename_i hc
      rw[if_neg hc];exact hW (show TriplesOk r from ht) h'
theorem W3 {c Pt:Addr}{name qual:Str}{params:Arguments}{body:List Stmt}{scope:Scope}{clos:List (Str×Addr)}{pos:Pos}{fl:Nat}{A:Around}{Q:Value→Shared→Prop}{E:Value→Shared→Prop}{env:Env}
    (b:wC W s F)(hq:(c,Pt)∈W.tabs)(hnd:∀q∈W.tabs,∀q'∈W.tabs,q.2=q'.2→q=q')(hglob:env.globals=mainGlobals)(hcode:env.code=.ref c)(hqual:qual=W.qual Pt)(hcl:closureFor scope env=pure clos)
    (h:∀(f c':Addr) (doc pm ctv:Value) (oc:Obj) (vs:Array Value) (t:Nat) (s':Shared) (F':Fz),q0 W s s' F F'→(f,fnMade name qual params body scope clos doc pm c' ctv)∈F'.obs→(c',oc)∈F'.obs→oc.data=.fields vs→vs[1]?=some (.str qual t)→Q (.ref f) s') :
    wpAny (model prog w) A (makeFunction name qual params (.stmts body) scope env [] [] [] pos fl) Q E s:=by
  refine zS fun nG=>?_;obtain⟨ps,hP,htr,hall⟩:=b.tabs _ hq;have hgs:=W.g.keeps b.base;obtain⟨bm,ob,b1,b2,b3,b4,b5,b6⟩:=W.bmain;refine nG ?_;have hgP:mainGlobals≠Pt:=fun q=>by
    obtain⟨o,es,ep,e,hd,_⟩:=hgs;rw[q,hP] at e;cases e;cases hd
  have hbP:bm≠Pt:=fun q=>by rw[q,(W.hidden _ hq)] at b3;cases b3
  have hbG:bm≠mainGlobals:=fun q=>by
    obtain⟨o,es,ep,e,hd,_⟩:=W.g;rw[q,e] at b3;cases b3;rw[hd] at b6;cases b6
  have hB:s.heap.BuiltinsAt W.mg Pt:=⟨bm,ob,b1,b2,hbG,hbP,b.base _ _ b3,b4,b5,b6⟩;have hC:CodeHd s.heap c Pt:=(W.heads _ hq).keeps b.base;have offF:∀a,s.heap.objs.size≤a→∀p∈F.obs,p.1≠a:=fun a ha p hp e=>absurd (qJ (b.has p hp)) (xB (e▸ha));cases hc:codeAmong pos ps.toList with
  | none =>
    refine wD (makeFunction_K (mg:=W.mg) hcl hglob hgs hcode hC hP htr hc hgP hB fun c' ctv doc h' tk hx hge hlt hrec htb hz1 ht1=>?_);refine zS fun nG=>?_;obtain⟨c₂,oc,vs,t,e2,hoc,hd,hv⟩:=hrec;refine nG ?_;cases e2;have keep:∀a o,¬W.tab a→s.heap.get? a=some o→(h'.push (fnMade name qual params body scope clos doc ((W.mg "__name__").getD .none) c' ctv)).get? a=some o:=fun a o ht e=>
      Heap.get?_push_of_some _ (hx a o (fun q=>ht (q▸(⟨_,hq,rfl⟩:W.tab Pt))) e)
    have hfn:(h'.push (fnMade name qual params body scope clos doc ((W.mg "__name__").getD .none) c' ctv)).get? h'.objs.size=some (fnMade name qual params body scope clos doc ((W.mg "__name__").getD .none) c' ctv):=Heap.get?_push_size _ rfl;have hoc':(h'.push (fnMade name qual params body scope clos doc ((W.mg "__name__").getD .none) c' ctv)).get? c'=some oc:=Heap.get?_push_of_some _ hoc;let F':Fz:=(F.ob c' oc).ob h'.objs.size (fnMade name qual params body scope clos doc ((W.mg "__name__").getD .none) c' ctv);have le:F.le F':=(F.le_ob _ _).trans (Fz.le_ob _ _ _);have g:q0 W s {s with heap:=h'.push (fnMade name qual params body scope clos doc ((W.mg "__name__").getD .none) c' ctv),toks:=tk} F F':=by
      refine⟨keep,fun p hp=>?_,le,fun p hp=>?_,b.tok.le ht1,ht1,hz1,rfl,.rfl,fun q' hq'=>?_⟩
      · rcases qG hp with rfl | hp
        · exact hfn
        · rcases qG hp with rfl | hp
          · exact hoc'
          · exact keep _ _ (b.off p hp) (b.has p hp)
      · rcases qG hp with rfl | hp
        · exact .inr (qU (qV hge hlt):s.heap.objs.size≤h'.objs.size)
        · rcases qG hp with rfl | hp
          · exact .inr hge
          · exact .inl hp
      · by_cases e:q'.2=Pt
        · refine⟨ps++#[rawInt pos.line,rawInt pos.col,.ref c'],by rw[e];exact Heap.get?_push_of_some _ htb,?_,fun pos' cv hcv=>?_⟩
          · have:=TriplesOk_snoc (pos.line:Int) (pos.col:Int) (.ref c') ps.toList htr;simpa using this
          · have hcv':codeAmong pos' (ps.toList++[rawInt pos.line,rawInt pos.col,.ref c'])=some cv:=by simpa using hcv
            rcases hW htr hcv' with h1 | rfl
            · obtain⟨c3,o3,vs3,t3,e3,m3,r3⟩:=hall pos' cv h1;exact⟨c3,o3,vs3,t3,e3,le.obs _ m3,by rw[e];exact r3⟩
            · exact⟨c',oc,vs,t,rfl,.tail _ (.head _),hd,by rw[e,← hqual];exact hv⟩
        · obtain⟨ps',hP',htr',hall'⟩:=b.tabs q' hq';exact⟨ps',Heap.get?_push_of_some _ (hx _ _ e hP'),htr',fun pos' cv hcv=>let⟨c3,o3,vs3,t3,e3,m3,r3⟩:=hall' pos' cv hcv;⟨c3,o3,vs3,t3,e3,le.obs _ m3,r3⟩⟩
    exact h h'.objs.size c' doc _ ctv oc vs t _ F' g (.head _) (.tail _ (.head _)) hd hv
  | some cv =>
    refine zS fun nG=>?_;obtain⟨c',oc,vs,t,rfl,m3,hd,hv⟩:=hall pos cv hc;refine nG ?_;refine wD (makeFunction_hit (mg:=W.mg) hcl hglob hgs hcode hC hP htr hc hB fun ctv doc h' tk hk hsz hz1 ht1=>?_);have hfn:(h'.push (fnMade name qual params body scope clos doc ((W.mg "__name__").getD .none) c' ctv)).get? h'.objs.size=some (fnMade name qual params body scope clos doc ((W.mg "__name__").getD .none) c' ctv):=Heap.get?_push_size _ rfl;have g:=q0.of_keeps (W:=W) [] b (s':={s with heap:=h'.push (fnMade name qual params body scope clos doc ((W.mg "__name__").getD .none) c' ctv),toks:=tk}) (fun a o e=>Heap.get?_push_of_some _ (hk a o e)) (fun Z h=>nomatch h) hz1 ht1 rfl .rfl;refine h h'.objs.size c' doc _ ctv oc vs t _ _ (g.freeze hsz hfn) (.head _) (.tail _ m3) hd (by rw[hqual];exact hv)
end Mine
namespace Mine
section
variable (prog:Program)(w:World)(W:Wd)
noncomputable def pN (k:Nat)(G:Fz)(f:Nat)(xs:List V)(r:V):Prop :=
  ∀s F vs,wC W s F→G.le F→w8 prog w F vs xs→yA prog w W k (call (.ref f) vs) s F (Is prog w r)
end
variable {prog:Program}{w:World}{W:Wd}{k:Nat}{sc:Scope}{fn:Bool}{Γ:xK}{fr:p4}{P:yW}{s:Shared}{F:Fz}
theorem pN.mono {j:Nat}{G:Fz}{f:Nat}{xs:List V}{r:V}(h:pN prog w W j G f xs r)(hj:j≤k):pN prog w W k G f xs r:=fun s F vs b g hv=>(h s F vs b g hv).mono_room hj
theorem oK {y:Str}{es:List Expr}{xs:List V}{p pos:Pos}{f:Nat}{G:Fz}{o:Obj}{fd:FuncData}{r:V}(hy:Γ.lookup y=some (.val (.fn f G)))(ho:(f,o)∈G.obs)(hd:o.data=.func fd)
    (ha:sY prog w W k sc fn Γ es xs)(hc:pN prog w W k G f xs r)
    (hs:autoParam (∀env,(starEach es env).any (·.1)=false) au1)(hdb:autoParam ((y==("__debug__":Str))=false) au2)(hn:autoParam ((y==("__classdict__":Str))=false) au2) :
    Ev prog w W k sc fn Γ (.Call (.Name y p) es [] pos) r:=fun fr P s F hsc st A Q E rm q=>by
  rw[(rfl:eval (.Call (.Name y p) es [] pos) fr.env=(do callWith pos (← eval (.Name y p) fr.env) [] (backTo pos (starEach es fr.env)) []))];refine zS fun nG=>?_;obtain⟨v,h1,h2⟩:=st.vars y _ hy;obtain⟨rfl,hG⟩:=h2;refine nG ?_;refine qC (st.load_any h1 ?_ hdb hn);refine callWith_function (o:=o) (fd:=fd) ?_;refine kC ha hsc st rm hs fun vs s₂ F₂ g₂ hv=>?_;have b₂:=(st.step g₂).base;refine⟨⟨b₂.has _ (g₂.sub.obs _ (hG.obs _ ho)),hd⟩,?_⟩;exact hc s₂ F₂ vs b₂ (hG.trans g₂.sub) hv A Q E rm fun z s₃ F₃ g₃ hz=>q z s₃ F₃ (g₂.trans g₃) hz
noncomputable def fT (sc:Scope)(names:List Str):Bool :=
  sc.kind==.function&&!sc.isCoroutine&&!sc.isGenerator&&sc.names.all (fun x=>x.2 != .cell)&&names.all fun n=>sc.names.lookup n==some .local
theorem jC {y:Str}{v:Value}:∀{l:List (Str×Value)},(l.map (·.1)).Nodup→l.lookup y=some v→l.reverse.lookup y=some v
  | [],_,h=>nomatch h
  | (n,u)::r,hn,h=>by
    simp only[List.map_cons,List.nodup_cons] at hn;simp only[List.reverse_cons,List.lookup_append];simp only[List.lookup_cons] at h;by_cases e:y=n
    · subst e;rw[beq_self_eq_true] at h;cases h;have:r.reverse.lookup y=none:=by
        cases hr:r.reverse.lookup y with
        | none=>rfl
        | some v=>exact absurd (List.mem_map.mpr ⟨_,List.mem_reverse.mp (mem_of_lookup hr),rfl⟩) hn.1
      rw[this];simp
    · rw[beq_eq_false_iff_ne.mpr e] at h;rw[jC hn.2 h];rfl
theorem XZ {G:Fz}{f:Nat}{name qual:Str}{params:Arguments}{body:List Stmt}{scope:Scope}{clos:List (Str×Addr)}{doc pm ctv:Value}{c':Addr}{oc:Obj}{us:Array Value}{tq:Nat}{xs:List V}{r:V}{capt:xK}(names:List Str)
    (hf:(f,fnMade name qual params body scope clos doc pm c' ctv)∈G.obs)(hoc:(c',oc)∈G.obs)(hocd:oc.data=.fields us)(hus:us[1]?=some (.str qual tq))
    (hb:∀(vs:List Value),vs.length=xs.length→bindArgs (fnX name qual params body scope clos .none .none doc pm none (.ref c') ctv) ⟨vs,[]⟩=pure (names.zip vs))
    (hp:fT scope names=true)(hn:names.Nodup)(hl:names.length=xs.length)
    (hclos:∀n c,clos.lookup n=some c→∃o v x,(c,o)∈G.obs∧o.data=.cell (some v)∧capt.lookup n=some (.val x)∧x.is prog w G v)
    (hcapt:∀y b,capt.lookup y=some b→scope.names.lookup y=some .free∧∃c,clos.lookup y=some c)
    (hinj:∀n n' c,clos.lookup n=some c→clos.lookup n'=some c→n=n')
    (hex:Ex prog w W k scope false (names.zip (xs.map Bd.val)++capt) body (.ret r)):pN prog w W (k+1) G f xs r:=by
  intro s F vs b hG hv A Q E rm q;have hp0:=hp;unfold fT at hp;simp only[Bool.and_eq_true,beq_iff_eq,Bool.not_eq_true',List.all_eq_true,bne_iff_ne] at hp;refine zS fun nG=>?_;obtain⟨⟨⟨⟨hk,hcor⟩,hgen⟩,hcell⟩,hkinds⟩:=hp;have vl:=hv.length;refine nG ?_;refine vI ?_;refine codeAny_call_function (fd:=fnX name qual params body scope clos .none .none doc pm none (.ref c') ctv) rm.depth (b.has _ (hG.obs _ hf)) rfl hcor hgen rfl ⟨c',oc,us,tq,rfl,(b.has _ (hG.obs _ hoc)),hocd,hus⟩ ?_;rw[hb _ vl];have hbm:(names.zip vs).map (·.1)=names:=by
    rw[List.map_fst_zip];exact(qL (jN hl vl.symm))
  refine qI (wD (jJ hcell (fun x hx=>hkinds x.1 (z0 hx).1) (fun h' hns hsb hz1 ht1=>?_) hk));have keep:∀a o,s.heap.get? a=some o→h'.get? a=some o:=fun a o e=>(hsb.2 a (qM (qJ e))).trans (Heap.get?_push_of_some _ e);have g:q0 W s {s with heap:=h',toks:=s.toks+(names.zip vs).length} F F:=q0.of_keeps [] b keep (fun Z h=>nomatch h) hz1 ht1 rfl .rfl;let env:Env:=newEnv scope s.heap.objs.size mainGlobals clos (qual ++ ".<locals>.") (some f) (.ref c') none builtinsNs;have hcl:∀n c,clos.lookup n=some c→∃o v x,h'.get? c=some o∧o.data=.cell (some v)∧capt.lookup n=some (.val x)∧x.is prog w F v∧s.heap.get? c=some o∧(c,o)∈F.obs:=fun n c hc=>by
    refine zS fun nG=>?_;obtain⟨o,v,x,h1,h2,h3,h4⟩:=hclos n c hc;refine nG ?_;exact⟨o,v,x,keep _ _ (b.has _ (hG.obs _ h1)),h2,h3,V.is.mono hG h4,b.has _ (hG.obs _ h1),hG.obs _ h1⟩
  have st:St prog w W ⟨s,F,env⟩ false (names.zip (xs.map Bd.val)++capt) [] {s with heap:=h',toks:=s.toks+(names.zip vs).length} F:=by
    refine⟨b.grow g,g,b.size,rfl,rfl,hk,⟨_,hns⟩,qH _,fun p hp=>qM (qJ (b.has p hp)),fun Z h=>(nomatch h),fun Z h=>(nomatch h),fun n c hc=>?_,fun n n' c h1 h2=>hinj n n' c h1 h2,fun x hx=>?_,fun y bd hy=>?_,?_⟩
    · obtain⟨o,v,x,h1,h2,h3,h4,h5,h6⟩:=hcl n c hc;exact⟨⟨some v,o,h1,h2⟩,qM (qJ h5),(fun h=>by cases h),fun Z h=>(nomatch h),b.off _ h6,fun h=>by cases h⟩
    · exact absurd rfl (hcell _ (mem_of_lookup (show scope.names.lookup x=some .cell from hx)))
    · simp only[List.lookup_append] at hy;cases hz:(names.zip (xs.map Bd.val)).lookup y with
      | some bd' =>
        rw[hz] at hy;cases hy;refine zS fun nG=>?_;obtain⟨h1,x,v,e1,e2,e3⟩:=wW hv hz;refine nG ?_;subst e1;refine⟨v,.inl ⟨hkinds y h1,_,hns,?_⟩,e3⟩;exact jC (by simp only[hbm];exact hn) e2
      | none =>
        rw[hz] at hy;refine zS fun nG=>?_;have hy':capt.lookup y=some bd:=by simpa using hy
        obtain⟨h1,c,hc⟩:=hcapt y bd hy';obtain⟨o,v,x,h2,h3,h4,h5,_⟩:=hcl y c hc;refine nG ?_;rw[hy'] at h4;cases h4;exact⟨v,.inr ⟨.inr h1,c,hc,o,h2,h3⟩,h5⟩
    · intro x y bx by' a hne h1 h2 o1 o2
      rw[List.lookup_append] at h1;cases hz:(names.zip (xs.map Bd.val)).lookup x with
      | some bd' =>
        rw[hz] at h1;cases h1;refine zS fun nG=>?_;obtain⟨_,x',v,e1,_⟩:=wW hv hz;refine nG ?_;subst e1;cases o1
      | none =>
        rw[hz] at h1;refine zS fun nG=>?_;have hy':capt.lookup x=some bx:=by simpa using h1
        obtain⟨_,c,hc⟩:=hcapt x bx hy';obtain⟨o,v,x',h2,h3,h4,h5,_⟩:=hcl x c hc;refine nG ?_;rw[hy'] at h4;cases h4;cases o1
  refine⟨W.nolimit.keeps (fun a o e=>keep a o (b.base a o e)),codeAny_func ?_⟩;refine hex ⟨s,F,env⟩ [] _ F rfl st _ _ _ (rm.deeper env) fun fl s' F' ho' hF'=>?_;obtain⟨v,rfl,hv',st'⟩:=ho';exact q v s' F' st'.grow hv'
end Mine
namespace Mine
section
variable (prog:Program)(w:World)(W:Wd)
noncomputable def FJ (φ:Env→Prop)(k:Nat)(sc:Scope)(fn:Bool)(Γ:xK)(e:Expr)(x:V):Prop :=
  ∀fr P s F,fr.env.scope=sc→φ fr.env→St prog w W fr fn Γ P s F→yA prog w W k (eval e fr.env) s F (Is prog w x)
noncomputable def FH (φ:Env→Prop)(k:Nat)(sc:Scope)(fn:Bool)(Γ:xK)(ss:List Stmt)(o:dA):Prop :=
  ∀fr P s F,fr.env.scope=sc→φ fr.env→St prog w W fr fn Γ P s F→∀(A:Around) (Q:Flow→Shared→Prop) (E:Value→Shared→Prop),zZ k A →
    (∀fl s' F',o.ok prog w W fr fn P fl s' F'→F.le F'→Q fl s')→wpAny (model prog w) A (execs ss fr.env) Q E s
end
variable {prog:Program}{w:World}{W:Wd}{k:Nat}{sc:Scope}{fn:Bool}{Γ Γ':xK}{φ:Env→Prop}
theorem BN {e:Expr}{x:V}(h:Ev prog w W k sc fn Γ e x):FJ prog w W φ k sc fn Γ e x:=fun fr P s F hsc Z st=>h fr P s F hsc st
theorem PJ {t b e:Expr}{pos:Pos}{c:Bool}{x:V}(ht:eM prog w W k sc fn Γ t c)(hb:c=true→FJ prog w W φ k sc fn Γ b x)(he:c=false→FJ prog w W φ k sc fn Γ e x) :
    FJ prog w W φ k sc fn Γ (.IfExp t b e pos) x:=fun fr P s F hsc hφ st A Q E rm q=>
  wpAny_IfExp (ht fr P s F hsc st A _ E rm fun s₁ F₁ g₁=>by
    cases c with
    | true=>exact hb rfl fr P s₁ F₁ hsc hφ (st.step g₁) A Q E rm fun z s₃ F₃ g₃ hz=>q z s₃ F₃ (g₁.trans g₃) hz
    | false=>exact he rfl fr P s₁ F₁ hsc hφ (st.step g₁) A Q E rm fun z s₃ F₃ g₃ hz=>q z s₃ F₃ (g₁.trans g₃) hz)
theorem PH {pos:Pos}{e:Expr}{x:V}{rest:List Stmt}(he:FJ prog w W φ k sc fn Γ e x):FH prog w W φ k sc fn Γ (.Return (some e) pos::rest) (.ret x) :=
  fun fr P s F hsc hφ st A Q E rm q=>xP (vZ (he fr P s F hsc hφ st A _ E rm fun v s₁ F₁ g₁ hv=>q _ s₁ F₁ ⟨v,rfl,hv,(st.step g₁).weaken fun y b h=>by cases h⟩ g₁.sub))
theorem PG {st:Stmt}{rest:List Stmt}{o:dA}(h:nX prog w W k sc fn Γ st (.next Γ'))(hr:FH prog w W φ k sc fn Γ' rest o):FH prog w W φ k sc fn Γ (st::rest) o :=
  fun fr P s F hsc hφ x A Q E rm q=>xP (h fr P s F hsc x A _ E rm fun fl s' F' ho hF=>by
    obtain⟨rfl,x'⟩:=ho;exact hr fr P s' F' hsc hφ x' A Q E rm fun fl s'' F'' ho' hF'=>q fl s'' F'' ho' (hF.trans hF'))
theorem KQ {cells:List (Str×Addr)}{names:List (Str×NameKind)}{n:Str}(hn:(n,NameKind.free)∈names):∃c,(pZ cells names).lookup n=some c:=by
  induction names with
  | nil=>cases hn
  | cons x r ih =>
    obtain⟨m,k⟩:=x;dsimp only[pZ];simp only[List.lookup_append];rcases qG hn with h | h
    · cases h;cases e:(pZ cells r).lookup n with
      | none=>exact⟨(cells.lookup n).getD 0,by simp⟩
      | some c'=>exact⟨c',rfl⟩
    · obtain⟨c,hc⟩:=ih h;exact⟨c,by simp only[hc];rfl⟩
theorem ZU {name qual:Str}{params:Arguments}{body:List Stmt}{scope:Scope}{pos:Pos}{rest:List Stmt}{o:dA}{c Pt:Addr}(hq:(c,Pt)∈W.tabs)(hnd:∀q∈W.tabs,∀q'∈W.tabs,q.2=q'.2→q=q')
    (hcode:∀env,φ env→env.code=.ref c)(hqual:∀env,φ env→env.scope=sc→qualnameIn env name name=W.qual Pt)(hqq:qual=W.qual Pt)(hd0:params.defaults=[])(hk0:params.kw_defaults=[])(ha:∀env,annTrees params none env=[])
    (hfree:∀x∈scope.names,x.2=.free→sc.names.lookup x.1=some .cell)(hk:sc.names.lookup name=some .cell)(hfn:fn=true)
    (hrest:∀(f c':Addr) (clos:List (Str×Addr)) (doc pm ctv:Value) (oc:Obj) (us:Array Value) (t:Nat) (G:Fz),(f,fnMade name qual params body scope clos doc pm c' ctv)∈G.obs→(c',oc)∈G.obs→oc.data=.fields us→us[1]?=some (.str qual t)→(∀n,(n,NameKind.free)∈scope.names→∃c,clos.lookup n=some c) →
      FH prog w W (fun env=>φ env∧pZ env.cells scope.names=clos) k sc fn ((name,.val (.fn f G))::Γ) rest o) :
    FH prog w W φ k sc fn Γ (.FunctionDef name params body [] none [] scope none name pos::rest) o:=fun fr P s F hsc hφ st A Q E rm q=>by
  refine xP (nestDef_K hd0 hk0 (ha _) ?_);refine W3 st.base hq hnd st.glob (hcode _ hφ) (hqual _ hφ hsc) (uJ (scope:=scope) (env:=fr.env) fun x hx hf=>st.cells x.1 (by have:=hfree x hx hf;rw[← hsc] at this;exact this)) fun f c' doc pm ctv oc us t s₁ F₁ g₁ hf hoc hd hv=>?_;rw[hqual _ hφ hsc,← hqq] at hf hv;refine(st.step g₁).storeV (d:=.fn f F₁) ⟨rfl,.rfl⟩ (.inr ⟨by rw[← hsc] at hk;exact hk,hfn⟩) fun s₂ st₂=>?_;exact hrest f c' _ doc pm ctv oc us t F₁ hf hoc hd hv (fun n hn=>KQ hn) fr P s₂ F₁ hsc ⟨hφ,rfl⟩ st₂ A Q E rm fun fl s' F' ho hF=>q fl s' F' ho (g₁.sub.trans hF)
end Mine
namespace Mine
variable {prog:Program}{w:World}{W:Wd}{k:Nat}{sc:Scope}{fn:Bool}{Γ Γ':xK}{φ:Env→Prop}
noncomputable def bF (prog:Program)(w:World)(G:Fz)(clos:List (Str×Addr))(capt:xK):Prop :=
  (∀n c,clos.lookup n=some c→∃o v x,(c,o)∈G.obs∧o.data=.cell (some v)∧capt.lookup n=some (.val x)∧x.is prog w G v) ∧
  (∀n n' c,clos.lookup n=some c→clos.lookup n'=some c→n=n')
noncomputable def bT (h:Heap)(clos:List (Str×Addr)):yW:=clos.filterMap fun p=>(h.get? p.2).map fun o=>(p.2,o)
theorem WY {fr:p4}{P:yW}{s:Shared}{F:Fz}{scope:Scope}{clos:List (Str×Addr)}{Γc:xK}{f:Nat}{G:Fz}{xs:List V}{i:Int}{vs:List Value}{A:Around}{Q:Value→Shared→Prop}{E:Value→Shared→Prop}
    (st:St prog w W fr true Γ P s F)(hsc:fr.env.scope=sc)(hclos:pZ fr.env.cells scope.names=clos)(hG:G.le F)(hfree:∀x∈scope.names,x.2=.free→sc.names.lookup x.1=some .cell)
    (hΓ:∀x∈scope.names,x.2=.free→∃y,Γ.lookup x.1=some (.val y)∧Γc.lookup x.1=some (.val y))
    (hcall:∀G':Fz,G.le G'→bF prog w G' clos Γc→pN prog w W k G' f xs (.dat (.int i)))(hv:w8 prog w F vs xs)(rm:zZ k A)
    (q:∀v s' F',q0 W s s' F F'→xQ F' v (.int i)→Q v s'):wpAny (model prog w) A (call (.ref f) vs) Q E s:=by
  have hmem:∀n c,(n,c)∈clos→(n,NameKind.free)∈scope.names∧fr.env.cells.lookup n=some c:=fun n c h=>by
    rw[← hclos] at h;obtain⟨h1,h2⟩:=pY h;obtain⟨c',hc'⟩:=st.cells n (by have:=hfree _ h1 rfl;rw[← hsc] at this;exact this);rw[hc'] at h2;exact⟨h1,hc'.trans (congrArg some h2)⟩
  have hobs:∀p∈bT s.heap clos,s.heap.get? p.1=some p.2∧∃n,fr.env.cells.lookup n=some p.1∧∃v,p.2.data=.cell v:=fun p hp=>by
    obtain⟨⟨n,c⟩,hn,e⟩:=List.mem_filterMap.mp hp;cases ho:s.heap.get? c with
    | none=>rw[ho] at e;cases e
    | some o =>
      rw[ho] at e;cases e;refine zS fun nG=>?_;have hc:=(hmem n c hn).2;obtain⟨⟨v,o',h1,h2⟩,_⟩:=st.cell n c hc;refine nG ?_;rw[ho] at h1;cases h1;exact⟨ho,n,hc,v,h2⟩
  let Fp:Fz:=⟨bT s.heap clos++F.obs,F.tks⟩;have le:F.le Fp:=⟨fun p hp=>xH _ hp,fun p hp=>hp⟩;have bp:wC W s Fp:=by
    refine⟨st.base.base,fun p hp=>?_,st.base.tok,st.base.tabs.mono le,fun p hp=>?_,st.base.size⟩
    · rcases qP hp with h | h
      · exact(hobs p h).1
      · exact st.base.has p h
    · rcases qP hp with h | h
      · obtain⟨_,n,hc,_⟩:=hobs p h;exact(st.cell n _ hc).2.2.2.2.1
      · exact st.base.off p h
  have hin:bF prog w Fp clos Γc:=by
    constructor
    · intro n c hc;refine zS fun nG=>?_;obtain⟨hf,hc'⟩:=hmem n c (mem_of_lookup hc);obtain⟨y,hy,hyc⟩:=hΓ _ hf rfl;obtain⟨v,hva,hvx⟩:=st.vars n _ hy;have hk:fr.env.kindOf n=some .cell:=by have:=hfree _ hf rfl;rw[← hsc] at this;exact this
      refine nG ?_;rcases hva with⟨kk,_⟩ | ⟨_,c2,hc2,o,ho,hd⟩
      · rw[hk] at kk;cases kk
      · rw[hc'] at hc2;cases hc2;refine⟨o,v,y,qT _ (List.mem_filterMap.mpr ⟨(n,c),mem_of_lookup hc,by rw[ho];rfl⟩),hd,hyc,V.is.mono le hvx⟩
    · intro n n' c h1 h2;exact st.inj n n' c (hmem n c (mem_of_lookup h1)).2 (hmem n' c (mem_of_lookup h2)).2
  refine hcall Fp (hG.trans le) hin s Fp vs bp .rfl (hv.mono le) A Q E rm fun v s' F' g hr=>?_;let bad:Nat→Bool:=fun a=>(bT s.heap clos).any fun p=>p.1==a;let F₂:Fz:=⟨F'.obs.filter fun p=>!bad p.1,F'.tks⟩;have notbad:∀p∈F.obs,bad p.1=false:=fun p hp=>by
    cases hb:bad p.1 with
    | false=>rfl
    | true =>
      obtain⟨r,hr,e⟩:=List.any_eq_true.mp hb;obtain⟨_,n,hc,_⟩:=hobs r hr;exact absurd (eq_of_beq e).symm ((st.cell n _ hc).2.2.1 rfl p hp)
  refine q v s' F₂ ⟨g.keep,fun p hp=>g.has p (List.mem_filter.mp hp).1,⟨fun p hp=>List.mem_filter.mpr ⟨g.sub.obs p (le.obs p hp),by rw[notbad p hp];rfl⟩,fun p hp=>g.sub.tks p hp⟩,fun p hp=>?_,g.tok,g.toks,g.size,g.os,g.gens,fun q hq=>?_⟩ ?_
  · obtain⟨h1,h2⟩:=List.mem_filter.mp hp;rcases g.new p h1 with h | h
    · rcases qP h with h | h
      · have:bad p.1=true:=List.any_eq_true.mpr ⟨p,h,beq_self_eq_true _⟩;rw[this] at h2;cases h2
      · exact .inl h
    · exact .inr h
  · obtain⟨ps,h1,h2,h3⟩:=g.tabs q hq;refine⟨ps,h1,h2,fun pos cv hcv=>?_⟩;refine zS fun nG=>?_;obtain⟨c,o,us,t,e1,e2,e3,e4⟩:=h3 pos cv hcv;refine nG ?_;refine⟨c,o,us,t,e1,List.mem_filter.mpr ⟨e2,?_⟩,e3,e4⟩;cases hb:bad c with
    | false=>rfl
    | true =>
      obtain⟨r,hr,e⟩:=List.any_eq_true.mp hb;obtain⟨h5,n,hc,v,h6⟩:=hobs r hr;have h7:=g.has r (g.sub.obs _ (qT _ hr));have h8:=g.has _ e2;rw[show r.1=c from eq_of_beq e] at h7;rw[h7] at h8;cases h8;rw[h6] at e3;cases e3
  · refine xQ.eInt hr fun Z ht=>?_;exact .int ht
theorem YY {y:Str}{es:List Expr}{p pos:Pos}{scope:Scope}{clos:List (Str×Addr)}{Γc:xK}{f:Nat}{G:Fz}{o:Obj}{fd:FuncData}{xs:List V}{i:Int}
    (hφ:∀env,φ env→pZ env.cells scope.names=clos)(hy:Γ.lookup y=some (.val (.fn f G)))(ho:(f,o)∈G.obs)(hd:o.data=.func fd)(hfree:∀x∈scope.names,x.2=.free→sc.names.lookup x.1=some .cell)
    (hΓ:∀x∈scope.names,x.2=.free→∃y,Γ.lookup x.1=some (.val y)∧Γc.lookup x.1=some (.val y))(ha:sY prog w W k sc true Γ es xs)
    (hcall:∀G':Fz,G.le G'→bF prog w G' clos Γc→pN prog w W k G' f xs (.dat (.int i)))
    (hs:autoParam (∀env,(starEach es env).any (·.1)=false) au1)(hdb:autoParam ((y==("__debug__":Str))=false) au2)(hn:autoParam ((y==("__classdict__":Str))=false) au2) :
    FJ prog w W φ k sc true Γ (.Call (.Name y p) es [] pos) (.dat (.int i)):=fun fr P s F hsc hφ' st A Q E rm q=>by
  rw[(rfl:eval (.Call (.Name y p) es [] pos) fr.env=(do callWith pos (← eval (.Name y p) fr.env) [] (backTo pos (starEach es fr.env)) []))];refine zS fun nG=>?_;obtain⟨v,h1,h2⟩:=st.vars y _ hy;obtain⟨rfl,hG⟩:=h2;refine nG ?_;refine qC (st.load_any h1 ?_ hdb hn);refine callWith_function (o:=o) (fd:=fd) ?_;refine kC ha hsc st rm hs fun vs s₂ F₂ g₂ hv=>?_;have st₂:=st.step g₂;refine⟨⟨st₂.base.has _ (g₂.sub.obs _ (hG.obs _ ho)),hd⟩,?_⟩;exact WY st₂ hsc (hφ _ hφ') (hG.trans g₂.sub) hfree hΓ hcall hv rm fun v s₃ F₃ g₃ hr=>q v s₃ F₃ (g₂.trans g₃) hr
end Mine
namespace Mine
variable {prog:Program}{w:World}{W:Wd}{k:Nat}{sc:Scope}{fn:Bool}{Γ:xK}{fr:p4}{P:yW}{s:Shared}{F:Fz}
theorem J5 {c Pt:Addr}{name qual:Str}{params:Arguments}{body:Expr}{scope:Scope}{clos:List (Str×Addr)}{pos:Pos}{fl:Nat}{A:Around}{Q:Value→Shared→Prop}{E:Value→Shared→Prop}{env:Env}
    (b:wC W s F)(hq:(c,Pt)∈W.tabs)(hnd:∀q∈W.tabs,∀q'∈W.tabs,q.2=q'.2→q=q')(hglob:env.globals=mainGlobals)(hcode:env.code=.ref c)(hqual:qual=W.qual Pt)(hcl:closureFor scope env=pure clos)
    (h:∀(f c':Addr) (pm ctv:Value) (oc:Obj) (vs:Array Value) (t:Nat) (s':Shared) (F':Fz),q0 W s s' F F'→(f,kla_obj name qual params body scope clos pm c' ctv)∈F'.obs→(c',oc)∈F'.obs→oc.data=.fields vs→vs[1]?=some (.str qual t)→Q (.ref f) s') :
    wpAny (model prog w) A (makeFunction name qual params (.expr body) scope env [] [] [] pos fl) Q E s:=by
  refine zS fun nG=>?_;obtain⟨ps,hP,htr,hall⟩:=b.tabs _ hq;have hgs:=W.g.keeps b.base;obtain⟨bm,ob,b1,b2,b3,b4,b5,b6⟩:=W.bmain;refine nG ?_;have hgP:mainGlobals≠Pt:=fun q=>by
    obtain⟨o,es,ep,e,hd,_⟩:=hgs;rw[q,hP] at e;cases e;cases hd
  have hbP:bm≠Pt:=fun q=>by rw[q,(W.hidden _ hq)] at b3;cases b3
  have hbG:bm≠mainGlobals:=fun q=>by
    obtain⟨o,es,ep,e,hd,_⟩:=W.g;rw[q,e] at b3;cases b3;rw[hd] at b6;cases b6
  have hB:s.heap.BuiltinsAt W.mg Pt:=⟨bm,ob,b1,b2,hbG,hbP,b.base _ _ b3,b4,b5,b6⟩;have hC:CodeHd s.heap c Pt:=(W.heads _ hq).keeps b.base;cases hc:codeAmong pos ps.toList with
  | none =>
    refine wD (kla_makeFunction (mg:=W.mg) hcl hglob hgs hcode hC hP htr hc hgP hB fun c' ctv h' tk hx hge hlt hrec htb hz1 ht1=>?_);refine zS fun nG=>?_;obtain⟨c₂,oc,vs,t,e2,hoc,hd,hv⟩:=hrec;refine nG ?_;cases e2;have keep:∀a o,¬W.tab a→s.heap.get? a=some o→(h'.push (kla_obj name qual params body scope clos ((W.mg "__name__").getD .none) c' ctv)).get? a=some o:=fun a o ht e=>
      Heap.get?_push_of_some _ (hx a o (fun q=>ht (q▸(⟨_,hq,rfl⟩:W.tab Pt))) e)
    have hfn:(h'.push (kla_obj name qual params body scope clos ((W.mg "__name__").getD .none) c' ctv)).get? h'.objs.size=some (kla_obj name qual params body scope clos ((W.mg "__name__").getD .none) c' ctv):=Heap.get?_push_size _ rfl;have hoc':(h'.push (kla_obj name qual params body scope clos ((W.mg "__name__").getD .none) c' ctv)).get? c'=some oc:=Heap.get?_push_of_some _ hoc;let F':Fz:=(F.ob c' oc).ob h'.objs.size (kla_obj name qual params body scope clos ((W.mg "__name__").getD .none) c' ctv);have le:F.le F':=(F.le_ob _ _).trans (Fz.le_ob _ _ _);have g:q0 W s {s with heap:=h'.push (kla_obj name qual params body scope clos ((W.mg "__name__").getD .none) c' ctv),toks:=tk} F F':=by
      refine⟨keep,fun p hp=>?_,le,fun p hp=>?_,b.tok.le ht1,ht1,hz1,rfl,.rfl,fun q' hq'=>?_⟩
      · rcases qG hp with rfl | hp
        · exact hfn
        · rcases qG hp with rfl | hp
          · exact hoc'
          · exact keep _ _ (b.off p hp) (b.has p hp)
      · rcases qG hp with rfl | hp
        · exact .inr (qU (qV hge hlt):s.heap.objs.size≤h'.objs.size)
        · rcases qG hp with rfl | hp
          · exact .inr hge
          · exact .inl hp
      · by_cases e:q'.2=Pt
        · refine⟨ps++#[rawInt pos.line,rawInt pos.col,.ref c'],by rw[e];exact Heap.get?_push_of_some _ htb,?_,fun pos' cv hcv=>?_⟩
          · have:=TriplesOk_snoc (pos.line:Int) (pos.col:Int) (.ref c') ps.toList htr;simpa using this
          · have hcv':codeAmong pos' (ps.toList++[rawInt pos.line,rawInt pos.col,.ref c'])=some cv:=by simpa using hcv
            rcases hW htr hcv' with h1 | rfl
            · obtain⟨c3,o3,vs3,t3,e3,m3,r3⟩:=hall pos' cv h1;exact⟨c3,o3,vs3,t3,e3,le.obs _ m3,by rw[e];exact r3⟩
            · exact⟨c',oc,vs,t,rfl,.tail _ (.head _),hd,by rw[e,← hqual];exact hv⟩
        · obtain⟨ps',hP',htr',hall'⟩:=b.tabs q' hq';exact⟨ps',Heap.get?_push_of_some _ (hx _ _ e hP'),htr',fun pos' cv hcv=>let⟨c3,o3,vs3,t3,e3,m3,r3⟩:=hall' pos' cv hcv;⟨c3,o3,vs3,t3,e3,le.obs _ m3,r3⟩⟩
    exact h h'.objs.size c' _ ctv oc vs t _ F' g (.head _) (.tail _ (.head _)) hd hv
  | some cv =>
    refine zS fun nG=>?_;obtain⟨c',oc,vs,t,rfl,m3,hd,hv⟩:=hall pos cv hc;refine nG ?_;refine wD (kla_makeFunctionHit (mg:=W.mg) hcl hglob hgs hcode hC hP htr hc hB fun ctv h' tk hk hsz hz1 ht1=>?_);have hfn:(h'.push (kla_obj name qual params body scope clos ((W.mg "__name__").getD .none) c' ctv)).get? h'.objs.size=some (kla_obj name qual params body scope clos ((W.mg "__name__").getD .none) c' ctv):=Heap.get?_push_size _ rfl;have g:=q0.of_keeps (W:=W) [] b (s':={s with heap:=h'.push (kla_obj name qual params body scope clos ((W.mg "__name__").getD .none) c' ctv),toks:=tk}) (fun a o e=>Heap.get?_push_of_some _ (hk a o e)) (fun Z h=>nomatch h) hz1 ht1 rfl .rfl;refine h h'.objs.size c' _ ctv oc vs t _ _ (g.freeze hsz hfn) (.head _) (.tail _ m3) hd (by rw[hqual];exact hv)
theorem KS {G:Fz}{f:Nat}{name qual:Str}{params:Arguments}{body:Expr}{scope:Scope}{pm ctv:Value}{c':Addr}{oc:Obj}{us:Array Value}{tq:Nat}{xs:List V}{r:V}(names:List Str)
    (hf:(f,kla_obj name qual params body scope [] pm c' ctv)∈G.obs)(hoc:(c',oc)∈G.obs)(hocd:oc.data=.fields us)(hus:us[1]?=some (.str qual tq))
    (hb:∀(vs:List Value),vs.length=xs.length→bindArgs (kla_fn name qual params body scope [] pm (.ref c') ctv) ⟨vs,[]⟩=pure (names.zip vs))
    (hp:fT scope names=true)(hn:names.Nodup)(hl:names.length=xs.length)
    (hex:Ev prog w W k scope false (names.zip (xs.map Bd.val)) body r):pN prog w W (k+1) G f xs r:=by
  intro s F vs b hG hv A Q E rm q;unfold fT at hp;simp only[Bool.and_eq_true,beq_iff_eq,Bool.not_eq_true',List.all_eq_true,bne_iff_ne] at hp;refine zS fun nG=>?_;obtain⟨⟨⟨⟨hk,hcor⟩,hgen⟩,hcell⟩,hkinds⟩:=hp;have vl:=hv.length;refine nG ?_;refine vI ?_;refine kla_callFunE (fd:=kla_fn name qual params body scope [] pm (.ref c') ctv) rm.depth (b.has _ (hG.obs _ hf)) rfl hcor hgen rfl ⟨c',oc,us,tq,rfl,(b.has _ (hG.obs _ hoc)),hocd,hus⟩ ?_;rw[hb _ vl];have hbm:(names.zip vs).map (·.1)=names:=by
    rw[List.map_fst_zip];exact(qL (jN hl vl.symm))
  refine qI (wD (jJ hcell (fun x hx=>hkinds x.1 (z0 hx).1) (fun h' hns hsb hz1 ht1=>?_) hk));have keep:∀a o,s.heap.get? a=some o→h'.get? a=some o:=fun a o e=>(hsb.2 a (qM (qJ e))).trans (Heap.get?_push_of_some _ e);have g:q0 W s {s with heap:=h',toks:=s.toks+(names.zip vs).length} F F:=q0.of_keeps [] b keep (fun Z h=>nomatch h) hz1 ht1 rfl .rfl;let env:Env:=newEnv scope s.heap.objs.size mainGlobals [] (qual ++ ".<locals>.") (some f) (.ref c') none builtinsNs;have st:St prog w W ⟨s,F,env⟩ false (names.zip (xs.map Bd.val)) [] {s with heap:=h',toks:=s.toks+(names.zip vs).length} F:=by
    refine⟨b.grow g,g,b.size,rfl,rfl,hk,⟨_,hns⟩,qH _,fun p hp=>qM (qJ (b.has p hp)),fun Z h=>(nomatch h),fun Z h=>(nomatch h),fun n c hc=>?_,fun n n' c h1 h2=>?_,fun x hx=>?_,fun y bd hy=>?_,?_⟩
    · have h':List.lookup n ([]:List (Str×Addr))=some c:=hc;cases h'
    · have h':List.lookup n ([]:List (Str×Addr))=some c:=h1;cases h'
    · exact absurd rfl (hcell _ (mem_of_lookup (show scope.names.lookup x=some .cell from hx)))
    · obtain⟨h1,x,v,e1,e2,e3⟩:=wW hv hy;subst e1;exact⟨v,.inl ⟨hkinds y h1,_,hns,jC (by simp only[hbm];exact hn) e2⟩,e3⟩
    · intro x y bx by' a hne h1 h2 o1 o2
      refine zS fun nG=>?_;obtain⟨_,z,v,e1,_⟩:=wW hv h1;refine nG ?_;subst e1;cases o1
  refine⟨W.nolimit.keeps (fun a o e=>keep a o (b.base a o e)),kla_codeExpr ?_⟩;exact hex ⟨s,F,env⟩ [] _ F rfl st _ _ _ (rm.deeper env) fun v s' F' g' hv'=>q v s' F' (g.trans g') hv'
end Mine
namespace Mine
noncomputable def iG {α:Type}(lt:Nat→Nat→Bool)(n:Nat):KasT α→Option α
  | .ret a=>some a
  | .ask i j k=>if i<n∧j<n then iG lt n (k (lt i j)) else none
set_option tactic.hygienic true in
theorem ZL {α:Type}{lt:Nat→Nat→Bool}{n:Nat}{cmp:Nat→Nat→(Bool→Shared→Prop)→Shared→Prop}{Q:α→Shared→Prop}{s:Shared}(hc:∀i j C,i<n→j<n→C (lt i j) s→cmp i j C s) :
    ∀{t:KasT α} {a:α},iG lt n t=some a→Q a s→t.kasWp cmp Q s
  | .ret a,b,h,q=>by cases h;exact q
  | .ask i j k,b,h,q=>by
    change ite _ _ _=_ at h;split at h
    · rename_i hij
      exact hc i j _ hij.1 hij.2 (ZL hc h q)
    · cases h
noncomputable def pL (h:Heap)(X:List Nat):yW:=(List.range h.objs.size).filterMap fun a=>if a∈X then none else(h.get? a).map fun o=>(a,o)
set_option tactic.hygienic true in
theorem kF {h:Heap}{X:List Nat}{p:Addr×Obj}:p∈pL h X↔p.1∉X∧h.get? p.1=some p.2:=by
  unfold pL;simp only[List.mem_filterMap];constructor
  · rintro⟨a,_,h1⟩;split at h1
    · cases h1
    · rename_i hn
      cases ho:h.get? a with
      | none=>rw[ho] at h1;cases h1
      | some o=>rw[ho] at h1;cases h1;exact⟨hn,ho⟩
  · rintro⟨h1,h2⟩;refine⟨p.1,List.mem_range.mpr (qJ h2),?_⟩;rw[if_neg h1,h2];rfl
noncomputable abbrev P9:Heap:={objs:=#[]}
theorem yQ (a:Nat):P9.get? a=none:=x4 (wJ _)
theorem PE {h:Heap}{L:Nat}{m:Str→Option Value}(hn:h.Ns L m):Fr P9 L h m:=⟨hn,fun b o e=>absurd (e.symm.trans (yQ b)) (by simp),wJ _⟩
section
variable {prog:Program}{w:World}{A:Around}{E:Value→Shared→Prop}{s:Shared}
theorem QU {L l:Addr}{m:Str→Option Value}{vs:List Value}{f:Value}{kw:List (Str×Value)}{Q:Value→Shared→Prop}(hns:s.heap.Ns L m)(hl:s.heap.IsList l vs.toArray)(h2:2≤vs.length)(h64:vs.length<64)
    (ha1:argsOk "sorted" ⟨[.ref l],kw⟩)(ha2:∀x,argsOk "list.sort" ⟨[.ref x],kw⟩)(ht:∀x,Builtin.«list.sort» ⟨[.ref x],kw⟩=ksk_tree x f false)
    (h:∀kS e1 h',h'.Ns L m→News P9 L h' ((kS,seqObj "list" #[] 0)::(s.heap.objs.size+1,seqObj "list" #[] e1)::pL s.heap [L])→s.heap.objs.size+1<kS →
      KatKeys prog w A.in1.in1 P9 L m kS f (fun ks e s'=>ks.length=vs.length→wpAny (model prog w) A.in1.in1 (keyKind' (List.toArray ks)) (fun κ s''=>(kas_sort vs.length).kasWp (kas_ask prog w A.in1.in1 κ ks) (fun p s3=>KatFin P9 L m kS (s.heap.objs.size+1) ks e e1 (p.toList.map fun i=>vs.getD i Value.none) (fun s4=>Q (.ref (s.heap.objs.size+1)) s4) s3) s'') (fun Z Z=>False) s') vs [] 0 {s with heap:=h'}) :
    wpAny (model prog w) A (call (.builtin "sorted") [.ref l] kw) Q E s:=by
  have F:=PE hns;have N:News P9 L s.heap (pL s.heap [L]):=fun p hp=>by
    obtain⟨h1,h2⟩:=kF.mp hp;exact⟨h2,by simpa using h1,yQ _⟩
  refine call_function_entry_kw kind_sorted plain_sorted entry_sorted ha1 ?_;unfold Builtin.«sorted»;refine qC (m:=checkCount "sorted" 1 1 _) (qI ?_);refine qC (collect_list hl ?_ (by simp only[sizeLine_eq];exact(qU (qK h64 (by exact qA rfl)))));refine qC (wpAny_newList ?_ (by simp only[sizeLine_eq];exact(zT [_] [] (.t (.v 0) (.n 64)) [1] (.l (.v 0) (.n 16777216)) 1 rfl h64)));have hsz:((s.heap.push (seqObj "list" #[] 0)).update s.heap.objs.size (Obj.mapSeq (·++vs.toArray))).objs.size=s.heap.objs.size+1:=by
    rw[Heap.size_update,size_push']
  have hoL:(((s.heap.push (seqObj "list" #[] 0)).update s.heap.objs.size (Obj.mapSeq (·++vs.toArray))).push (seqObj "list" vs.toArray 0)).get? (s.heap.objs.size+1)=some (seqObj "list" vs.toArray 0):=by
    simp only[← hsz];exact Heap.get?_push_size _ rfl
  have keep:∀b o,s.heap.get? b=some o→(((s.heap.push (seqObj "list" #[] 0)).update s.heap.objs.size (Obj.mapSeq (·++vs.toArray))).push (seqObj "list" vs.toArray 0)).get? b=some o:=fun b o q=>by
    refine Heap.get?_push_of_some _ ((Heap.get?_update_other _ _ (xE (qJ q:b<s.heap.objs.size))).trans (Heap.get?_push_of_some _ q))
  show wpAny _ _ _ _ _ {s with heap:=((s.heap.push (seqObj "list" #[] 0)).update s.heap.objs.size (Obj.mapSeq (·++vs.toArray))).push (seqObj "list" vs.toArray 0)};rw[hsz];refine qC (xS (wpAny_call_entry_kw slot_list_sort ⟨_,hoL,rfl⟩ entry_list_sort ?body (ha2 _)))
  case body =>
    show wpAny (model prog w) A.in1.in1 (Builtin.«list.sort» ⟨[.ref (s.heap.objs.size+1)],kw⟩) _ _ _;simp only[(ht (s.heap.objs.size+1))]
    refine kat_keyed (b:=false) (s:={s with heap:=((s.heap.push (seqObj "list" #[] 0)).update s.heap.objs.size (Obj.mapSeq (·++vs.toArray))).push (seqObj "list" vs.toArray 0)})
      (F.kept keep) (N.grown keep) hoL (xE (yL (F.ns.lt:L<s.heap.objs.size))) (yQ _) (fun p hp=>qM (yL (qJ (N p hp).1))) h2 h64 fun kS e1 h' F' N' l0 l1=>?_
    refine kat_keys_mono (h kS e1 h' F'.ns N' l0) fun ks e s' hl' hd=>?_;have hl2:ks.length=vs.length:=by simpa using hl'
    refine xT (hd hl2) (fun κ s'' hk=>?_) fun Z Z x=>x;show(kas_sort vs.length).kasWp (kas_ask prog w A.in1.in1 κ ks) (fun p s3=>KatFin P9 L m kS (s.heap.objs.size+1) ks e e1 (p.toList.map fun i=>vs.getD i Value.none) _ s3) s'';rw[kat_ask_eq (vs:=vs) hl2] at hk ⊢;exact kas_wp_mono hk fun p s3 hk'=>hk'.mono fun s4 hq=>⟨_,rfl,qI ⟨_,rfl,hq⟩⟩
end
end Mine
namespace Mine
variable {prog:Program}{w:World}{W:Wd}{k:Nat}{A:Around}
structure PX (W:Wd)(L D kS:Nat)(m:Str→Option Value)(s₀ s:Shared)(F₀ F:Fz):Prop where
  gx:zX W [L,D,kS] s₀ s F₀ F
  ns:s.heap.Ns L m
  offs:∀p∈F.obs,p.1≠L∧p.1≠D∧p.1≠kS
structure B4 (W:Wd)(L D kS:Nat)(s₀:Shared)(F₀:Fz):Prop where
  base:wC W s₀ F₀
  bL:W.base.get? L=none
  bD:W.base.get? D=none
  bk:W.base.get? kS=none
  tL:¬W.tab L
  tD:¬W.tab D
  tk:¬W.tab kS
  Dnew:s₀.heap.objs.size≤D
  knew:s₀.heap.objs.size≤kS
  LD:L≠D
  Lk:L≠kS
  Dk:D≠kS
theorem PX.base {L D kS:Nat}{m:Str→Option Value}{s₀ s:Shared}{F₀ F:Fz}(K:B4 W L D kS s₀ F₀)(x:PX W L D kS m s₀ s F₀ F):wC W s F :=
  K.base.growX x.gx fun a ha=>by
    simp only[List.mem_cons,List.not_mem_nil,or_false] at ha;rcases ha with rfl | rfl | rfl
    · exact K.bL
    · exact K.bD
    · exact K.bk
theorem YD {L D kS:Nat}{m:Str→Option Value}{s₀:Shared}{F₀:Fz}{xs:List Str}{key:Str→Dat}{f:Value}{oD:Obj}{Fin:List Value→Nat→Shared→Prop}(K:B4 W L D kS s₀ F₀)(rm:zZ k A)
    (hcall:∀x∈xs,∀s F v,wC W s F→F₀.le F→xQ F v (.str x)→yA prog w W k (call f [v]) s F (Is prog w (.dat (key x))))
    (hfin:∀ks e s F,xV F ks (xs.map key)→PX W L D kS m s₀ s F₀ F→s.heap.get? kS=some (seqObj "list" (List.toArray ks) e)→s.heap.get? D=some oD→Fin ks e s) :
    ∀(rx dx:List Str) (r ks:List Value) (e:Nat) (s:Shared) (F:Fz),dx++rx=xs→xV F₀ r (rx.map Dat.str)→xV F ks (dx.map key)→PX W L D kS m s₀ s F₀ F→s.heap.get? kS=some (seqObj "list" (List.toArray ks) e)→s.heap.get? D=some oD →
      KatKeys prog w A P9 L m kS f Fin r ks e s:=by
  intro rx
  induction rx with
  | nil =>
    intro dx r ks e s F hxs hr hks ki hk hD;cases hr;rw[List.append_nil] at hxs;subst hxs;exact KatKeys.nil (hfin ks e s F hks ki hk hD)
  | cons x rx ih =>
    intro dx r ks e s F hxs hr hks ki hk hD;refine hr.eCons fun v r hv hr=>?_;have bs:=ki.base K;refine KatKeys.cons (hcall x (by rw[← hxs];simp) s F v bs ki.gx.sub (hv.mono ki.gx.sub) A _ _ rm fun v' s₁ F₁ g₁ hv'=>?_);have offs₁:∀p∈F₁.obs,p.1≠L∧p.1≠D∧p.1≠kS:=fun p hp=>by
      rcases g₁.new p hp with h | h
      · exact ki.offs p h
      · have lt:∀{c:Nat} {o:Obj},s.heap.get? c=some o→p.1≠c:=fun e q=>absurd (qJ e) (xB (q▸h));refine zS fun nG=>?_;obtain⟨oL,_,_,hoL,_⟩:=ki.ns;refine nG ?_;exact⟨lt hoL,lt hD,lt hk⟩
    refine⟨(kS,seqObj "list" (List.toArray ks) e)::pL s₁.heap [L,kS],fun o'=>(kS,o')::pL s₁.heap [L,kS],PE (Ns.off (W:=W) ki.ns K.tL g₁.keep:s₁.heap.Ns L m),fun p hp=>?_,.head fun p hp=>?_,fun h' c F' N'=>?_⟩
    · rcases qG hp with rfl | hp
      · exact⟨(g₁.keep _ _ K.tk hk:s₁.heap.get? kS=_),xW K.Lk,yQ _⟩
      · obtain⟨h1,h2⟩:=kF.mp hp;exact⟨h2,fun q=>h1 (by simp only[q];exact .head _),yQ _⟩
    · obtain⟨h1,_⟩:=kF.mp hp;exact fun q=>h1 (by simp only[q];exact .tail _ (.head _))
    · have hk':h'.get? kS=some (seqObj "list" (List.toArray (ks++[v'])) c):=(N' _ (.head _)).1;have keep':∀a o,a≠L→a≠kS→s₁.heap.get? a=some o→h'.get? a=some o:=fun a o h1 h2 ho=>(N' (a,o) (.tail _ (kF.mpr ⟨by simp[h1,h2],ho⟩))).1;have gx':zX W [L,D,kS] s₀ {s₁ with heap:=h'} F₀ F₁:=by
        have g01:zX W [L,D,kS] s₀ s₁ F₀ F₁:=ki.gx.trans g₁.x;refine⟨fun a o ht hn ho=>?_,fun p hp=>?_,g01.sub,g01.new,g01.tok,g01.toks,?_,g01.os,g01.gens,g01.tabs.keeps fun a o ha ho=>keep' a o (fun q=>K.tL (q▸ha)) (fun q=>K.tk (q▸ha)) ho⟩
        · have hn':=hn;simp only[List.mem_cons,List.not_mem_nil,or_false,not_or] at hn';exact keep' a o hn'.1 hn'.2.2 (g01.keep a o ht hn ho)
        · obtain⟨h1,h2,h3⟩:=offs₁ p hp;exact keep' _ _ h1 h3 ((bs.grow g₁).has p hp)
        · exact qB K.knew (qU (qJ hk'))
      refine ih (dx++[x]) r (ks++[v']) c {s₁ with heap:=h'} F₁ (by rw[List.append_assoc];exact hxs) hr ?_ ⟨gx',F'.ns,offs₁⟩ hk' (keep' _ _ (xW K.LD) K.Dk (g₁.keep _ _ K.tD hD:s₁.heap.get? D=_));simp only[List.map_append];exact(hks.mono g₁.sub).append (.one hv')
end Mine
namespace Mine
variable {prog:Program}{w:World}{W:Wd}{k:Nat}{A:Around}{s:Shared}{F:Fz}
theorem dL {F:Fz}{vs:List Value}{xs:List Str}(h:xV F vs (xs.map Dat.str)):∀(is:List Nat),(∀i∈is,i<xs.length)→xV F (is.map fun i=>vs.getD i Value.none) ((is.map fun i=>xs.getD i Str.empty).map Dat.str)
  | [],_=>.nil
  | i::is,hb=>by
    have hi:=hb i (.head _);have hd:(xs.map Dat.str)[i]?=some (.str (xs.getD i Str.empty)):=by
      simp only[List.getElem?_map,List.getElem?_eq_getElem hi,List.getD_eq_getElem?_getD,List.getElem?_eq_getElem hi];rfl
    obtain⟨v,h1,h2⟩:=h.get hd;refine .cons ?_ (dL h is fun j hj=>hb j (.tail _ hj));show xQ F (vs.getD i Value.none) _;rw[List.getD_eq_getElem?_getD,h1];exact h2
theorem iB {L l n:Nat}{m:Str→Option Value}{vs:List Value}{xs outs:List Str}{key:Str→Dat}{f:Value}{kw:List (Str×Value)}{κ:SortKind}{lt:Nat→Nat→Bool}{p:Array Nat}{Q:Value→Shared→Prop}{E:Value→Shared→Prop}
    (b:wC W s F)(hl:(l,listOf vs.toArray n)∈F.obs)(hr:xV F vs (xs.map Dat.str))(hns:s.heap.Ns L m)(bL:W.base.get? L=none)(tL:¬W.tab L)(offL:∀p∈F.obs,p.1≠L)(rm:zZ (k+2) A)(h2:2≤xs.length)(h64:xs.length<64)
    (ha1:argsOk "sorted" ⟨[.ref l],kw⟩)(ha2:∀x,argsOk "list.sort" ⟨[.ref x],kw⟩)(ht:∀x,Builtin.«list.sort» ⟨[.ref x],kw⟩=ksk_tree x f false)
    (hcall:∀x∈xs,∀s F' v,wC W s F'→F.le F'→xQ F' v (.str x)→yA prog w W k (call f [v]) s F' (Is prog w (.dat (key x))))
    (hk:∀(A:Around) (ks:List Value) (s:Shared) (F:Fz) (Q:SortKind→Shared→Prop),xV F ks (xs.map key)→(∀p∈F.obs,s.heap.get? p.1=some p.2)→Q κ s→wpAny (model prog w) A (keyKind' (List.toArray ks)) Q (fun Z Z=>False) s)
    (hlt:∀(A:Around) (ks:List Value) (s:Shared) (F:Fz) (i j:Nat) (C:Bool→Shared→Prop),xV F ks (xs.map key)→(∀p∈F.obs,s.heap.get? p.1=some p.2)→i<xs.length→j<xs.length→C (lt i j) s→kas_ask prog w A κ ks i j C s)
    (jZ:iG lt xs.length (kas_sort xs.length)=some p)(hpb:∀i∈p.toList,i<xs.length)(hout:(p.toList.map fun i=>xs.getD i Str.empty)=outs)
    (q:∀v s' F',zX W [L] s s' F F'→s'.heap.Ns L m→(∀p∈F'.obs,p.1≠L)→xQ F' v (.list (outs.map Dat.str))→Q v s'):wpAny (model prog w) A (call (.builtin "sorted") [.ref l] kw) Q E s:=by
  have hlen:vs.length=xs.length:=by simpa using hr.length
  refine QU hns (zL b hl) (by exact(qB h2 (qL hlen.symm))) (by exact(qV (qL hlen) h64)) ha1 ha2 ht fun kS e1 h' hn' N' hDk=>?_;have hk':h'.get? kS=some (seqObj "list" #[] 0):=(N' _ (.head _)).1;have keep':∀a o,a≠L→s.heap.get? a=some o→h'.get? a=some o:=fun a o h1 ho=>(N' (a,o) (.tail _ (.tail _ (kF.mpr ⟨by simp[h1],ho⟩)))).1;have hn:∀{a b:Nat},a≠b→a≠b:=fun h=>h;have hL2:@LT.lt Nat _ L s.heap.objs.size:=hns.lt;have hDk2:@LT.lt Nat _ (s.heap.objs.size+1) kS:=hDk;have K:B4 W L (s.heap.objs.size+1) kS s F:=⟨b,bL,x4 (qB b.size (xI _)),x4 (qB b.size (by exact(zH (qU hDk)))),tL,b.not_tab_of_size (xI _),b.not_tab_of_size (by exact(zH (qU hDk))),xI _,by exact(zH (qU hDk)),hn (by exact(qM (qO (qU hL2)))),hn (by exact(qM (qK hL2 (zH (qU hDk))))),hn (by exact(qM hDk))⟩;have gx:zX W [L,s.heap.objs.size+1,kS] s {s with heap:=h'} F F:=by
    refine⟨fun a o Z h1 ho=>keep' a o (fun e=>h1 (e▸.head _)) ho,fun p hp=>keep' _ _ (offL p hp) (b.has p hp),.rfl,fun Z h=>.inl h,b.tok,qH _,?_,rfl,.rfl,b.tabs.keeps fun a o ha ho=>keep' a o (fun e=>tL (e▸ha)) ho⟩;show _≤h'.objs.size;exact(qU (qV (zH (qU hDk)) (qJ hk':@LT.lt Nat _ kS h'.objs.size)))
  have old:∀p∈F.obs,p.1≠L∧p.1≠s.heap.objs.size+1∧p.1≠kS:=fun p hp=>by
    have h1:@LT.lt Nat _ p.1 s.heap.objs.size:=qJ (b.has p hp);exact⟨offL p hp,hn (by exact(qM (qO (qU h1)))),hn (by exact(qM (qK h1 (zH (qU hDk)))))⟩
  refine YD (A:=A.in1.in1) (xs:=xs) (key:=key) (F₀:=F) (s₀:=s) (oD:=seqObj "list" #[] e1) (W:=W) K (rm.in1.in1) hcall (fun ks e s₂ F₂ hks ki hkS hD hl2=>?_) xs [] vs [] 0 {s with heap:=h'} F rfl hr .nil ⟨gx,hn',old⟩ hk' ((N' _ (.tail _ (.head _))).1:h'.get? (s.heap.objs.size+1)=some (seqObj "list" #[] e1));have b₂:=ki.base K;refine hk _ ks s₂ F₂ _ hks b₂.has ?_;simp only[hlen];refine ZL (lt:=lt) (n:=xs.length) (fun i j C hi hj hC=>hlt _ ks s₂ F₂ i j C hks b₂.has hi hj hC) jZ ?_;refine⟨(kS,seqObj "list" (List.toArray ks) e)::pL s₂.heap [L,kS],fun o'=>(kS,o')::pL s₂.heap [L,kS],PE ki.ns,fun p hp=>?_,.head fun p hp=>?_,fun h₃ c F₃ N₃=>?_⟩
  · rcases qG hp with rfl | hp
    · exact⟨hkS,xW K.Lk,yQ _⟩
    · obtain⟨h1,h2⟩:=kF.mp hp;exact⟨h2,fun q=>h1 (by simp only[q];exact .head _),yQ _⟩
  · obtain⟨h1,_⟩:=kF.mp hp;exact fun q=>h1 (by simp only[q];exact .tail _ (.head _))
  have keep₃:∀a o,a≠L→a≠kS→s₂.heap.get? a=some o→h₃.get? a=some o:=fun a o h1 h2 ho=>(N₃ (a,o) (.tail _ (kF.mpr ⟨by simp[h1,h2],ho⟩))).1;refine⟨(s.heap.objs.size+1,seqObj "list" #[] e1)::pL h₃ [L,s.heap.objs.size+1],fun o'=>(s.heap.objs.size+1,o')::pL h₃ [L,s.heap.objs.size+1],PE F₃.ns,fun p hp=>?_,.head fun p hp=>?_,fun h₄ c₄ F₄ N₄=>?_⟩
  · rcases qG hp with rfl | hp
    · exact⟨(keep₃ _ _ (xW K.LD) K.Dk hD),xW K.LD,yQ _⟩
    · obtain⟨h1,h2⟩:=kF.mp hp;exact⟨h2,fun q=>h1 (by simp only[q];exact .head _),yQ _⟩
  · obtain⟨h1,_⟩:=kF.mp hp;exact fun q=>h1 (by simp only[q];exact .tail _ (.head _))
  have keep₄:∀a o,a≠L→a≠s.heap.objs.size+1→h₃.get? a=some o→h₄.get? a=some o:=fun a o h1 h2 ho=>(N₄ (a,o) (.tail _ (kF.mpr ⟨by simp[h1,h2],ho⟩))).1;have hD₄:h₄.get? (s.heap.objs.size+1)=some (listOf (p.toList.map fun i=>vs.getD i Value.none).toArray c₄):=(N₄ _ (.head _)).1;have hkS₄:=keep₄ _ _ (xW K.Lk) (xW K.Dk) ((N₃ _ (.head _)).1:h₃.get? kS=_);have ksz₄:@LT.lt Nat _ kS h₄.objs.size:=qJ hkS₄;let oF:Obj:=listOf (p.toList.map fun i=>vs.getD i Value.none).toArray c₄;refine q _ _ (F₂.ob (s.heap.objs.size+1) oF) ⟨fun a o hta hna ho=>?_,fun p hp=>?_,ki.gx.sub.trans (Fz.le_ob _ _ _),fun p hp=>?_,ki.gx.tok,ki.gx.toks,?_,ki.gx.os,ki.gx.gens,?_⟩ F₄.ns (fun p hp=>?_) (.list (.head _) ?_)
  · have h1:@LT.lt Nat _ a s.heap.objs.size:=qJ ho;have hna':a≠L:=by simpa using hna
    have n1:a≠s.heap.objs.size+1:=hn (by exact(qM (qO (qU h1))));have n2:a≠kS:=hn (by exact(qM (qK h1 (zH (qU hDk)))));exact keep₄ _ _ hna' n1 (keep₃ _ _ hna' n2 (ki.gx.keep a o hta (by simp[hna',n1,n2]) ho))
  · rcases qG hp with rfl | hp
    · exact hD₄
    · obtain⟨n1,n2,n3⟩:=ki.offs p hp;exact keep₄ _ _ n1 n2 (keep₃ _ _ n1 n3 (b₂.has p hp))
  · rcases qG hp with rfl | hp
    · exact .inr (xI _)
    · exact ki.gx.new p hp
  · show _≤h₄.objs.size;exact(qU (qV (zH (qU hDk)) ksz₄))
  · refine(ki.gx.tabs.keeps fun a o ha ho=>keep₄ _ _ (fun e=>tL (e▸ha)) (fun e=>K.tD (e▸ha)) (keep₃ _ _ (fun e=>tL (e▸ha)) (fun e=>K.tk (e▸ha)) ho)).mono (Fz.le_ob _ _ _)
  · rcases qG hp with rfl | hp
    · exact xW K.LD
    · exact(ki.offs p hp).1
  · simp only[← hout];exact(dL hr p.toList hpb).mono (ki.gx.sub.trans (Fz.le_ob _ _ _))
end Mine
namespace Mine
section
variable {prog:Program}{w:World}{W:Wd}{fr:p4}{fn:Bool}{Γ:xK}{P:yW}{s s':Shared}{F F':Fz}
theorem St.slots (x:St prog w W fr fn Γ P s F)(g:zX W [fr.env.locals] s s' F F')(hn:∀m,s.heap.Ns fr.env.locals m→s'.heap.Ns fr.env.locals m):St prog w W fr fn Γ P s' F':=by
  have kp:∀a o,¬W.tab a→a≠fr.env.locals→s.heap.get? a=some o→s'.heap.get? a=some o:=fun a o ht hne e=>g.keep a o ht (by simpa using hne) e;have newF:∀a,a<s.heap.objs.size→(∀p∈F.obs,p.1≠a)→∀p∈F'.obs,p.1≠a:=fun a ha h p hp e=>by
    rcases g.new p hp with q | q
    · exact h p q e
    · simp only[e] at q;exact absurd ha (xB q)
  have hC:∀n c v,fr.env.cells.lookup n=some c→s.heap.IsCell c v→s'.heap.IsCell c v:=fun n c v hc ⟨o,ho,r⟩=>⟨o,kp _ _ (x.cell _ _ hc).2.2.2.2.1 (x.cell _ _ hc).2.1 ho,r⟩;have hv:∀y v,z7 s.heap fr.env y v→z7 s'.heap fr.env y v:=fun y v h=>h.keeps hn fun c v hc hv=>hC _ c v hc hv;have hb:∀a∈[fr.env.locals],W.base.get? a=none:=fun a ha=>by
    cases qF ha;exact x4 (qB x.bsize x.nsNew)
  obtain⟨mL,hmL⟩:=x.ns
  refine⟨x.base.growX g hb,⟨fun a o ht e=>?_,g.has,x.grow.sub.trans g.sub,fun p hp=>?_,g.tok,qB x.grow.toks g.toks,qB x.grow.size g.size,g.os.trans x.grow.os,x.grow.gens.trans g.gens,g.tabs⟩,
    x.bsize,x.glob,x.blt,x.kind,⟨mL,hn mL hmL⟩,x.nsNew,newF _ hmL.lt x.nsF,x.nsP,?_,?_,x.inj,x.cells,?_,?_⟩
  · refine kp a o ht (fun q=>?_) (x.grow.keep a o ht e);rw[q] at e;exact absurd (qJ e) (xB x.nsNew)
  · rcases g.new p hp with h | h
    · exact x.grow.new p h
    · exact .inr (qB x.grow.size h)
  · intro p hp;obtain⟨h1,h2,h3⟩:=x.prv p hp;exact⟨kp _ _ h2 (x.nsP p hp) h1,h2,newF _ (qJ h1) h3⟩
  · intro n c hc;refine zS fun nG=>?_;obtain⟨⟨v,h1⟩,h2,h3,h4,h5,h6⟩:=x.cell n c hc;refine nG ?_;exact⟨⟨v,hC n c v hc h1⟩,h2,fun hf=>newF _ h1.lt (h3 hf),h4,h5,h6⟩
  · intro y b hy;obtain⟨v,h1,h2⟩:=x.vars y b hy;refine⟨v,hv _ _ h1,?_⟩;cases b with
    | val x=>exact V.is.mono g.sub h2
    | lst ds =>
      obtain⟨a,vs,n,e,h3,h4,h5⟩:=h2;exact⟨a,vs,n,e,kp _ _ (h5.tab x.bsize) h5.loc h3,h4.mono g.sub,h5.new,h5.loc,h5.cel,h5.prv,newF _ (qJ h3) h5.frz⟩
    | byt bs =>
      obtain⟨a,n,e,h3,h5⟩:=h2;exact⟨a,n,e,kp _ _ (h5.tab x.bsize) h5.loc h3,h5.new,h5.loc,h5.cel,h5.prv,newF _ (qJ h3) h5.frz⟩
    | dic kvs =>
      obtain⟨a,kvv,e,h3,h4,h5⟩:=h2;exact⟨a,kvv,e,(let⟨o,es,ep,ho,r⟩:=h3;⟨o,es,ep,kp _ _ (h5.tab x.bsize) h5.loc ho,r⟩),h4.mono g.sub,h5.new,h5.loc,h5.cel,h5.prv,newF _ (DictOf.lt h3) h5.frz⟩
  · intro y z by' bz a hne h1 h2 o1 o2 v1 v2
    obtain⟨u1,w1,_⟩:=x.vars y by' h1
    obtain⟨u2,w2,_⟩:=x.vars z bz h2;cases(hv _ _ w1).unique v1;cases(hv _ _ w2).unique v2;exact x.apart y z by' bz a hne h1 h2 o1 o2 w1 w2
end
section
variable (w:World)(W:Wd)(φ:Env→Prop)
structure s6 (A:Around)(fr:p4):Prop where
  frames:A.frames=some [fr.env]
  frame:fr.env.frame=some fr.env.locals
  ph:φ fr.env
noncomputable def eG (k:Nat)(sc:Scope)(fn:Bool)(Γ:xK)(e:Expr)(x:V):Prop :=
  ∀fr P s F,fr.env.scope=sc→St pw w W fr fn Γ P s F→∀(A:Around) (Q:Value→Shared→Prop) (E:Value→Shared→Prop),zZ k A→s6 φ A fr →
    (∀v s' F',St pw w W fr fn Γ P s' F'→F.le F'→x.is pw w F' v→Q v s')→wpAny (model pw w) A (eval e fr.env) Q E s
noncomputable def K2 (k:Nat)(sc:Scope)(fn:Bool)(Γ:xK)(es:List Expr)(xs:List V):Prop :=
  ∀fr P s F,fr.env.scope=sc→St pw w W fr fn Γ P s F→∀(pos:Pos) (A:Around) (Q:List Value→Shared→Prop) (E:Value→Shared→Prop),zZ k A→s6 φ A fr →
    (∀vs s' F',St pw w W fr fn Γ P s' F'→F.le F'→w8 pw w F' vs xs→Q vs s')→wpAny (model pw w) A (spliced (backTo pos (starEach es fr.env))) Q E s
noncomputable def eH (k:Nat)(sc:Scope)(fn:Bool)(Γ:xK)(e:Expr)(b:Bool):Prop :=
  ∀fr P s F,fr.env.scope=sc→St pw w W fr fn Γ P s F→∀(A:Around) (Q:Bool→Shared→Prop) (E:Value→Shared→Prop),zZ k A→s6 φ A fr →
    (∀s' F',St pw w W fr fn Γ P s' F'→F.le F'→Q b s')→wpAny (model pw w) A (isTrue e fr.env (eval e fr.env)) Q E s
noncomputable def P0 (k:Nat)(sc:Scope)(fn:Bool)(Γ:xK)(op:BoolOp)(es:List Expr)(b:Bool):Prop :=
  ∀fr P s F,fr.env.scope=sc→St pw w W fr fn Γ P s F→∀(A:Around) (Q:Bool→Shared→Prop) (E:Value→Shared→Prop),zZ k A→s6 φ A fr →
    (∀s' F',St pw w W fr fn Γ P s' F'→F.le F'→Q b s')→wpAny (model pw w) A (allTrue op es fr.env) Q E s
noncomputable def PY (k:Nat)(sc:Scope)(fn:Bool)(Γ:xK)(ss:List Stmt)(o:dA):Prop :=
  ∀fr P s F,fr.env.scope=sc→St pw w W fr fn Γ P s F→∀(A:Around) (Q:Flow→Shared→Prop) (E:Value→Shared→Prop),zZ k A→s6 φ A fr →
    (∀fl s' F',o.ok pw w W fr fn P fl s' F'→F.le F'→Q fl s')→wpAny (model pw w) A (execs ss fr.env) Q E s
noncomputable def K1 (k:Nat)(sc:Scope)(fn:Bool)(Γ:xK)(st:Stmt)(o:dA):Prop :=
  ∀fr P s F,fr.env.scope=sc→St pw w W fr fn Γ P s F→∀(A:Around) (Q:Flow→Shared→Prop) (E:Value→Shared→Prop),zZ k A→s6 φ A fr →
    (∀fl s' F',o.ok pw w W fr fn P fl s' F'→F.le F'→Q fl s')→wpAny (model pw w) A (exec st fr.env) Q E s
end
section
variable {w:World}{W:Wd}{φ:Env→Prop}{k:Nat}{sc:Scope}{fn:Bool}{Γ Γ' Γ'':xK}
theorem uG {e:Expr}{x:V}(h:Ev pw w W k sc fn Γ e x):eG w W φ k sc fn Γ e x:=fun fr P s F hsc st A Q E rm al q=>
  h fr P s F hsc st A Q E rm fun v s' F' g hv=>q v s' F' (st.step g) g.sub hv
theorem bQ {e:Expr}{b:Bool}(h:eM pw w W k sc fn Γ e b):eH w W φ k sc fn Γ e b:=fun fr P s F hsc st A Q E rm al q=>
  h fr P s F hsc st A Q E rm fun s' F' g=>q s' F' (st.step g) g.sub
theorem aS {ss:List Stmt}{o:dA}(h:Ex pw w W k sc fn Γ ss o):PY w W φ k sc fn Γ ss o:=fun fr P s F hsc st A Q E rm al q=>h fr P s F hsc st A Q E rm q
theorem ZV {st:Stmt}{o:dA}(h:nX pw w W k sc fn Γ st o):K1 w W φ k sc fn Γ st o:=fun fr P s F hsc st A Q E rm al q=>h fr P s F hsc st A Q E rm q
theorem d6:K2 w W φ k sc fn Γ [] []:=fun fr P s F hsc st pos A Q E rm al q=>spliced_nil (q _ _ _ st .rfl .nil)
theorem j5 {e:Expr}{es:List Expr}{x:V}{xs:List V}(he:eG w W φ k sc fn Γ e x)(hr:K2 w W φ k sc fn Γ es xs)
    (hs:autoParam (∀env,starEach (e::es) env=(false,eval e env)::starEach es env) au1):K2 w W φ k sc fn Γ (e::es) (x::xs):=fun fr P s F hsc st pos A Q E rm al q=>by
  rw[hs];exact spliced_cons (he fr P s F hsc st A _ E rm al fun u s₁ F₁ st₁ h₁ hu=>hr fr P s₁ F₁ hsc st₁ pos A _ E rm al fun vs s₂ F₂ st₂ h₂ hv=>q _ s₂ F₂ st₂ (h₁.trans h₂) (.cons (V.is.mono h₂ hu) hv))
theorem YW {es:List Expr}{pos:Pos}{ds:List Dat}(h:K2 w W φ k sc fn Γ es (ds.map V.dat))(hz:autoParam (ds.length≤sizeLine) au6):eG w W φ k sc fn Γ (.List es pos) (.dat (.list ds)):=fun fr P s F hsc st A Q E rm al q=>
  List_ (h fr P s F hsc st pos A _ E rm al fun vs s₁ F₁ st₁ h₁ hv=>
    zF (q _ _ _ (st₁.step (q0.push st₁.base _ (qH _) rfl)) (h₁.trans (Fz.le_ob _ _ _)) (.list (.head _) ((w8.reps hv).mono (Fz.le_ob _ _ _))))
      (by show vs.toArray.size≤sizeLine;simp only[List.size_toArray,(w8.reps hv).length];exact hz))
theorem Y1 {l r:Expr}{op:CmpOp}{pos:Pos}{x y z:V}{b:Bool}(hl:eG w W φ k sc fn Γ l x)(hr:eG w W φ k sc fn Γ r y)(ho:p5 pw w W k op x y z)(ht:PW pw w W k z b)
    (hm:autoParam (behindInMarks op r=false) au9):eH w W φ k sc fn Γ (.Compare l [op] [r] pos) b:=fun fr P s F hsc st A Q E rm al q=>
  wK (hl fr P s F hsc st A _ E rm al fun u s₁ F₁ st₁ h₁ hu=>
    hr fr P s₁ F₁ hsc st₁ A _ E rm al fun v s₂ F₂ st₂ h₂ hv=>
      ho s₂ F₂ u v st₂.base (V.is.mono h₂ hu) hv A _ E rm fun z s₃ F₃ g₃ hz=>
        ht s₃ F₃ z (st₂.step g₃).base hz A Q E rm fun s₄ F₄ g₄=>q s₄ F₄ ((st₂.step g₃).step g₄) (((h₁.trans h₂).trans g₃.sub).trans g₄.sub)) hm
theorem YZ {e:Expr}{x:V}{b:Bool}(he:eG w W φ k sc fn Γ e x)(ht:PW pw w W k x b)
    (hs:autoParam (∀env,isTrue e env (eval e env)=(do let v←eval e env;standAt e.pos;holding [v] (truthy v))) au1):eH w W φ k sc fn Γ e b:=fun fr P s F hsc st A Q E rm al q=>
  u0 (he fr P s F hsc st A _ E rm al fun u s₁ F₁ st₁ h₁ hu=>ht s₁ F₁ u st₁.base hu A Q E rm fun s₂ F₂ g₂=>q s₂ F₂ (st₁.step g₂) (h₁.trans g₂.sub)) (hs _)
theorem Y0 {e:Expr}{pos:Pos}{b:Bool}(he:eH w W φ k sc fn Γ e b):eH w W φ k sc fn Γ (.UnaryOp .Not e pos) (!b):=fun fr P s F hsc st A Q E rm al q=>
  wpAny_isTrue_Not (he fr P s F hsc st A _ E rm al fun s₁ F₁ st₁ h₁=>q s₁ F₁ st₁ h₁)
theorem nN {op:BoolOp}{es:List Expr}{pos:Pos}{b:Bool}(h:P0 w W φ k sc fn Γ op es b):eH w W φ k sc fn Γ (.BoolOp op es pos) b:=fun fr P s F hsc st A Q E rm al q=>
  s8 (h fr P s F hsc st A Q E rm al q)
theorem nO:P0 w W φ k sc fn Γ .Or [] false:=fun fr P s F hsc st A Q E rm al q=>mQ (q _ _ st .rfl)
theorem vT {e:Expr}{es:List Expr}{a b:Bool}(he:eH w W φ k sc fn Γ e a)(hr:a=false→P0 w W φ k sc fn Γ .Or es b):P0 w W φ k sc fn Γ .Or (e::es) (a||b):=fun fr P s F hsc st A Q E rm al q=>
  gV (he fr P s F hsc st A _ E rm al fun s₁ F₁ st₁ h₁=>by
    cases a with
    | false=>exact hr rfl fr P s₁ F₁ hsc st₁ A Q E rm al fun s₂ F₂ st₂ h₂=>q s₂ F₂ st₂ (h₁.trans h₂)
    | true=>exact q s₁ F₁ st₁ h₁)
theorem YX (ok:bX W){i:Nat}{y:Str}{es:List Expr}{xs:List V}{p pos:Pos}{r:V}(hc:jM w W k i xs r)(ha:K2 w W φ k sc fn Γ es xs)
    (hk:autoParam (sc.names.lookup y=some .globalImplicit) au4)(hm:autoParam (i∈nI) au2)(hn:autoParam ((xC i).name=y) au4)
    (hs:autoParam (∀env,(starEach es env).any (·.1)=false) au1)(hd:autoParam ((y==("__debug__":Str))=false) au2):eG w W φ k sc fn Γ (.Call (.Name y p) es [] pos) r:=fun fr P s F hsc st A Q E rm al q=>by
  refine zS fun nG=>?_;obtain⟨a,f⟩:=ok.fns i hm;obtain⟨o,pm,code,doc,h1,h2,_⟩:=id f.obj;refine nG ?_;rw[(rfl:eval (.Call (.Name y p) es [] pos) fr.env=(do callWith pos (← eval (.Name y p) fr.env) [] (backTo pos (starEach es fr.env)) []))];refine qC ((vU (prog:=pw) (w:=w) (k:=k) (fn:=fn) (Γ:=Γ) hk (by rw[← hn];exact f.glob) hd) fr P s F hsc st A _ E rm fun v s₁ F₁ g₁ hv=>?_);cases hv;have h':=ha fr P s₁ F₁ hsc (st.step g₁) pos A (fun vs s'=>(s'.heap.get? a=some o∧o.data=.func (docDef (xC i).name (xC i).params (xC i).body (xC i).scope pm code doc))∧wpAny (model pw w) A (call (.ref a) ([]++vs) []) Q E s') E rm al fun vs s₂ F₂ st₂ h₂ hv=>⟨⟨st₂.base.base _ _ h1,h2⟩,hc a f s₂ F₂ vs st₂.base hv A Q E rm fun z s₃ F₃ g₃ hz=>q z s₃ F₃ (st₂.step g₃) ((g₁.sub.trans h₂).trans g₃.sub) hz⟩;refine callWith_function (o:=o) (fd:=docDef (xC i).name (xC i).params (xC i).body (xC i).scope pm code doc) ?_;have hs':=hs fr.env;cases hE:starEach es fr.env with
  | nil =>
    rw[hE] at h';unfold evalArgs;show wpAny _ _ (spliced [] >>= _) _ E _;refine qC (xT h' (fun vs s' h'=>?_) fun Z Z x=>x);refine xS ?_;exact qC (qI (qC (qI (qI h'))))
  | cons p r =>
    obtain⟨b,t⟩:=p;rw[hE] at h' hs';simp only[List.any_cons,Bool.or_eq_false_iff] at hs';obtain⟨rfl,_⟩:=hs';exact evalArgs_plain h'
theorem aR {st:Stmt}{rest:List Stmt}{o:dA}(h:K1 w W φ k sc fn Γ st (.next Γ'))(hr:PY w W φ k sc fn Γ' rest o):PY w W φ k sc fn Γ (st::rest) o :=
  fun fr P s F hsc x A Q E rm al q=>xP (h fr P s F hsc x A _ E rm al fun fl s' F' ho hF=>by
    obtain⟨rfl,x'⟩:=ho;exact hr fr P s' F' hsc x' A Q E rm al fun fl s'' F'' ho' hF'=>q fl s'' F'' ho' (hF.trans hF'))
theorem PF {ss:List Stmt}(h:PY w W φ k sc fn Γ ss (.next Γ'))(hw:∀y b,Γ''.lookup y=some b→Γ'.lookup y=some b):PY w W φ k sc fn Γ ss (.next Γ'') :=
  fun fr P s F hsc st A Q E rm al q=>h fr P s F hsc st A Q E rm al fun fl s' F' ho hF=>q fl s' F' ⟨ho.1,ho.2.weaken hw⟩ hF
theorem nK {y:Str}{pos pos':Pos}{e:Expr}{x:V}(he:eG w W φ k sc fn Γ e x)(hk:sc.names.lookup y=some .local ∨ (sc.names.lookup y=some .cell∧fn=true))
    (hs:autoParam (∀env,env.scope=sc→swapsWith e (some (.Name y pos')) pos.line env=pure false) au5):K1 w W φ k sc fn Γ (.Assign [.Name y pos'] e pos) (.next ((y,.val x)::Γ)) :=
  fun fr P s F hsc st A Q E rm al q=>kI (he fr P s F hsc st A _ E rm al fun v s₁ F₁ st₁ h₁ hv=>
    st₁.storeV hv (by rw[← hsc] at hk;exact hk) fun s' st'=>q _ s' F₁ ⟨rfl,st'⟩ h₁) (hs _ hsc)
theorem ZW {t:Expr}{body orelse:List Stmt}{pos:Pos}{b:Bool}{o:dA}(ht:eH w W φ k sc fn Γ t b)(h1:b=true→PY w W φ k sc fn Γ body o)(h2:b=false→PY w W φ k sc fn Γ orelse o) :
    K1 w W φ k sc fn Γ (.If t body orelse pos) o :=
  fun fr P s F hsc st A Q E rm al q=>wpAny_If (ht fr P s F hsc st A _ E rm al fun s₁ F₁ st₁ hF₁=>by
    cases b with
    | true=>exact h1 rfl fr P s₁ F₁ hsc st₁ A Q E rm al fun fl s' F' ho hF=>q fl s' F' ho (hF₁.trans hF)
    | false=>exact h2 rfl fr P s₁ F₁ hsc st₁ A Q E rm al fun fl s' F' ho hF=>q fl s' F' ho (hF₁.trans hF))
end
end Mine
namespace Mine
variable {w:World}{W:Wd}{φ:Env→Prop}{k:Nat}{sc:Scope}{fn:Bool}{Γ Γ' Γ'':xK}
theorem KG {y:Str}{es:List Expr}{xs:List V}{p pos:Pos}{a:Nat}{o:Obj}{fd:FuncData}{msg:Str}(hf:Ev pw w W k sc fn Γ (.Name y p) (.ref a))
    (ho:W.base.get? a=some o)(hd:o.data=.func fd)(ha:K2 w W φ k sc fn Γ es xs)(hc:V7 w W k (.ref a) xs msg)
    (hs:autoParam (∀env,(starEach es env).any (·.1)=false) au1):eG w W φ k sc fn Γ (.Call (.Name y p) es [] pos) (.dat (.str msg)):=fun fr P s F hsc st A Q E rm al q=>by
  rw[(rfl:eval (.Call (.Name y p) es [] pos) fr.env=(do callWith pos (← eval (.Name y p) fr.env) [] (backTo pos (starEach es fr.env)) []))];refine qC (hf fr P s F hsc st A _ E rm fun v s₁ F₁ g₁ hv=>?_);cases hv;have h':=ha fr P s₁ F₁ hsc (st.step g₁) pos A (fun vs s'=>(s'.heap.get? a=some o∧o.data=.func fd)∧wpAny (model pw w) A (call (.ref a) ([]++vs) []) Q E s') E rm al fun vs s₂ F₂ st₂ h₂ hv=>by
    refine⟨⟨st₂.base.base _ _ ho,hd⟩,?_⟩;have hfr:pO [fr.env]=[fr.env.locals]:=by unfold pO;simp[al.frame]
    refine hc s₂ F₂ vs st₂.base hv A [fr.env] Q E rm al.frames ?_ ?_ ?_ fun v s₃ F₃ gx hsl hv₃=>?_
    · intro env he;rw[List.mem_singleton.mp he];refine zS fun nG=>?_;obtain⟨m,o',es',ep,ho',hd',_⟩:=st₂.ns;refine nG ?_;exact⟨by rw[st₂.kind];decide,_,o',al.frame,ho',fun vs q=>by rw[hd'] at q;cases q⟩
    · intro p hp;rw[hfr];exact fun hm=>st₂.nsF p hp (qF hm)
    · intro a' ha';rw[hfr] at ha';rw[List.mem_singleton.mp ha'];exact x4 (qB st₂.bsize st₂.nsNew)
    · rw[hfr] at gx hsl;refine q v s₃ F₃ (st₂.slots gx fun m ⟨o',es',ep,ho',hd',r⟩=>?_) ((g₁.sub.trans h₂).trans gx.sub) hv₃;obtain⟨sl,h3⟩:=hsl _ (.head _) o' ho';exact⟨_,es',ep,h3,hd',r⟩
  refine callWith_function (o:=o) (fd:=fd) ?_;have hs':=hs fr.env;cases hE:starEach es fr.env with
  | nil =>
    rw[hE] at h';unfold evalArgs;show wpAny _ _ (spliced [] >>= _) _ E _;refine qC (xT h' (fun vs s' h'=>?_) fun Z Z x=>x);refine xS ?_;exact qC (qI (qC (qI (qI h'))))
  | cons p r =>
    obtain⟨b,t⟩:=p;rw[hE] at h' hs';simp only[List.any_cons,Bool.or_eq_false_iff] at hs';obtain⟨rfl,_⟩:=hs';exact evalArgs_plain h'
theorem KH (ok:bX W){i:Nat}{y d:Str}{e₁ e₂:Expr}{x₁ x₂ r:V}{p p₁ pos:Pos}(hc:jM w W k i [x₁,x₂] r)(h1:eG w W φ (k+1) sc fn Γ e₁ x₁)(h2:eG w W φ (k+1) sc fn Γ e₂ x₂)
    (hk:autoParam (sc.names.lookup ("_law_asked":Str)=some .globalImplicit) au4)(hkd:autoParam (sc.names.lookup d=some .globalImplicit) au4)(hm:autoParam (i∈nI) au2)(hn:autoParam ((xC i).name=d) au4)
    (hd:autoParam ((d==("__debug__":Str))=false) au2)(hs:autoParam (∀env,starEach [.Name d p₁,e₁,e₂] env=(false,eval (.Name d p₁) env)::starEach [e₁,e₂] env) au1)(hs1:autoParam (∀env,starEach [e₁,e₂] env=(false,eval e₁ env)::starEach [e₂] env) au1)(hs2:autoParam (∀env,starEach [e₂] env=[(false,eval e₂ env)]) au1) :
    eG w W φ (k+1) sc fn Γ (.Call (.Name ("_law_asked":Str) p) [.Name d p₁,e₁,e₂] [] pos) r:=by
  refine zS fun nG=>?_;obtain⟨b,f⟩:=ok.fns i hm;obtain⟨o,pm,code,doc,h3,h4,_⟩:=id f.obj;refine nG ?_;refine YX ok (i:=31) (JN h3 h4 (hc b f)) (j5 (uG (vU hkd (by rw[← hn];exact f.glob) hd)) (j5 h1 (j5 h2 d6 ?_) ?_) ?_) hk (by decide) rfl (fun env=>?_)
  · exact hs2
  · exact hs1
  · exact hs
  · simp only[hs,hs1,hs2];rfl
theorem cW (ok:bX W){i:Nat}{d msg:Str}{e₁ e₂:Expr}{x₁ x₂:V}{p p₁ pos:Pos}(hr:∀a,mA W (xC i) a→sR w W k (.ref a) [x₁,x₂] msg)(h1:eG w W φ (k+1) sc fn Γ e₁ x₁)(h2:eG w W φ (k+1) sc fn Γ e₂ x₂)
    (hk:autoParam (sc.names.lookup ("_law_asked":Str)=some .globalImplicit) au4)(hkd:autoParam (sc.names.lookup d=some .globalImplicit) au4)(hm:autoParam (i∈nI) au2)(hn:autoParam ((xC i).name=d) au4)
    (hd:autoParam ((d==("__debug__":Str))=false) au2)(hs:autoParam (∀env,starEach [.Name d p₁,e₁,e₂] env=(false,eval (.Name d p₁) env)::starEach [e₁,e₂] env) au1)(hs1:autoParam (∀env,starEach [e₁,e₂] env=(false,eval e₁ env)::starEach [e₂] env) au1)(hs2:autoParam (∀env,starEach [e₂] env=[(false,eval e₂ env)]) au1) :
    eG w W φ (k+1) sc fn Γ (.Call (.Name ("_law_asked":Str) p) [.Name d p₁,e₁,e₂] [] pos) (.dat (.str msg)):=by
  refine zS fun nG=>?_;obtain⟨b,f⟩:=ok.fns i hm;obtain⟨o,pm,code,doc,h3,h4,_⟩:=id f.obj;obtain⟨a,g⟩:=ok.fns 31 (by decide);obtain⟨o',pm',code',doc',h5,h6,_⟩:=id g.obj;refine nG ?_;refine KG (vU hk g.glob (by exact rfl)) h5 h6 (j5 (uG (vU hkd (by rw[← hn];exact f.glob) hd)) (j5 h1 (j5 h2 d6 ?_) ?_) ?_) (VO ok h3 h4 (hr b f) g) (fun env=>?_)
  · exact hs2
  · exact hs1
  · exact hs
  · simp only[hs,hs1,hs2];rfl
inductive SI (w:World)(W:Wd)(k:Nat)(fr:p4)(fn:Bool)(Γ:xK)(tgt:Expr)(it:Value)(xs:List V)(P:yW)(F:Fz)(m:Nat)(s':Shared):Prop
  | mk (i:Nat) (N':yW) (F':Fz) (h:m=xs.length+1-i) (hil:i≤xs.length) (hF:F.le F') (st:St pw w W fr fn Γ (N'++P) s' F') (hnew:∀p∈N',fr.sb.heap.objs.size≤p.1) (hPN:∀p∈P,∀q∈N',q.1≠p.1) (hI:uO pw w W k tgt it (xs.drop i) F' N'):SI w W k fr fn Γ tgt it xs P F m s'
theorem YV {tgt iter:Expr}{body:List Stmt}{pos:Pos}{xs:List V}{Γ₁:V→xK}(hit:wR pw w W k sc fn Γ tgt iter xs)
    (turn:∀x,x∈xs→B7 pw w W k sc fn Γ tgt x (Γ₁ x)∧PY w W φ k sc fn (Γ₁ x) body (.next Γ))
    (hs:autoParam (∀env x,foldedSetIterable iter env x=pure x) au5):K1 w W φ k sc fn Γ (.For tgt iter body [] pos) (.next Γ):=by
  intro fr P s F hsc st A Q E rm al q;refine wpAny_For ?_ (hs _);refine hit fr P s F hsc st A _ E rm ?_;intro it s₂ F₂ N g hN hI _
  refine codeAny_forLoop_any (SI w W k fr fn Γ tgt it xs P F)
    ?_ (xs.length+1) ⟨0,N,F₂,rfl,wJ _,g.sub,st.frame g hN,fun p hp=>qB st.grow.size (hN p hp).2.1,
      fun p hp r hr e=>absurd (qJ (st.prv p hp).1) (xB (e▸(hN r hr).2.1)),by simpa using hI⟩
  rintro m s' ⟨i,N',F',rfl,hil,hF,st',hnew,hPN,hI'⟩;have held:=n9.of_st st' hnew;by_cases hi:i<xs.length
  · rw[List.drop_eq_getElem_cons hi] at hI';refine xT (hI' s' F' A (fun v s₂=>wpAny (model pw w) A (assign tgt fr.env v) (fun Z s₂=>wpAny (model pw w) A (execs body fr.env) (fun f s₃=>match f with
            | .next | .cont=>∃m,m<xs.length+1-i∧SI w W k fr fn Γ tgt it xs P F m s₃
            | .brk=>Q .next s₃
            | .ret v=>Q (.ret v) s₃) (notedBy (model pw w) A fr.env fun e s'=>cameBackBy (model pw w) A fr.env E e s') s₂) (notedBy (model pw w) A fr.env fun e s'=>cameBackBy (model pw w) A fr.env E e s') s₂) (notedBy (model pw w) A fr.env fun e s'=>cameBackBy (model pw w) A fr.env E e s') st'.base .rfl held rm ?_) (fun r s₁ h=>?_) fun Z Z h=>h
    · intro v s₃ F₃ N₃ g₃ hN₃ hin₃ hv hI₃;have mem:∀p∈N₃,∃q∈N',q.1=p.1:=fun p hp=>let⟨q,hq,e⟩:=qS (hN₃▸zE hp:p.1∈N'.map (·.1));⟨q,hq,e⟩;obtain⟨ha,hb⟩:=turn _ (wF hi);refine ha fr (N₃++P) s₃ F₃ v hsc (st'.stepX g₃ (fun p hp=>hN₃▸zE hp) hin₃ hPN hnew) hv A _ _ rm fun s₄ F₄ st₄ hF₄=>?_;refine hb fr (N₃++P) s₄ F₄ hsc st₄ A _ _ rm al fun fl s₅ F₅ ho hF₅=>?_;obtain⟨rfl,st₅⟩:=ho;refine⟨xs.length+1-(i+1),by exact(rX (qO (qU hi))),i+1,N₃,F₅,rfl,hi,((hF.trans g₃.sub).trans hF₄).trans hF₅,st₅,(fun p hp=>let⟨q,hq,e⟩:=mem p hp;e▸hnew q hq:∀p∈N₃,fr.sb.heap.objs.size≤p.1),(fun p hp r hr=>let⟨q,hq,e⟩:=mem r hr;e▸hPN p hp q hq:∀p∈P,∀q∈N₃,q.1≠p.1),?_⟩;cases hd:xs.drop (i+1) with
      | nil =>
        rw[hd] at hI₃;intro s F₁ A Q E b hle hh r q;exact hI₃ s F₁ A Q E b ((hF₄.trans hF₅).trans hle) hh r q
      | cons x r =>
        rw[hd] at hI₃;intro s F₁ A Q E b hle hh r q;exact hI₃ s F₁ A Q E b ((hF₄.trans hF₅).trans hle) hh r q
    · cases r with
      | none=>exact h.elim
      | some v=>exact h
  · have hie:i=xs.length:=by exact(kK hil (wV hi))
    rw[(List.drop_eq_nil_of_le (by exact(Nat.le_of_not_lt hi)):xs.drop i=[])] at hI';refine hI' s' F' A _ _ st'.base .rfl held rm fun s₃ F₃ g₃=>?_;exact vG (q _ s₃ F₃ ⟨rfl,(st'.stepX (N':=[]) g₃ (fun Z h=>nomatch h) (fun Z h=>nomatch h) hPN hnew:St pw w W fr fn Γ P s₃ F₃)⟩ (hF.trans g₃.sub))
end Mine
namespace Mine
variable {prog:Program}{w:World}{W:Wd}{k:Nat}{sc:Scope}{fn:Bool}{Γ:xK}
theorem b8 {A:Around}{E:Value→Shared→Prop}{s:Shared}{l:Addr}{items:Array Value}{n:Nat}{k:Int}{t:Tok}{v:Value}{Q:Unit→Shared→Prop}(ho:s.heap.get? l=some (listOf items n))
    (h0:0≤k)(hfit:k<2^63)(hn:k<items.size)
    (hQ:∀h',h'.get? l=some (listOf (items.setIfInBounds k.toNat v) n)→Heap.SameBut l s.heap h'→Q () {s with heap:=h'}) :
    wpAny (model prog w) A (setItem (.ref l) (.int k t) v) Q E s:=by
  have hl:s.heap.IsList l items:=⟨_,ho,rfl,_,rfl⟩;have hd:(listOf items n).data=.seq items n:=rfl;unfold setItem
  try with_reducible refine xS ?_
  first | refine qC (qI ?_) | skip
  refine qC (wpAny_sequenceKey hl.typeIs (by exact rfl) ?_)
  refine qC (wpAny_callSpecial?_slot (name:=Str.ofString "__setitem__") hl.typeIs slot_list_setitem
    (jV slot_list_setitem hl.typeIs entry_list_setitem ?_ (args_list_setitem _ _ _)))
  show wpAny _ _ (Builtin.List.listSubscript? (.int k t) >>= _) _ _ s;refine qC (wpAny_listSubscript_int (fitsIndex_of h0 hfit) ?_);clear hfit;obtain⟨j,rfl⟩:=tH h0;have hj:j<items.size:=by exact(zT [j,items.size] [] (.T (.c (.v 0)) (.c (.v 1))) [1] (.t (.v 0) (.v 1)) 1 rfl hn)
  have hx':items[j]?=some items[j]:=Array.getElem?_eq_getElem hj;show wpAny _ _ ((seqItemAt l j >>= fun r=>pure (r.map (j,·))) >>= _) _ _ s;refine qC (qC (wpAny_seqItemAt ho hd (qI ?_)));rw[hx'];show wpAny _ _ (setSeqItemAt l j v >>= _) _ _ s;have hmap:Obj.mapSeq (·.setIfInBounds j v) (listOf items n)=listOf (items.setIfInBounds j v) n:=by simp[Obj.mapSeq]
  have hfin:(s.heap.update l (Obj.mapSeq (·.setIfInBounds j v))).get? l=some (listOf (items.setIfInBounds j v) n):=by
    rw[Heap.get?_update_self _ ho (by rw[hmap];rfl),hmap]
  refine qC (wpAny_setSeqItemAt ho hd ?_)
  first
    | exact qC (qI (qI ⟨.none,rfl,qI (hQ _ hfin (zP ..))⟩))
    | exact qI ⟨.none,rfl,qI (hQ _ hfin (zP ..))⟩
theorem xV.set {F:Fz}{v:Value}{d:Dat}(hv:xQ F v d):∀{vs:List Value} {ds:List Dat},xV F vs ds→∀j,xV F (vs.set j v) (ds.set j d)
  | _,_,.nil,_=>.nil
  | _,_,.cons h1 h2,0=>.cons hv h2
  | _,_,.cons h1 h2,j+1=>.cons h1 (xV.set hv h2 j)
theorem i7 {y:Str}{p spos pos:Pos}{i e:Expr}{ds:List Dat}{j:Nat}{a b:Int}(hy:Γ.lookup y=some (.lst ds))(hi:Ev prog w W k sc fn Γ i (.dat (.int (j:Int))))(he:Ev prog w W k sc fn Γ e (.dat (.int b)))
    (hj:ds[j]?=some (.int a))(hz:ds.length≤sizeLine)
    (ha:autoParam (∀ov iv new,augStore i ov iv new=(do holding [new,ov,iv] (setItem ov iv new);release [new,ov,iv] [];pure .next)) au10)
    (hd:autoParam ((y==("__debug__":Str))=false) au2)(hn:autoParam ((y==("__classdict__":Str))=false) au2) :
    nX prog w W k sc fn Γ (.AugAssign (.Subscript (.Name y p) i spos) .Add e pos) (.next ((y,.lst (ds.set j (.int (a+b))))::Γ)):=fun fr P s F hsc st A Q E rm q=>by
  have hlt:j<ds.length:=(List.getElem?_eq_some_iff.mp hj).1;have hz':ds.length≤16777216:=hz;refine wpAny_AugAssign_Subscript_any ?_ ha;refine cK st hy (fun v hv hb=>?_) hd hn;refine zS fun nG=>?_;obtain⟨l,vs,n,rfl,ho,hr,hp⟩:=hb;refine nG ?_;refine hi fr P s F hsc st A _ E rm fun iv s₁ F₁ g₁ hiv=>?_;refine zS fun nG=>?_;have st₁:=st.step g₁;have hv₁:=hv.step st g₁;obtain⟨v',hv',l',vs',n',e',ho₁,hr₁,hp₁⟩:=st₁.vars y _ hy;refine nG ?_;cases hv'.unique hv₁;cases e';refine xQ.eInt hiv fun Z hit=>?_;obtain⟨u,hu,hur⟩:=hr₁.get hj;refine wpAny_getItem_list (x:=u) ⟨_,ho₁,rfl,_,rfl⟩ (by exact(xM _)) (by exact(eO hlt (FN hz' (by decide)))) (by simpa using hu) ?_;refine he fr P s₁ F₁ hsc st₁ A _ E rm fun v s₂ F₂ g₂ hv₂=>?_;have st₂:=st₁.step g₂;refine xQ.eInt hv₂ fun Z hvt=>?_;cases(xQ.mono g₂.sub hur) with
  | int hut =>
    refine PySem.P.iadd_int ?_;refine zS fun nG=>?_;have g₃:=q0.tk st₂.base (.int (a+b));have st₃:=st₂.step g₃;have hv₃:=(hv₁.step st₁ g₂).step st₂ g₃;obtain⟨v',hv',l',vs₃,n₃,e',ho₃,hr₃,hp₃⟩:=st₃.vars y _ hy;refine nG ?_;cases hv'.unique hv₃;cases e';refine b8 ho₃ (by exact(xM _)) (by exact(eO hlt (FN hz' (by decide)))) (by simp;exact(qK hlt (qL hr₃.length.symm))) fun h' ho' hs'=>?_;simp only[Int.toNat_natCast] at ho';rw[(by simp:vs₃.toArray.setIfInBounds j (.int (a+b) s₂.toks)=(vs₃.set j (.int (a+b) s₂.toks)).toArray)] at ho';exact q _ _ _ ⟨rfl,st₃.turn (t:=s₂.toks+1) hy rfl hv₃ hp₃ hs' (qH _) ⟨l,_,_,rfl,ho',xV.set xQ.tk_int hr₃ j,hp₃⟩⟩ ((g₁.sub.trans g₂.sub).trans g₃.sub)
theorem lH {α:Type}{h:α→Dat}:∀(l:List α) (i:Nat),uT i (l.map h)=(l.zipIdx i).map fun p=>Dat.tuple [.int (p.2:Int),h p.1]
  | [],i=>rfl
  | a::l,i=>congrArg (Dat.tuple [.int (i:Int),h a]::·) (lH l (i+1))
theorem KM {α:Type}{e:Expr}{elts:List Expr}{x1:Nat}{tp:Pos}{y:Str}{p pos:Pos}{l:List α}{h:α→Dat}(hB:kZ W sc y (.type "enumerate"))
    (he:Ev prog w W k sc fn Γ e (.dat (.list (l.map h))))(hs:autoParam (∀env,starEach [e] env=[(false,eval e env)]) au1) :
    wR prog w W k sc fn Γ (.Tuple elts x1 tp) (.Call (.Name y p) [e] [] pos) (l.zipIdx.map fun q=>V.dat (.tuple [.int (q.2:Int),h q.1])):=by
  have:=c8 (elts:=elts) (x1:=x1) (tp:=tp) (p:=p) (pos:=pos) hB he hs;rw[lH,List.map_map] at this;exact this
noncomputable def jL (cells:List Int)(q:Int×Nat):List Int:=cells.set (q.2%7) (cells.getD (q.2%7) 0+q.1.fmod 1000003)
noncomputable def z8 (ns:List Int):List Int:=(ns.take 60).zipIdx.foldl jL [5,8,10,7,6,14,4]
theorem lP (l:List (Int×Nat)):∀a:List Int,(l.foldl jL a).length=a.length:=by
  induction l with
  | nil=>intro a;rfl
  | cons q l ih=>intro a;simp only[List.foldl_cons,ih];simp[jL]
theorem dC {l:List Int}{i:Nat}(hi:i<l.zipIdx.length)(a:List Int):((l.zipIdx.take (i+1)).foldl jL a)=jL ((l.zipIdx.take i).foldl jL a) l.zipIdx[i]:=by
  simp only[j4 hi,List.foldl_append];rfl
theorem JM (ok:bX W){ns:List Int}(hn:ns.length≤1000):jM w W (k+1) 25 [.dat (.list (ns.map Dat.int))] (.dat (.list ((z8 ns).map Dat.int))):=by
  refine kX ["script"] (fun Z Z Z=>Q7 fun Z=>rfl) (by exact rfl) (by decide) rfl ?_;have hz2:sizeLine=16777216:=rfl;refine xU (u9 (ds:=[.int 5,.int 8,.int 10,.int 7,.int 6,.int 14,.int 4]) (qE qX (qE qX (qE qX (qE qX (qE qX (qE qX (qE qX qN))))))) (.inl rfl)) ?_;let cs:Nat→List Int:=fun i=>((ns.take 60).zipIdx.take i).foldl jL [5,8,10,7,6,14,4];have cl:∀i,(cs i).length=7:=fun i=>lP _ _;let Γs:Nat→xK:=fun i=>[("cells",.lst ((cs i).map Dat.int)),("script",.val (.dat (.list (ns.map Dat.int))))];refine xU (yE (Γs:=Γs) (n:=(ns.take 60).zipIdx.length) (KM (l:=ns.take 60) (h:=Dat.int) (zA ok (by decide) rfl (by decide +kernel)) (d7 (n:=60) (qD rfl) (kH qX) (by exact(qB hn (by exact qA rfl))))) (Sub.cons rfl (.cons rfl .nil)).go ?_ (.inl ⟨by simp,rfl⟩)) ?_
  · intro i x hi hx;obtain⟨_,rfl⟩:=vR hx;refine⟨_,kQ (.inl rfl) (.inl rfl),?_⟩;generalize hq:(ns.take 60).zipIdx[i]=q;have hmod:((q.2:Int).fmod 7)=((q.2%7:Nat):Int):=by
      rw[Int.fmod_eq_emod_of_nonneg _ (by decide)];exact rfl
    have hlt:q.2%7<(cs i).length:=by simp only[cl];exact(zT [_] [] (.t (.v 0) (.n 7)) [1] (.t (.v 0) (.n 7)) 1 rfl (eE _ (by exact qA rfl)))
    refine gD (xU (i7 (ds:=(cs i).map Dat.int) (j:=q.2%7) (a:=(cs i).getD (q.2%7) 0) (b:=q.1.fmod 1000003) rfl ?_ (xF (qD rfl) qX (yU (by decide))) ?_ (by simp only[List.length_map,cl];exact qA rfl)) wX) (.cons ?_ (.cons rfl .nil))
    · simp only[← hmod];exact xF (qD rfl) qX (yU (by decide))
    · simp only[List.getElem?_map,List.getElem?_eq_getElem hlt,List.getD_eq_getElem?_getD,List.getElem?_eq_getElem hlt];rfl
    · show some _=some _;have:cs (i+1)=jL (cs i) q:=by simp only[← hq];exact dC hi _
      rw[this,jL,List.map_set]
  · refine pW (y:="cells") (ds:=(z8 ns).map Dat.int) ?_ (xR (xN (qD rfl)));show some _=some _;rw[show cs (ns.take 60).zipIdx.length=z8 ns by show List.foldl _ _ _=_;rw[List.take_length];rfl]
end Mine
namespace Mine
variable {w:World}{W:Wd}{k:Nat}
structure sQ (W:Wd)(i:Nat)(q:Str)(c Pt:Addr):Prop where
  tab:(c,Pt)∈W.tabs
  qual:W.qual Pt=q
  code:∀a o pm code doc,W.mg (xC i).name=some (.ref a)→W.base.get? a=some o→o.data=.func (docDef (xC i).name (xC i).params (xC i).body (xC i).scope pm code doc)→code=.ref c
structure uX (W:Wd):Prop where
  ok:bX W
  nd:∀q∈W.tabs,∀q'∈W.tabs,q.2=q'.2→q=q'
  t6:∃c Pt,sQ W 6 ("_int2digits.<locals>.inner":Str) c Pt
  t7:∃c Pt,sQ W 7 ("_digits2int.<locals>.inner":Str) c Pt
  t36:∃c Pt,sQ W 36 ("law.<locals>.<lambda>":Str) c Pt
theorem JK {i:Nat}{q:Str}{c Pt:Addr}{xs:List V}{r:V}(names:List Str)(T:sQ W i q c Pt)
    (hb:∀pm code doc (vs:List Value),vs.length=xs.length→bindArgs (docDef (xC i).name (xC i).params (xC i).body (xC i).scope pm code doc) ⟨vs,[]⟩=pure (names.zip vs))
    (hp:uR (xC i).scope names=true)(hn:names.Nodup)(hl:names.length=xs.length)
    (hex:FH pw w W (fun env=>env.code=.ref c∧env.qual=(xC i).name++(".<locals>.":Str)) k (xC i).scope true (names.zip (xs.map Bd.val)) (xC i).body (.ret r)):jM w W (k+1) i xs r:=by
  intro a fn s F vs b hv A Q E rm q;refine zS fun nG=>?_;obtain⟨o,pm,code,doc,ho,hd,hc⟩:=fn.obj;have hcode:=T.code a o pm code doc fn.glob ho hd;refine nG ?_;subst hcode;unfold uR at hp;simp only[Bool.and_eq_true,beq_iff_eq,Bool.not_eq_true',List.all_eq_true,Bool.or_eq_true] at hp;obtain⟨⟨⟨hk,hco⟩,hgen⟩,hkinds⟩:=hp;have vl:=hv.length;refine vI ?_;refine codeAny_call_function (fd:=docDef (xC i).name (xC i).params (xC i).body (xC i).scope pm (.ref c) doc) rm.depth (b.base _ _ ho) hd hco hgen rfl (hc.keeps b.base) ?_;rw[hb _ _ _ _ vl];have hbm:(names.zip vs).map (·.1)=names:=by
    rw[List.map_fst_zip];exact(qL (jN hl vl.symm))
  have key:∀x∈names.zip vs,(xC i).scope.names.lookup x.1=some .local ∨ (xC i).scope.names.lookup x.1=some .cell:=fun x hx=>hkinds x.1 (z0 hx).1;refine qI (wD (z9 hk (fun x hx=>?_) fun env he s₁ X hz1 ht1=>?_))
  · rcases key x hx with h | h
    · exact .inl h
    · obtain⟨c,hc⟩:=wO (n:=s.heap.objs.size+1) (acc:=[]) (.inl (mem_of_lookup h));exact .inr ⟨h,by show((cellsFrom (s.heap.objs.size+1) (xC i).scope.names []).lookup x.1).isSome=true;rw[hc];rfl⟩
  · have es:env.scope=(xC i).scope:=by rw[he];rfl
    have st:St pw w W ⟨s,F,env⟩ true (names.zip (xs.map Bd.val)) [] s₁ F:=y5 (sc:=(xC i).scope) (binds:=names.zip vs) b hz1 ht1 (by rw[he];rfl) (by rw[he];rfl) es hk ⟨s.heap.objs.size+1,by simp only[he];rfl⟩ X (by simp only[hbm];exact hn) fun y bd hy=>by
      refine zS fun nG=>?_;obtain⟨h1,x,v,e1,e2,e3⟩:=wW hv hy;refine nG ?_;exact⟨hkinds y h1,x,v,e1,e2,e3⟩
    refine⟨W.nolimit.keeps (fun a o e=>X.toInCall.keep a o (b.base a o e)),codeAny_func ?_⟩;refine hex ⟨s,F,env⟩ [] s₁ F es ⟨by rw[he];rfl,by rw[he];rfl⟩ st _ _ _ (rm.deeper env) fun fl s' F' ho' hF'=>?_;obtain⟨v,rfl,hv',st'⟩:=ho';exact q v s' F' st'.grow hv'
noncomputable def dv (n:Nat):List Int→Int
  | []=>0
  | d::r=>d+2^n*dv n r
theorem FZ (n:Nat):dv n []=0:=rfl
theorem VC (n:Nat)(d:Int)(r:List Int):dv n (d::r)=d+2^n*dv n r:=rfl
theorem VD (n:Nat):∀(a b:List Int),dv n (a++b)=dv n a+2^(n*a.length)*dv n b
  | [],b=>by dsimp only[dv];simp
  | d::r,b=>by
    rw[List.cons_append,VC,VC,VD n r b,List.length_cons,Nat.mul_succ,Int.pow_add,Int.mul_add,← Int.add_assoc,← Int.mul_assoc,Int.mul_comm (2^(n*r.length)) (2^n)]
theorem rZ {M n:Nat}:∀(l:List Int),(∀d∈l,d.natAbs<2^M)→(dv n l).natAbs<2^(M+(n+1)*l.length)
  | [],_=>by dsimp only[dv];exact uM _
  | d::r,h=>by
    have h3:(d+2^n*dv n r).natAbs≤d.natAbs+2^n*(dv n r).natAbs:=by
      refine qB (Int.natAbs_add_le _ _) ?_;simp only[Int.natAbs_mul,Int.natAbs_pow];exact qH _
    have h4:2^n*(dv n r).natAbs<2^n*2^(M+(n+1)*r.length):=Nat.mul_lt_mul_of_pos_left (rZ (n:=n) r fun x hx=>h x (.tail _ hx)) (uM n);simp only[← Nat.pow_add] at h4;dsimp only[dv];simp only[List.length_cons,(by simp only[Nat.mul_succ];exact(QA [_,_,_] [] [] [] (.e (.p (.v 0) (.p (.v 1) (.p (.v 2) (.n 1)))) (.p (.p (.v 2) (.p (.v 0) (.v 1))) (.n 1))) 1 1 rfl):M+(n+1)*(r.length+1)=n+(M+(n+1)*r.length)+1),Nat.pow_succ];exact(ZP [(d+2^n*dv n r).natAbs,2^(n+(M+(n+1)*r.length)),d.natAbs,2^M,2^n*(dv n r).natAbs] [] (.t (.v 2) (.v 3)) (.l (.v 0) (.p (.v 2) (.v 4))) (.t (.v 4) (.v 1)) (.l (.v 3) (.v 1)) [1,1,1,1] (.t (.v 0) (.w (.v 1) 2)) 1 rfl (h d (.head _)) h3 h4 (xZ (by exact qA rfl) (by exact(zM (qR _ _))):2^M≤2^(n+(M+(n+1)*r.length))))
set_option tactic.hygienic true in
theorem jF {a:Int}{m:Nat}(h:a.natAbs<2^m):Builtin.Int.intBits a≤m:=by
  unfold Builtin.Int.intBits;split
  · exact(wJ _)
  · rename_i h0
    have:a.natAbs≠0:=by
      intro e;simp only[Int.natAbs_eq_zero] at e;rw[e] at h0;exact h0 rfl
    have:=(fH this).mpr h;exact this
noncomputable def gY:DefRec:=JT ((xC 7).body[0]?.getD (.Pass ⟨0,0,0,0⟩))
noncomputable abbrev fn7 (clos:List (Str×Addr))(doc pm:Value)(c':Addr)(ctv:Value):Obj:=fnMade gY.name ("_digits2int.<locals>.inner":Str) gY.params gY.body gY.scope clos doc pm c' ctv
noncomputable abbrev oZ (ds:List Int)(n:Nat)(f:Nat)(G:Fz):xK:=[("digits",.val (.dat (.list (ds.map Dat.int)))),("n",.val (.dat (.int (n:Int)))),("inner",.val (.fn f G))]
theorem BE {ds:List Int}{n M:Nat}{f c':Addr}{clos:List (Str×Addr)}{doc pm ctv:Value}{oc:Obj}{us:Array Value}{t:Nat}{G:Fz}
    (hf:(f,fn7 clos doc pm c' ctv)∈G.obs)(hoc:(c',oc)∈G.obs)(hocd:oc.data=.fields us)(hus:us[1]?=some (.str ("_digits2int.<locals>.inner":Str) t))
    (hn:n≤64)(hM:M≤1000)(hl:ds.length≤1000)(hd:∀d∈ds,d.natAbs<2^M)(hfree:∀y,(y=("digits":Str) ∨ y=("n":Str) ∨ y=("inner":Str))→∃c,clos.lookup y=some c)(hC:bF pw w G clos (oZ ds n f G)) :
    ∀(m:Nat) (L:Nat),0<m→L+m≤ds.length→pN pw w W (k+m) G f [.dat (.int (L:Int)),.dat (.int ((L+m:Nat):Int))] (.dat (.int (dv n ((ds.drop L).take m)))):=by
  intro m
  induction m using Nat.strongRecOn with
  | ind m ih =>
    intro L hm hLm;obtain⟨m',rfl⟩:∃m',m=m'+1:=⟨m-1,by exact(gO (qQ hm))⟩;refine XZ (scope:=gY.scope) (capt:=oZ ds n f G) ["L","R"] hf hoc hocd hus (gQ fun Z Z=>rfl) (by exact rfl) (by decide) rfl hC.1 ?_ hC.2 ?_
    · intro y b hy;have key:y=("digits":Str) ∨ y=("n":Str) ∨ y=("inner":Str):=by
        by_cases h1:y=("digits":Str)
        · exact .inl h1
        · by_cases h2:y=("n":Str)
          · exact .inr (.inl h2)
          · by_cases h3:y=("inner":Str)
            · exact .inr (.inr h3)
            · rw[qY h1,qY h2,qY h3] at hy;cases hy
      refine⟨?_,hfree y key⟩;rcases key with rfl | rfl | rfl<;>exact rfl
    · show Ex pw w W (k+m') gY.scope false [("L",.val (.dat (.int (L:Int)))),("R",.val (.dat (.int ((L+(m'+1):Nat):Int)))),("digits",.val (.dat (.list (ds.map Dat.int)))),("n",.val (.dat (.int (n:Int)))),("inner",.val (.fn f G))] gY.body _;by_cases hm1:m'=0
      · subst hm1;have hlt:L<ds.length:=by exact hLm
        have he:dv n ((ds.drop L).take (0+1))=ds[L]:=by
          simp only[List.drop_eq_getElem_cons hlt,List.take_succ_cons];simp[FZ,VC]
        simp only[he];refine xR (kY (b:=true) (zR (xF (qD rfl) qX kB) (qD rfl) uI (by rw[(by simp:(((L:Int)+1)==((L+(0+1):Nat):Int))=true)];exact x8)) (fun Z=>xR (xN (jG (qD rfl) (qD rfl) (kO (by exact(xM _)) (by exact(eO hLm (FN hl (by decide)))) ?_)))) (fun h=>nomatch h));simp only[Int.toNat_natCast,List.getElem?_map,List.getElem?_eq_getElem hlt];rfl
      · have ht:(((L:Int)+1)==((L+(m'+1):Nat):Int))=false:=by simp;exact(B5 (zT [_] [] (.t (.n 0) (.v 0)) [1] (.T (.n 1) (.p (.c (.v 0)) (.n 1))) 1 rfl (wP hm1)))
        let h:=(2*L+m'+1)/2-L;have hh:h=(m'+1)/2:=by show(2*L+m'+1)/2-L=_;exact(nq6 [_,_,_,_,_] [] (.l (.v 2) (.p (.v 0) (.v 3))) (.e (.p (.v 0) (.v 3)) (.v 2)) (.l (.w (.v 2) 2) (.p (.p (.m 2 (.v 3)) (.v 4)) (.n 1))) (.t (.p (.p (.m 2 (.v 3)) (.v 4)) (.n 1)) (.p (.w (.v 2) 2) (.n 2))) (.l (.w (.v 1) 2) (.p (.v 4) (.n 1))) (.t (.p (.v 4) (.n 1)) (.p (.w (.v 1) 2) (.n 2))) [0,2,1,0,0,1] [2,0,0,1,1,0] (.e (.v 0) (.v 1)) 2 2 rfl (jR _ _) (qQ (zT [_,_,_] [] (.t (.p (.p (.m 2 (.v 0)) (.v 2)) (.n 1)) (.p (.w (.v 1) 2) (.n 2))) [1] (.l (.v 0) (.v 1)) 2 rfl (vK (by exact qA rfl)))) (zD _ _) (vK (by exact qA rfl)) (zD _ _) (vK (by exact qA rfl)))
        have hmid:((L:Int)+((L+(m'+1):Nat):Int)).fdiv (2^(1:Int).toNat)=((L+h:Nat):Int):=by
          rw[show(2^(1:Int).toNat:Int)=2 by rfl,Int.fdiv_eq_ediv_of_nonneg _ (by decide)];grind
        have hh0:0<h:=by exact(bW [h,m',(m'+1)/2] [] (.t (.n 0) (.v 1)) (.e (.v 0) (.v 2)) (.t (.p (.v 1) (.n 1)) (.p (.w (.v 2) 2) (.n 2))) [1,-2,1] (.t (.n 0) (.v 0)) 2 rfl (wP hm1) hh (vK (by exact qA rfl)))
        have hh1:h<m'+1:=by exact(kN [h,m',(m'+1)/2] [] (.e (.v 0) (.v 2)) (.l (.w (.v 2) 2) (.p (.v 1) (.n 1))) [2,1] (.t (.v 0) (.p (.v 1) (.n 1))) 2 rfl hh (zD _ _))
        refine xU (kY (b:=false) (o:=.next _) (zR (xF (qD rfl) qX kB) (qD rfl) uI (by rw[ht];exact x8)) (fun h=>nomatch h) (fun Z=>wX)) ?_;refine xU (xJ (x:=.dat (.int ((L+h:Nat):Int))) (by simp only[← hmid];exact xF (xF (qD rfl) (qD rfl) kB) qX (hV (by decide))) (.inl rfl)) ?_;have hsh:(((L+h:Nat):Int)-(L:Int))*(n:Int)=((h*n:Nat):Int):=by
          simp only[Int.natCast_mul];congr 1;exact(P1 rfl)
        refine xU (xJ (x:=.dat (.int ((h*n:Nat):Int))) (by simp only[← hsh];exact xF (xF (qD rfl) (qD rfl) j7) (qD rfl) (j8 (yZ (intBits_le_64 (by exact(cI [L,h] [] [] (.T (.g (.n 18446744073709551616)) (.s (.c (.p (.v 0) (.v 1))) (.c (.v 0)))) 1 rfl)) (by exact(ZP [L,h,ds.length,m',(m'+1)/2] [] (.l (.v 2) (.n 1000)) (.l (.p (.v 0) (.p (.v 3) (.n 1))) (.v 2)) (.e (.v 1) (.v 4)) (.l (.w (.v 4) 2) (.p (.v 3) (.n 1))) [1,1,2,1] (.T (.s (.c (.p (.v 0) (.v 1))) (.c (.v 0))) (.n 18446744073709551616)) 2 rfl hl hLm hh (zD _ _))))))) (.inl rfl)) ?_;have i1:=ih (m'+1-h) (by exact(Nat.sub_lt hm hh0)) (L+h) (by exact(kN [m'+1-h,h,m'] [] (.t (.v 1) (.p (.v 2) (.n 1))) (.l (.p (.v 2) (.n 1)) (.p (.v 0) (.v 1))) [1,1] (.t (.n 0) (.v 0)) 1 rfl hh1 (jR _ _))) (by exact(kN [L,h,m'+1-h,ds.length,m'] [] (.l (.p (.v 0) (.p (.v 4) (.n 1))) (.v 3)) (.e (.p (.v 2) (.v 1)) (.p (.v 4) (.n 1))) [1,1] (.l (.p (.p (.v 0) (.v 1)) (.v 2)) (.v 3)) 1 rfl hLm (qQ (zT [h,m'] [] (.t (.v 0) (.p (.v 1) (.n 1))) [1] (.l (.v 0) (.p (.v 1) (.n 1))) 1 rfl hh1))));rw[show L+h+(m'+1-h)=L+(m'+1) by exact(nH [L,h,m'+1-h,m'] [] (.l (.p (.v 3) (.n 1)) (.p (.v 2) (.v 1))) (.e (.p (.v 2) (.v 1)) (.p (.v 3) (.n 1))) [0,1] [1,0] (.e (.p (.p (.v 0) (.v 1)) (.v 2)) (.p (.v 0) (.p (.v 3) (.n 1)))) 1 1 rfl (jR _ _) (Nat.sub_add_cancel (zT [h,m'] [] (.t (.v 0) (.p (.v 1) (.n 1))) [1] (.l (.v 0) (.p (.v 1) (.n 1))) 1 rfl hh1)))] at i1;have hval:dv n ((ds.drop L).take (m'+1))=dv n ((ds.drop (L+h)).take (m'+1-h))*2^((h*n:Nat):Int).toNat+dv n ((ds.drop L).take h):=by
          have e:(ds.drop L).take (m'+1)=(ds.drop L).take h++(ds.drop (L+h)).take (m'+1-h):=by
            simp only[← List.drop_drop]
            conv=>lhs;rw[show m'+1=h+(m'+1-h) by exact(nH [m',h,m'+1-h] [] (.l (.p (.v 0) (.n 1)) (.p (.v 2) (.v 1))) (.e (.p (.v 2) (.v 1)) (.p (.v 0) (.n 1))) [1,0] [0,1] (.e (.p (.v 0) (.n 1)) (.p (.v 1) (.v 2))) 1 1 rfl (jR _ _) (Nat.sub_add_cancel (zT [h,m'] [] (.t (.v 0) (.p (.v 1) (.n 1))) [1] (.l (.v 0) (.p (.v 1) (.n 1))) 1 rfl hh1))),List.take_add]
          rw[e,VD,(by simp only[List.length_take,List.length_drop];exact(nH [min h (ds.length-L),h] [] (.l (.v 0) (.v 1)) (.e (.v 0) (.v 1)) [1,0] [0,-1] (.e (.v 0) (.v 1)) 1 1 rfl (Nat.min_le_left _ _) (Nat.min_eq_left (ZP [h,ds.length-L,L,m',ds.length,(m'+1)/2] [] (.l (.p (.v 2) (.p (.v 3) (.n 1))) (.v 4)) (.e (.v 0) (.v 5)) (.l (.v 4) (.p (.v 1) (.v 2))) (.l (.w (.v 5) 2) (.p (.v 3) (.n 1))) [2,2,2,1] (.l (.v 0) (.v 1)) 2 rfl hLm hh (jR _ _) (Nat.div_mul_le_self _ _)))):((ds.drop L).take h).length=h),Int.toNat_natCast,Int.add_comm,Int.mul_comm,Nat.mul_comm n h]
        simp only[hval];have hnab:=rZ (n:=n) _ (fun d hd'=>hd d (sW (sV hd')):∀d∈((ds.drop (L+h)).take (m'+1-h)),d.natAbs<2^M);have hb2:(n+1)*((ds.drop (L+h)).take (m'+1-h)).length≤65*1000:=gJ (by exact(z5 hn)) (by rw[List.length_take];exact(ZP [_,_,_,_,_] [] (.l (.v 1) (.n 1000)) (.l (.p (.v 2) (.p (.v 3) (.n 1))) (.v 1)) (.l (.v 0) (.v 4)) (.l (.v 4) (.p (.v 3) (.n 1))) [1,1,1,1] (.l (.v 0) (.n 1000)) 1 rfl hl hLm (kJ _ _) (V4 _ _)):((ds.drop (L+h)).take (m'+1-h)).length≤1000);refine xR (xN (xF (xF (oK rfl hf rfl (qE (qD rfl) (qE (qD rfl) qN)) (i1.mono (by exact(qZ (yM (Nat.sub_lt hm hh0)) _)))) (qD rfl) (uL (by exact(xM _)) (by exact(ZP [Builtin.Int.intBits (dv n (List.take (m'+1-h) (List.drop (L+h) ds))),h*n,M,(n+1)*(List.take (m'+1-h) (List.drop (L+h) ds)).length] [] (.l (.v 2) (.n 1000)) (.l (.v 0) (.p (.v 2) (.v 3))) (.l (.v 3) (.m 65 (.n 1000))) (.l (.v 1) (.m 1000 (.n 64))) [1,1,1,1] (.L (.p (.c (.v 0)) (.c (.v 1))) (.n 134217728)) 1 rfl hM (jF hnab) hb2 (gJ (by exact(ZP [h,ds.length,L,m',(m'+1)/2] [] (.l (.v 1) (.n 1000)) (.l (.p (.v 2) (.p (.v 3) (.n 1))) (.v 1)) (.e (.v 0) (.v 4)) (.l (.w (.v 4) 2) (.p (.v 3) (.n 1))) [1,1,2,1] (.l (.v 0) (.n 1000)) 2 rfl hl hLm hh (zD _ _))) hn:h*n≤1000*64))))) (oK rfl hf rfl (qE (qD rfl) (qE (qD rfl) qN)) ((ih h hh1 L hh0 (by exact(qB (qZ (qU hh1) _) hLm))).mono (by exact(qZ (yM hh1) _)))) kB))
theorem GK {prog:Program}{ds:List Dat}(hz:ds.length≤sizeLine):PW prog w W k (.dat (.list ds)) (!ds.isEmpty):=fun s F u b hu A Q E rm q=>by
  refine xQ.eList hu fun a vs n hm hr=>?_;have e:=hr.length;refine wpAny_truthy_list (zL b hm) (by simp;exact(lX (qL e) (lX (hz:ds.length≤16777216) (by decide)))) ?_;have:(vs.toArray).isEmpty=ds.isEmpty:=by
    cases vs<;>cases ds<;>simp at e<;>rfl
  simp only[this];exact q _ _ ((q0.more b (xI _)).trans (q0.more (b.grow (q0.more b (xI _))) (xI _)))
theorem VR {ds:List Int}{n:Nat}{f:Nat}{G G':Fz}{clos:List (Str×Addr)}(h:bF pw w G' clos (oZ ds n f G)):bF pw w G' clos (oZ ds n f G'):=by
  refine⟨fun y c hc=>?_,h.2⟩;obtain⟨o,v,x,h1,h2,h3,h4⟩:=h.1 y c hc;by_cases e:y=("inner":Str)
  · subst e;have h3':some (Bd.val (.fn f G))=some (.val x):=h3;cases h3';exact⟨o,v,.fn f G',h1,h2,rfl,h4.1,.rfl⟩
  · refine⟨o,v,x,h1,h2,?_,h4⟩;simp only[← h3];by_cases e1:y=("digits":Str)
    · subst e1;rfl
    · by_cases e2:y=("n":Str)
      · subst e2;rfl
      · rw[qY e1,qY e2,qY e,qY e1,qY e2,qY e]
theorem y7 (T:uX W){ds:List Int}{n M:Nat}(hn:n≤64)(hM:M≤1000)(hl:ds.length≤14)(hd:∀d∈ds,d.natAbs<2^M) :
    jM w W (k+16) 7 [.dat (.list (ds.map Dat.int)),.dat (.int (n:Int))] (.dat (.int (dv n ds))):=by
  obtain⟨c,Pt,t7⟩:=T.t7;have hz2:sizeLine=16777216:=rfl;refine JK ["digits","n"] t7 (fun Z Z Z=>gQ fun Z Z=>rfl) (by exact rfl) (by decide) rfl ?_;refine ZU (name:=gY.name) (params:=gY.params) (body:=gY.body) (scope:=gY.scope) (qual:=("_digits2int.<locals>.inner":Str)) t7.tab T.nd (fun env h=>h.1) (fun env h he=>?_) t7.qual.symm rfl rfl (fun Z=>rfl) (by decide) (by exact rfl) rfl (fun f c' clos doc pm ctv oc us t G hf hoc hocd hus hsome=>?_)
  · simp only[t7.qual];unfold qualnameIn;rw[show(env.kindOf gY.name==some .globalExplicit)=false by show(env.scope.names.lookup gY.name==some .globalExplicit)=false;rw[he];exact rfl,h.2];rfl
  · have hf7:(f,fn7 clos doc pm c' ctv)∈G.obs:=hf;refine PH (PJ (c:=!ds.isEmpty) ?_ (fun hne=>?_) (fun he=>?_))
    · exact mF (qD rfl) (by have:=GK (prog:=pw) (w:=w) (W:=W) (k:=k+15) (ds:=ds.map Dat.int) (by simp;exact(qB hl (by exact qA rfl)));simp only[List.isEmpty_map] at this;exact this)
    · have hpos:0<ds.length:=by
        cases ds with
        | nil=>cases hne
        | cons a r=>simp
      refine YY (i:=dv n ds) (Γc:=oZ ds n f G) (fun env h=>h.2) rfl hf rfl (by decide) ?_ (qE qX (qE (yI (zA T.ok (by exact .head _) rfl (by decide +kernel)) (qE (qD rfl) qN) (w7 (by simp;exact(qB hl (by exact qA rfl))))) qN)) (fun G' hG' hin=>?_)
      · intro x hx hfr;have key:x.1=("digits":Str) ∨ x.1=("n":Str) ∨ x.1=("inner":Str):=by
          have:∀x∈gY.scope.names,x.2=.free→x.1=("digits":Str) ∨ x.1=("n":Str) ∨ x.1=("inner":Str):=by decide
          exact this x hx hfr
        rcases key with e | e | e<;>rw[e]
        · exact⟨_,rfl,rfl⟩
        · exact⟨_,rfl,rfl⟩
        · exact⟨_,rfl,rfl⟩
      · have:=BE (w:=w) (W:=W) (k:=k) (G:=G') (hG'.obs _ hf7) (hG'.obs _ hoc) hocd hus hn hM (by exact(qB hl (by exact qA rfl))) hd (fun y hy=>?_) (VR hin) ds.length 0 hpos (by exact(qL (yB _ _)))
        · rw[List.drop_zero,List.take_length,Nat.zero_add] at this;rw[List.length_map];exact(this.mono (k:=k+15) (by exact(qW (qZ hl _))))
        · rcases hy with rfl | rfl | rfl<;>exact hsome _ (by decide)
    · have:ds=[]:=by
        cases ds with
        | nil=>rfl
        | cons a r=>simp at he
      subst this;exact BN qX
end Mine
namespace Mine
variable {w:World}{W:Wd}{φ:Env→Prop}{k:Nat}{sc:Scope}{fn:Bool}{Γ Γ' Γ'':xK}
noncomputable def aN (x:Str):Dat:=.tuple [.int (x.length:Int),.str x]
noncomputable def FT (a b:Str):Bool:=if a.length=b.length then(if a=b then false else decide (a.cps.toList<b.cps.toList)) else decide ((a.length:Int)<(b.length:Int))
noncomputable def HB (a b:Str):Bool:=decide (a.cps.toList<b.cps.toList)
section
variable {prog:Program}{A:Around}{s:Shared}{F:Fz}
theorem rU:∀{ks:List Value} (xs:List Str),xV F ks (xs.map aN)→(∀p∈F.obs,s.heap.get? p.1=some p.2)→∃fs,KatTups s.heap ks fs∧fs.length=xs.length∧∀v∈fs,∃i t,v=Value.int i t
  | _,[],.nil,_=>⟨[],.nil,rfl,fun Z h=>nomatch h⟩
  | _,x::xs,.cons h hr,hF=>by
    refine zS fun nG=>?_;obtain⟨fs,h1,h2,h3⟩:=rU xs hr hF;refine nG ?_;refine xQ.eTuple h fun Z Z Z ho hv=>?_;revert ho;refine xV.e2 hv fun Z Z h4 h5=>?_;refine xQ.eInt h4 fun Z ht=>?_;intro ho;exact⟨_::fs,.cons (hF _ ho) rfl rfl (show((Value.int _ _::_:List Value).toArray)[0]?=some (Value.int _ _) by rw[List.getElem?_toArray];rfl) h1,by simp[h2],fun v hv=>by
          rcases qG hv with rfl | hv
          · exact⟨_,_,rfl⟩
          · exact h3 v hv⟩
theorem FU {ks:List Value}{xs:List Str}{Q:SortKind→Shared→Prop}(h:xV F ks (xs.map aN))(hF:∀p∈F.obs,s.heap.get? p.1=some p.2)(h0:0<xs.length)(q:Q (tuples' true) s) :
    wpAny (model prog w) A (keyKind' (List.toArray ks)) Q (fun Z Z=>False) s:=by
  refine zS fun nG=>?_;obtain⟨fs,h1,h2,h3⟩:=rU (s:=s) xs h hF;refine nG ?_;exact kat_kind (T:=.type "int") h1 (by exact(qK h0 (qL h2.symm))) (fun v hv=>by obtain⟨i,t,rfl⟩:=h3 v hv;exact Looks.of_pure rfl) rfl q
theorem fA {ks:List Value}{xs:List Str}(h:xV F ks (xs.map aN))(hF:∀p∈F.obs,s.heap.get? p.1=some p.2){i:Nat}(hi:i<xs.length) :
    ∃a n t u,ks.getD i Value.none=.ref a∧s.heap.get? a=some ({cls:=.type "tuple",data:=.seq #[.int ((xs.getD i Str.empty).length:Int) t,.str (xs.getD i Str.empty) u] n}:Obj):=by
  have hd:(xs.map aN)[i]?=some (aN (xs.getD i Str.empty)):=by
    simp only[List.getElem?_map,List.getElem?_eq_getElem hi,List.getD_eq_getElem?_getD,List.getElem?_eq_getElem hi];rfl
  obtain⟨v,h1,h2⟩:=h.get hd;rw[List.getD_eq_getElem?_getD,h1];unfold aN at h2;refine xQ.eTuple h2 fun Z Z Z ho hv=>?_;revert ho;refine xV.e2 hv fun Z Z h4 h5=>?_;refine xQ.eInt h4 fun Z Z=>?_;refine xQ.eStr h5 fun Z Z=>?_;intro ho;exact⟨_,_,_,_,rfl,hF _ ho⟩
theorem askT {ks:List Value}{xs:List Str}{i j:Nat}{C:Bool→Shared→Prop}(h:xV F ks (xs.map aN))(hF:∀p∈F.obs,s.heap.get? p.1=some p.2)(hi:i<xs.length)(hj:j<xs.length)
    (q:C (FT (xs.getD i Str.empty) (xs.getD j Str.empty)) s):kas_ask prog w A (tuples' true) ks i j C s:=by
  refine zS fun nG=>?_;obtain⟨a,n,t,u,e1,h1⟩:=fA h hF hi;obtain⟨a',n',t',u',e2,h2⟩:=fA h hF hj;refine nG ?_;unfold kas_ask;simp only[e1,e2];refine kat_lt h1 rfl h2 rfl (kat_cons (wpAny_eqBool_int ?_));unfold FT at q;by_cases hl:(xs.getD i Str.empty).length=(xs.getD j Str.empty).length
  · rw[if_pos hl] at q;simp only[show(((xs.getD i Str.empty).length:Int)==((xs.getD j Str.empty).length:Int))=true from beq_iff_eq.mpr (by exact_mod_cast hl)];refine kat_yes (kat_cons (wpAny_eqBool_str ?_));by_cases he:xs.getD i Str.empty=xs.getD j Str.empty
    · rw[if_pos he] at q;simp only[decide_eq_true he];exact kat_yes (kat_nil q)
    · rw[if_neg he] at q;simp only[decide_eq_false he];exact kat_no (kat_one _ _ (P.lt_str q))
  · rw[if_neg hl] at q;simp only[show(((xs.getD i Str.empty).length:Int)==((xs.getD j Str.empty).length:Int))=false from beq_eq_false_iff_ne.mpr fun e=>hl (by exact_mod_cast e)];exact kat_no (oneLt_int q)
theorem dK {ks:List Value}{xs:List Str}(h:xV F ks (xs.map Dat.str)){i:Nat}(hi:i<xs.length):∃u,ks.getD i Value.none=.str (xs.getD i Str.empty) u:=by
  have hd:(xs.map Dat.str)[i]?=some (.str (xs.getD i Str.empty)):=by
    simp only[List.getElem?_map,List.getElem?_eq_getElem hi,List.getD_eq_getElem?_getD,List.getElem?_eq_getElem hi];rfl
  obtain⟨v,h1,h2⟩:=h.get hd;rw[List.getD_eq_getElem?_getD,h1];refine xQ.eStr h2 fun Z Z=>?_;exact⟨_,rfl⟩
theorem m7:∀{ks:List Value} (xs:List Str),xV F ks (xs.map Dat.str)→∀v∈ks,∃a u,v=Value.str a u
  | _,[],.nil,_,h=>nomatch h
  | _,x::xs,.cons h hr,v,hv=>by
    rcases qG hv with rfl | hv
    · exact xQ.eStr h fun Z Z=>⟨_,_,rfl⟩
    · exact m7 xs hr v hv
theorem FV {ks:List Value}{xs:List Str}{Q:SortKind→Shared→Prop}(h:xV F ks (xs.map Dat.str))(h2:2≤xs.length)(q:Q oneType' s) :
    wpAny (model prog w) A (keyKind' (List.toArray ks)) Q (fun Z Z=>False) s :=
  kas_kind (T:=.type "str") (by have:=h.length;simp at this;exact(qB h2 (qL this.symm))) (fun v hv=>by obtain⟨a,u,rfl⟩:=m7 xs h v hv;exact Looks.of_pure rfl) rfl rfl q
theorem askS {ks:List Value}{xs:List Str}{i j:Nat}{C:Bool→Shared→Prop}(h:xV F ks (xs.map Dat.str))(hi:i<xs.length)(hj:j<xs.length)
    (q:C (HB (xs.getD i Str.empty) (xs.getD j Str.empty)) s):kas_ask prog w A oneType' ks i j C s:=by
  obtain⟨u,e1⟩:=dK h hi;obtain⟨u',e2⟩:=dK h hj;unfold kas_ask;simp only[e1,e2];exact kas_lt_str q
end
theorem nM {e fe:Expr}{p pos kp:Pos}{xs outs:List Str}{key:Str→Dat}{κ:SortKind}{lt:Str→Str→Bool}{pm:Array Nat}(hB:kZ W sc ("sorted":Str) (.builtin "sorted"))
    (he:Ev pw w W (k+2) sc fn Γ e (.dat (.list (xs.map Dat.str))))
    (hfe:∀fr P s F,fr.env.scope=sc→φ fr.env→St pw w W fr fn Γ P s F→∀(A:Around) (Q:Value→Shared→Prop) (E:Value→Shared→Prop),zZ (k+2) A →
      (∀a s' F',q0 W s s' F F'→(∀x∈xs,pN pw w W k F' a [.dat (.str x)] (.dat (key x)))→Q (.ref a) s')→wpAny (model pw w) A (eval fe fr.env) Q E s)
    (h2:2≤xs.length)(h64:xs.length<64)
    (hk:∀(A:Around) (ks:List Value) (s:Shared) (F:Fz) (Q:SortKind→Shared→Prop),xV F ks (xs.map key)→(∀p∈F.obs,s.heap.get? p.1=some p.2)→Q κ s→wpAny (model pw w) A (keyKind' (List.toArray ks)) Q (fun Z Z=>False) s)
    (hlt:∀(A:Around) (ks:List Value) (s:Shared) (F:Fz) (i j:Nat) (C:Bool→Shared→Prop),xV F ks (xs.map key)→(∀p∈F.obs,s.heap.get? p.1=some p.2)→i<xs.length→j<xs.length→C (lt (xs.getD i Str.empty) (xs.getD j Str.empty)) s→kas_ask pw w A κ ks i j C s)
    (jZ:iG (fun i j=>lt (xs.getD i Str.empty) (xs.getD j Str.empty)) xs.length (kas_sort xs.length)=some pm)(hpb:∀i∈pm.toList,i<xs.length)(hout:(pm.toList.map fun i=>xs.getD i Str.empty)=outs)
    (hs:autoParam (∀env,starEach [e] env=[(false,eval e env)]) au1) :
    eG w W φ (k+2) sc fn Γ (.Call (.Name ("sorted":Str) p) [e] [⟨some ("key":Str),fe,kp⟩] pos) (.dat (.list (outs.map Dat.str))):=fun fr P s F hsc st A Q E rm al q=>by
  rw[(rfl:eval (.Call (.Name ("sorted":Str) p) [e] [⟨some ("key":Str),fe,kp⟩] pos) fr.env=(do callWith pos (← eval (.Name ("sorted":Str) p) fr.env) [] (backTo pos (starEach [e] fr.env)) (backToKw pos (keywordEach [⟨some ("key":Str),fe,kp⟩] fr.env))))];refine qC (wN st (hsc▸hB.kind) hB.glob hB.boot hB.nn ?_ hB.nd);refine callWith_kw ?_ (by rw[hs];rfl) (by rw[hs];rfl);simp only[hs];refine spliced_cons (he fr P s F hsc st A _ E rm fun v s₁ F₁ g₁ hv=>spliced_nil ?_);have st₁:=st.step g₁;refine kws_cons (hfe fr P s₁ F₁ hsc al.ph st₁ A _ E rm fun a s₂ F₂ g₂ hcl=>kws_nil ?_);have st₂:=st₁.step g₂;refine xQ.eList (xQ.mono g₂.sub hv:xQ F₂ v (.list (xs.map Dat.str))) fun Z Z Z ho hr=>?_;obtain⟨m,hns⟩:=st₂.ns
  refine iB (k:=k) (kw:=[(Str.ofString "key",.ref a)]) (f:=.ref a) (xs:=xs) (key:=key) (κ:=κ) (p:=pm) st₂.base ho hr hns (x4 (qB st₂.bsize st₂.nsNew)) st₂.tabL st₂.nsF rm h2 h64 (ksk_s1 _ _) (fun x=>ksk_l1 _ _) (fun x=>ksk_t1 _ _)
    (fun x hx s F' v b hle hv=>hcl x hx s F' [v] b hle (.cons hv .nil)) hk hlt jZ hpb hout fun v' s₃ F₃ gx hn₃ Z hv₃=>?_
  refine q v' s₃ F₃ (st₂.slots gx fun m' h'=>?_) ((g₁.sub.trans g₂.sub).trans gx.sub) hv₃;simp only[← tO hns h'];exact hn₃
theorem oB (ok:bX W){e:Expr}{p pos kp p₁:Pos}{xs outs:List Str}{pm:Array Nat}(hB:kZ W sc ("sorted":Str) (.builtin "sorted"))
    (he:Ev pw w W (k+3) sc fn Γ e (.dat (.list (xs.map Dat.str))))(hkx:sc.names.lookup ("_strxfrm":Str)=some .globalImplicit)(h2:2≤xs.length)(h64:xs.length<64)
    (jZ:iG (fun i j=>HB (xs.getD i Str.empty) (xs.getD j Str.empty)) xs.length (kas_sort xs.length)=some pm)(hpb:∀i∈pm.toList,i<xs.length)(hout:(pm.toList.map fun i=>xs.getD i Str.empty)=outs)
    (hs:autoParam (∀env,starEach [e] env=[(false,eval e env)]) au1) :
    eG w W φ (k+3) sc fn Γ (.Call (.Name ("sorted":Str) p) [e] [⟨some ("key":Str),.Name ("_strxfrm":Str) p₁,kp⟩] pos) (.dat (.list (outs.map Dat.str))):=by
  obtain⟨b,f⟩:=ok.fns 12 (by decide);refine nM (k:=k+1) (key:=Dat.str) (κ:=oneType') (lt:=HB) hB he (fun fr P s F hsc hph st A Q E rm q=>?_) h2 h64 (fun A ks s F Q hr hF q=>FV hr h2 q) (fun A ks s F i j C hr hF hi hj q=>askS hr hi hj q) jZ hpb hout hs;refine(vU hkx f.glob (by exact rfl)) fr P s F hsc st A _ E rm fun v s' F' g hv=>?_;cases hv;exact q b s' F' g fun x hx s F vs b' Z hvs=>(mX (k:=k) b f) s F vs b' hvs
theorem oA (T:uX W){c Pt:Addr}(t36:sQ W 36 ("law.<locals>.<lambda>":Str) c Pt){e body:Expr}{params:Arguments}{scope:Scope}{p pos kp p₁:Pos}  {xs outs:List Str} {pm:Array Nat} (hB:kZ W sc ("sorted":Str) (.builtin "sorted"))
    (hφ:∀env,φ env→env.code=.ref c∧env.qual=("law.<locals>.":Str)∧env.globals=mainGlobals)
    (he:Ev pw w W (k+3) sc fn Γ e (.dat (.list (xs.map Dat.str))))(h2:2≤xs.length)(h64:xs.length<64)
    (hcl:∀env,closureFor scope env=pure [])
    (hdef:∀env,defaultsOf params env=([],[]))
    (hb:∀pm ctv c' (vs:List Value),vs.length=1→bindArgs (kla_fn ("<lambda>":Str) ("law.<locals>.<lambda>":Str) params body scope [] pm (.ref c') ctv) ⟨vs,[]⟩=pure ((["name"]:List Str).zip vs))
    (hp:fT scope ["name"]=true)
    (hex:∀x∈xs,Ev pw w W k scope false [("name",.val (.dat (.str x)))] body (.dat (aN x)))
    (jZ:iG (fun i j=>FT (xs.getD i Str.empty) (xs.getD j Str.empty)) xs.length (kas_sort xs.length)=some pm)(hpb:∀i∈pm.toList,i<xs.length)(hout:(pm.toList.map fun i=>xs.getD i Str.empty)=outs)
    (hs:autoParam (∀env,starEach [e] env=[(false,eval e env)]) au1) :
    eG w W φ (k+3) sc fn Γ (.Call (.Name ("sorted":Str) p) [e] [⟨some ("key":Str),.Lambda params body scope p₁,kp⟩] pos) (.dat (.list (outs.map Dat.str))):=by
  refine nM (k:=k+1) (key:=aN) (κ:=tuples' true) (lt:=FT) hB he (fun fr P s F hsc hph st A Q E rm q=>?_) h2 h64 (fun A ks s F Q hr hF q=>FU hr hF (by exact(qV (qW (qH _)) h2)) q) (fun A ks s F i j C hr hF hi hj q=>askT hr hF hi hj q) jZ hpb hout hs;obtain⟨hc,hq,hg⟩:=hφ _ hph;refine kla_eval (hdef _) ?_;refine J5 (qual:=fr.env.qual++("<lambda>":Str)) (clos:=[]) (c:=c) (Pt:=Pt) st.base t36.tab T.nd hg hc (by rw[hq,t36.qual];exact rfl) (hcl _) fun f c' pm ctv oc us t s' F' g hf hoc hod hus=>q f s' F' g fun x hx=>?_;rw[hq] at hf hus;exact KS ["name"] hf hoc hod hus (fun vs h=>hb _ _ _ _ h) hp (by decide) rfl (hex x hx)
end Mine
namespace Mine
theorem GJ (x s:Nat):x^^^(x/2^s*2^s)=x%2^s:=by
  apply sS;intro i;simp only[← Nat.shiftRight_eq_div_pow,← Nat.shiftLeft_eq,Nat.testBit_xor,Nat.testBit_shiftLeft,Nat.testBit_shiftRight,Nat.testBit_mod_two_pow];by_cases h:i<s
  · have:¬i≥s:=by exact(Nat.not_le_of_lt h)
    simp[h,this]
  · have h':i≥s:=by exact(wV h)
    simp[h,h',(by exact(nH [_,_,_] [] (.l (.v 2) (.p (.v 1) (.v 0))) (.e (.p (.v 1) (.v 0)) (.v 2)) [0,1] [1,0] (.e (.p (.v 0) (.v 1)) (.v 2)) 1 1 rfl (jR _ _) (Nat.sub_add_cancel (Nat.not_lt.mp h))):s+(i-s)=i)]
noncomputable def dg (n:Nat):Nat→Nat→List Nat
  | 0,_=>[]
  | 1,x=>[x]
  | m+2,x=>x%2^n::dg n (m+1) (x/2^n)
theorem F0 (n m x:Nat):dg n (m+2) x=x%2^n::dg n (m+1) (x/2^n):=rfl
theorem tY (n:Nat):∀m x,(dg n m x).length=m
  | 0,_=>rfl
  | 1,_=>rfl
  | m+2,x=>by dsimp only[dg];rw[List.length_cons,tY n (m+1)]
theorem oO (n:Nat):∀(h m x:Nat),0<h→0<m→dg n (h+m) x=dg n h (x%2^(n*h))++dg n m (x/2^(n*h))
  | 0,m,x,hh,_=>absurd hh (zK _)
  | 1,m,x,_,hm=>by
    obtain⟨m',rfl⟩:∃m',m=m'+1:=⟨m-1,by exact(gO (qQ hm))⟩;dsimp only[dg,dg];simp only[show 1+(m'+1)=m'+2 by exact(Nat.add_comm _ _),Nat.mul_one];rfl
  | h+2,m,x,_,hm=>by
    simp only[show h+2+m=(h+m)+2 by exact(Nat.add_right_comm _ _ _),F0,show h+m+1=h+1+m by exact(Nat.add_right_comm _ _ _),(oO n (h+1) m (x/2^n) (by exact(Nat.succ_pos _)) hm),F0];have e2:x%2^(n*(h+2))/2^n=x/2^n%2^(n*(h+1)):=by
      rw[show n*(h+2)=n+n*(h+1) by simp only[Nat.mul_add,Nat.mul_add];exact(QA [_,_] [] [] [] (.e (.p (.v 0) (.w (.v 1) 2)) (.p (.v 1) (.p (.v 0) (.w (.v 1) 1)))) 1 1 rfl),Nat.pow_add,Nat.mod_mul_right_div_self]
    have e3:x/2^n/2^(n*(h+1))=x/2^(n*(h+2)):=by
      rw[Nat.div_div_eq_div_mul,← Nat.pow_add,show n+n*(h+1)=n*(h+2) by simp only[Nat.mul_add,Nat.mul_add];exact(QA [_,_] [] [] [] (.e (.p (.v 0) (.p (.v 1) (.w (.v 0) 1))) (.p (.v 1) (.w (.v 0) 2))) 1 1 rfl)]
    simp only[(Nat.mod_mod_of_dvd _ (Nat.pow_dvd_pow 2 (Nat.le_mul_of_pos_right n (by omega))):x%2^(n*(h+2))%2^n=x%2^n),e2,e3];rfl
noncomputable def over (ds:List Dat)(L:Nat)(r:List Dat):List Dat:=ds.take L++r++ds.drop (L+r.length)
theorem JY (ds:List Dat)(L:Nat)(d:Dat)(h:L<ds.length):over ds L [d]=ds.set L d:=by
  unfold over;rw[List.set_eq_take_append_cons_drop,if_pos h];simp
theorem JZ (ds:List Dat)(L:Nat)(r:List Dat)(h:L+r.length≤ds.length):(over ds L r).length=ds.length:=by
  unfold over;simp;exact(ZO [_,_,_,_,_] [] (.l (.v 0) (.v 4)) (.e (.v 0) (.v 4)) (.l (.v 3) (.p (.v 2) (.p (.v 4) (.v 1)))) (.e (.p (.v 2) (.p (.v 4) (.v 1))) (.v 3)) [1,0,0,1] [0,-1,1,0] (.e (.p (.v 0) (.p (.v 1) (.v 2))) (.v 3)) 1 1 rfl (kJ _ _) (KZ (zT [_,_,_] [] (.l (.p (.v 0) (.v 2)) (.v 1)) [1] (.l (.v 0) (.v 1)) 1 rfl h)) (jR _ _) (qQ h))
theorem WW (ds:List Dat)(L:Nat)(r r':List Dat)(h:L+r.length+r'.length≤ds.length):over (over ds L r) (L+r.length) r'=over ds L (r++r'):=by
  unfold over;have h2:(List.take L ds++r).length=L+r.length:=by rw[List.length_append,(by rw[List.length_take];exact(nH [_,_] [] (.l (.v 0) (.v 1)) (.e (.v 0) (.v 1)) [1,0] [0,-1] (.e (.v 0) (.v 1)) 1 1 rfl (Nat.min_le_left _ _) (Nat.min_eq_left (zT [_,_,_,_] [] (.l (.p (.p (.v 0) (.v 2)) (.v 3)) (.v 1)) [1] (.l (.v 0) (.v 1)) 1 rfl h))):(List.take L ds).length=L)]
  rw[List.take_append_of_le_length (by simp only[h2];exact Nat.le_refl _),List.take_of_length_le (by rw[h2];exact Nat.le_refl _)];have h3:List.drop (L+r.length+r'.length) (List.take L ds++r++List.drop (L+r.length) ds)=List.drop (L+(r++r').length) ds:=by
    rw[List.drop_append,h2];rw[List.drop_of_length_le (by rw[h2];exact(Nat.le_add_right _ _)),List.nil_append,List.drop_drop];congr 1;simp only[List.length_append];exact(nH [_,_,_,_] [] (.l (.p (.p (.v 0) (.v 1)) (.v 3)) (.p (.v 2) (.p (.v 0) (.v 1)))) (.e (.p (.v 2) (.p (.v 0) (.v 1))) (.p (.p (.v 0) (.v 1)) (.v 3))) [0,1] [1,0] (.e (.p (.p (.v 0) (.v 1)) (.v 2)) (.p (.v 0) (.p (.v 1) (.v 3)))) 1 1 rfl (jR _ _) (qQ (cI [_,_,_] [] [] (.l (.p (.v 0) (.v 1)) (.p (.p (.v 0) (.v 1)) (.v 2))) 1 rfl)))
  simp only[h3];simp
variable {prog:Program}{w:World}{W:Wd}{k:Nat}
section
theorem XO {s:Shared}{F G:Fz}{f:Nat}{name qual:Str}{params:Arguments}{body:List Stmt}{scope:Scope}{clos:List (Str×Addr)}{doc pm ctv:Value}{c':Addr}{oc:Obj}{us:Array Value}{tq:Nat}{xs:List V}{capt:xK}{P:yW}{vs:List Value}{hid:List Nat}
    {A:Around}{Q:Value→Shared→Prop}{E:Value→Shared→Prop}(names:List Str)
    (hf:(f,fnMade name qual params body scope clos doc pm c' ctv)∈G.obs)(hoc:(c',oc)∈G.obs)(hocd:oc.data=.fields us)(hus:us[1]?=some (.str qual tq))
    (hb:∀(vs:List Value),vs.length=xs.length→bindArgs (fnX name qual params body scope clos .none .none doc pm none (.ref c') ctv) ⟨vs,[]⟩=pure (names.zip vs))
    (hp:fT scope names=true)(hn:names.Nodup)(hl:names.length=xs.length)
    (hclos:∀n c,clos.lookup n=some c→∃o v x,(c,o)∈G.obs∧o.data=.cell (some v)∧capt.lookup n=some (.val x)∧x.is prog w G v)
    (hcapt:∀y b,capt.lookup y=some b→scope.names.lookup y=some .free∧∃c,clos.lookup y=some c)
    (hinj:∀n n' c,clos.lookup n=some c→clos.lookup n'=some c→n=n')
    (b:wC W s F)(hG:G.le F)(hv:w8 prog w F vs xs)(rm:zZ (k+1) A)
    (hP:∀p∈P,s.heap.get? p.1=some p.2∧¬W.tab p.1∧(∀q∈F.obs,q.1≠p.1)∧∀v,p.2.data≠.cell v)
    (hex:∀(env:Env) (s₁:Shared) (A':Around) (E':Value→Shared→Prop),env.scope=scope→St prog w W ⟨{s with heap:=hideAll s.heap hid},F,env⟩ false (names.zip (xs.map Bd.val)++capt) P s₁ F→q0 W s s₁ F F→zZ k A' →
      wpAny (model prog w) A' (execs body env) (fun fl s'=>Q (match fl with | .ret v=>v | _=>.none) s') E' s₁):wpAny (model prog w) A (call (.ref f) vs) Q E s:=by
  unfold fT at hp;simp only[Bool.and_eq_true,beq_iff_eq,Bool.not_eq_true',List.all_eq_true,bne_iff_ne] at hp;refine zS fun nG=>?_;obtain⟨⟨⟨⟨hk,hcor⟩,hgen⟩,hcell⟩,hkinds⟩:=hp;have vl:=hv.length;refine nG ?_;refine vI ?_;refine codeAny_call_function (fd:=fnX name qual params body scope clos .none .none doc pm none (.ref c') ctv) rm.depth (b.has _ (hG.obs _ hf)) rfl hcor hgen rfl ⟨c',oc,us,tq,rfl,(b.has _ (hG.obs _ hoc)),hocd,hus⟩ ?_;rw[hb _ vl];have hbm:(names.zip vs).map (·.1)=names:=by
    rw[List.map_fst_zip];exact(qL (jN hl vl.symm))
  refine qI (wD (jJ hcell (fun x hx=>hkinds x.1 (z0 hx).1) (fun h' hns hsb hz1 ht1=>?_) hk));have keep:∀a o,s.heap.get? a=some o→h'.get? a=some o:=fun a o e=>(hsb.2 a (qM (qJ e))).trans (Heap.get?_push_of_some _ e);have g:q0 W s {s with heap:=h',toks:=s.toks+(names.zip vs).length} F F:=q0.of_keeps [] b keep (fun Z h=>nomatch h) hz1 ht1 rfl .rfl;let env:Env:=newEnv scope s.heap.objs.size mainGlobals clos (qual ++ ".<locals>.") (some f) (.ref c') none builtinsNs;have hcl:∀n c,clos.lookup n=some c→∃o v x,h'.get? c=some o∧o.data=.cell (some v)∧capt.lookup n=some (.val x)∧x.is prog w F v∧s.heap.get? c=some o∧(c,o)∈F.obs:=fun n c hc=>by
    refine zS fun nG=>?_;obtain⟨o,v,x,h1,h2,h3,h4⟩:=hclos n c hc;refine nG ?_;exact⟨o,v,x,keep _ _ (b.has _ (hG.obs _ h1)),h2,h3,V.is.mono hG h4,b.has _ (hG.obs _ h1),hG.obs _ h1⟩
  have hsz:(hideAll s.heap hid).objs.size=s.heap.objs.size:=hideAll_size _ _
  have gh:q0 W {s with heap:=hideAll s.heap hid} {s with heap:=h',toks:=s.toks+(names.zip vs).length} F F :=
    ⟨fun a o ht e=>g.keep a o ht (of_hideAll _ e),g.has,g.sub,fun p hp=>.inl hp,g.tok,g.toks,by rw[hsz];exact g.size,rfl,.rfl,g.tabs⟩
  have st:St prog w W ⟨{s with heap:=hideAll s.heap hid},F,env⟩ false (names.zip (xs.map Bd.val)++capt) P {s with heap:=h',toks:=s.toks+(names.zip vs).length} F:=by
    refine⟨b.grow g,gh,by simp only[hsz];exact b.size,rfl,rfl,hk,⟨_,hns⟩,by rw[hsz];exact qH _,fun p hp=>qM (qJ (b.has p hp)),fun p hp=>qM (qJ (hP p hp).1),fun p hp=>⟨keep _ _ (hP p hp).1,(hP p hp).2.1,(hP p hp).2.2.1⟩,fun n c hc=>?_,fun n n' c h1 h2=>hinj n n' c h1 h2,fun x hx=>?_,fun y bd hy=>?_,?_⟩
    · obtain⟨o,v,x,h1,h2,h3,h4,h5,h6⟩:=hcl n c hc;refine⟨⟨some v,o,h1,h2⟩,qM (qJ h5),(fun h=>by cases h),fun p hp e=>?_,b.off _ h6,fun h=>by cases h⟩;have:=(hP p hp).1;rw[e,h5] at this;cases this;exact(hP p hp).2.2.2 _ h2
    · exact absurd rfl (hcell _ (mem_of_lookup (show scope.names.lookup x=some .cell from hx)))
    · simp only[List.lookup_append] at hy;cases hz:(names.zip (xs.map Bd.val)).lookup y with
      | some bd' =>
        rw[hz] at hy;cases hy;refine zS fun nG=>?_;obtain⟨h1,x,v,e1,e2,e3⟩:=wW hv hz;refine nG ?_;subst e1;refine⟨v,.inl ⟨hkinds y h1,_,hns,?_⟩,e3⟩;exact jC (by simp only[hbm];exact hn) e2
      | none =>
        rw[hz] at hy;refine zS fun nG=>?_;have hy':capt.lookup y=some bd:=by simpa using hy
        obtain⟨h1,c,hc⟩:=hcapt y bd hy';obtain⟨o,v,x,h2,h3,h4,h5,_⟩:=hcl y c hc;refine nG ?_;rw[hy'] at h4;cases h4;exact⟨v,.inr ⟨.inr h1,c,hc,o,h2,h3⟩,h5⟩
    · intro x y bx by' a hne h1 h2 o1 o2
      rw[List.lookup_append] at h1;cases hz:(names.zip (xs.map Bd.val)).lookup x with
      | some bd' =>
        rw[hz] at h1;cases h1;refine zS fun nG=>?_;obtain⟨_,x',v,e1,_⟩:=wW hv hz;refine nG ?_;subst e1;cases o1
      | none =>
        rw[hz] at h1;refine zS fun nG=>?_;have hy':capt.lookup x=some bx:=by simpa using h1
        obtain⟨_,c,hc⟩:=hcapt x bx hy';obtain⟨o,v,x',h2,h3,h4,h5,_⟩:=hcl x c hc;refine nG ?_;rw[hy'] at h4;cases h4;cases o1
  refine⟨W.nolimit.keeps (fun a o e=>keep a o (b.base a o e)),codeAny_func ?_⟩;exact hex env _ _ _ rfl st g (rm.deeper env)
end
noncomputable def yK:DefRec:=JT ((xC 6).body[1]?.getD (.Pass ⟨0,0,0,0⟩))
noncomputable abbrev fn6 (clos:List (Str×Addr))(doc pm:Value)(c':Addr)(ctv:Value):Obj:=fnMade yK.name ("_int2digits.<locals>.inner":Str) yK.params yK.body yK.scope clos doc pm c' ctv
noncomputable abbrev VU (al:Nat)(n:Nat)(f:Nat):xK:=[("a_digits",.val (.con (.ref al))),("n",.val (.dat (.int (n:Int)))),("inner",.val (.con (.ref f)))]
end Mine
namespace Mine
variable {w:World}{W:Wd}{k:Nat}
noncomputable def s0 (w:World)(W:Wd)(k:Nat)(G:Fz)(f al:Nat)(xs:List V)(upd:List Dat→List Dat)(len:Nat):Prop :=
  ∀s F us vs c ds,wC W s F→G.le F→s.heap.get? al=some (listOf (List.toArray vs) c)→xV F vs ds→ds.length=len→(∀q∈F.obs,q.1≠al)→¬W.tab al→W.base.get? al=none→w8 pw w F us xs →
    ∀(A:Around) (Q:Value→Shared→Prop) (E:Value→Shared→Prop),zZ k A →
      (∀s' F' vs' c',zX W [al] s s' F F'→s'.heap.get? al=some (listOf (List.toArray vs') c')→xV F' vs' (upd ds)→Q .none s')→wpAny (model pw w) A (call (.ref f) us) Q E s
theorem s0.mono {j:Nat}{G:Fz}{f al:Nat}{xs:List V}{upd:List Dat→List Dat}{len:Nat}(h:s0 w W j G f al xs upd len)(hj:j≤k):s0 w W k G f al xs upd len :=
  fun s F us vs c ds b g1 g2 g3 g4 g5 g6 g7 g8 A Q E r q=>h s F us vs c ds b g1 g2 g3 g4 g5 g6 g7 g8 A Q E (r.mono hj) q
theorem cU {sc:Scope}{fn:Bool}{Γ Γ':xK}{fr:p4}{P:yW}{s:Shared}{F:Fz}{st:Stmt}{rest:List Stmt}{A:Around}{Q:Flow→Shared→Prop}{E:Value→Shared→Prop}(h:nX pw w W k sc fn Γ st (.next Γ'))(hsc:fr.env.scope=sc)(x:St pw w W fr fn Γ P s F)(rm:zZ k A)
    (cont:∀s' F',St pw w W fr fn Γ' P s' F'→F.le F'→wpAny (model pw w) A (execs rest fr.env) Q E s'):wpAny (model pw w) A (execs (st::rest) fr.env) Q E s :=
  xP (h fr P s F hsc x A _ E rm fun fl s' F' ho hF=>by
    obtain⟨rfl,x'⟩:=ho;exact cont s' F' x' hF)
theorem mW {sc:Scope}{fn:Bool}{Γ:xK}{fr:p4}{s:Shared}{F G:Fz}{y:Str}{es:List Expr}{p pos spos:Pos}{f al len c:Nat}{o:Obj}{fd:FuncData}{xs:List V}{upd:List Dat→List Dat}{vs:List Value}{ds:List Dat}
    {A:Around}{Q:Flow→Shared→Prop}{E:Value→Shared→Prop}(hsc:fr.env.scope=sc)(st:St pw w W fr fn Γ [(al,listOf vs.toArray c)] s F)(rm:zZ k A)
    (hy:Γ.lookup y=some (.val (.con (.ref f))))(hG:G.le F)(ho:(f,o)∈G.obs)(hd:o.data=.func fd)(ha:sY pw w W k sc fn Γ es xs)(hr:xV F vs ds)(hl:ds.length=len)(hnone:fr.sb.heap.get? al=none∧W.base.get? al=none)
    (hc:s0 w W k G f al xs upd len)
    (q:∀s' F' vs' c',St pw w W fr fn Γ [(al,listOf vs'.toArray c')] s' F'→F.le F'→xV F' vs' (upd ds)→Q .next s')
    (hs:autoParam (∀env,(starEach es env).any (·.1)=false) au1)(hi:autoParam (∀env,env.scope.kind=.function→interactive env=false) au8)
    (hsw:autoParam (∀env,swapsWith (.Call (.Name y p) es [] pos) none spos.line env=pure false) au1)
    (hdb:autoParam ((y==("__debug__":Str))=false) au2)(hn:autoParam ((y==("__classdict__":Str))=false) au2) :
    wpAny (model pw w) A (exec (.Expr (.Call (.Name y p) es [] pos) spos) fr.env) Q E s:=by
  refine wpAny_Expr ?_ (hi _ st.kind) (hsw _);rw[(rfl:eval (.Call (.Name y p) es [] pos) fr.env=(do callWith pos (← eval (.Name y p) fr.env) [] (backTo pos (starEach es fr.env)) []))];obtain⟨v,h1,h2⟩:=st.vars y _ hy;have h2':v=.ref f:=h2;subst h2';refine qC (st.load_any h1 ?_ hdb hn);refine callWith_function (o:=o) (fd:=fd) ?_;refine kC ha hsc st rm hs fun us s₂ F₂ g₂ hv=>?_;have st₂:=st.step g₂;refine⟨⟨st₂.base.has _ (g₂.sub.obs _ (hG.obs _ ho)),hd⟩,?_⟩;obtain⟨p1,p2,p3⟩:=st₂.prv _ (.head _);refine hc s₂ F₂ us vs c ds st₂.base (hG.trans g₂.sub) p1 (hr.mono g₂.sub) hl p3 p2 hnone.2 hv A _ _ rm fun s₃ F₃ vs₃ c₃ g₃ h3 hr₃=>?_
  have st₃:=St.stepH (N:=[(al,listOf vs.toArray c)]) (N':=[(al,listOf vs₃.toArray c₃)]) (P:=[]) st₂ g₃ (fun p hp=>by cases qF hp;exact .head _) (fun p hp=>by cases qF hp;exact h3) (fun Z h=>nomatch h)
    (fun p hp=>by cases qF hp;exact hnone)
  exact q s₃ F₃ vs₃ c₃ st₃ (g₂.sub.trans g₃.sub) hr₃
theorem aV {sc:Scope}{fn:Bool}{Γ:xK}{fr:p4}{P:yW}{s:Shared}{F:Fz}{e:Expr}{b:Bool}{A:Around}{Q:Bool→Shared→Prop}{E:Value→Shared→Prop}(h:eM pw w W k sc fn Γ e b)(hsc:fr.env.scope=sc)(st:St pw w W fr fn Γ P s F)(rm:zZ k A)
    (q:∀s' F',q0 W s s' F F'→Q b s'):wpAny (model pw w) A (isTrue e fr.env (eval e fr.env)) Q E s:=h fr P s F hsc st A Q E rm q
theorem Y2 {sc:Scope}{fn:Bool}{Γ:xK}{fr:p4}{P:yW}{s:Shared}{F:Fz}{e:Expr}{x:V}{A:Around}{Q:Value→Shared→Prop}{E:Value→Shared→Prop}(h:Ev pw w W k sc fn Γ e x)(hsc:fr.env.scope=sc)(st:St pw w W fr fn Γ P s F)(rm:zZ k A)
    (q:∀v s' F',q0 W s s' F F'→x.is pw w F' v→Q v s'):wpAny (model pw w) A (eval e fr.env) Q E s:=h fr P s F hsc st A Q E rm q
noncomputable abbrev lN (n m x:Nat):List Dat:=(dg n m x).map fun d:Nat=>Dat.int (d:Int)
set_option maxHeartbeats 2000000 in
theorem BF {n M:Nat}(hM:M≤10000){f al c' len:Nat}{clos:List (Str×Addr)}{doc pm ctv:Value}{oc:Obj}{us:Array Value}{t:Nat}{G:Fz}
    (hf:(f,fn6 clos doc pm c' ctv)∈G.obs)(hoc:(c',oc)∈G.obs)(hocd:oc.data=.fields us)(hus:us[1]?=some (.str ("_int2digits.<locals>.inner":Str) t))
    (hn:n≤64)(hlen:len≤1000)(hfree:∀y,(y=("a_digits":Str) ∨ y=("n":Str) ∨ y=("inner":Str))→∃c,clos.lookup y=some c)(hC:bF pw w G clos (VU al n f)) :
    ∀(m:Nat) (L x:Nat),0<m→L+m≤len→x<2^M →
      s0 w W (k+m) G f al [.dat (.int (x:Int)),.dat (.int (L:Int)),.dat (.int ((L+m:Nat):Int))] (fun ds=>over ds L (lN n m x)) len:=by
  intro m
  induction m using Nat.strongRecOn with
  | ind m ih =>
    intro L x hm hLm hx s F vs₀ vs c ds b hG hget hr hl hF htab hbase hv A Q E rm q;obtain⟨m',rfl⟩:∃m',m=m'+1:=⟨m-1,by exact(gO (qQ hm))⟩;refine XO (k:=k+m') (hid:=[al]) (P:=[(al,listOf vs.toArray c)]) (scope:=yK.scope) (capt:=VU al n f) ["x","L","R"] hf hoc hocd hus (YC fun Z Z Z=>rfl) (by exact rfl) (by decide) rfl hC.1 ?_ hC.2 b hG hv rm ?_ ?_
    · intro y b hy;have key:y=("a_digits":Str) ∨ y=("n":Str) ∨ y=("inner":Str):=by
        by_cases h1:y=("a_digits":Str)
        · exact .inl h1
        · by_cases h2:y=("n":Str)
          · exact .inr (.inl h2)
          · by_cases h3:y=("inner":Str)
            · exact .inr (.inr h3)
            · rw[qY h1,qY h2,qY h3] at hy;cases hy
      refine⟨?_,hfree y key⟩;rcases key with rfl | rfl | rfl<;>exact rfl
    · intro p hp;cases qF hp;exact⟨hget,htab,hF,fun v e=>by cases e⟩
    · intro env s₁ A' E' hsc st g₁ rm';have hz63:(1000:Int)<2^63:=by decide
      have hnone:({s with heap:=hideAll s.heap [al]}:Shared).heap.get? al=none∧W.base.get? al=none:=⟨hideAll_none _ (.head _),hbase⟩;have fin:∀(Γ':xK) (s':Shared) (F':Fz) (vs':List Value) (c':Nat),St pw w W ⟨{s with heap:=hideAll s.heap [al]},F,env⟩ false Γ' [(al,listOf vs'.toArray c')] s' F'→xV F' vs' (over ds L (lN n (m'+1) x))→Q .none s':=fun Γ' s' F' vs' c' st' hr'=>by
        have g:=st'.grow;refine q s' F' vs' c' ⟨fun a o ht hna e=>g.keep a o ht (hideAll_get _ e hna),g.has,g.sub,fun p hp=>?_,g.tok,g.toks,?_,g.os,g.gens,g.tabs⟩ (st'.prv _ (.head _)).1 hr'
        · rcases g.new p hp with h | h
          · exact .inl h
          · rw[show({s with heap:=hideAll s.heap [al]}:Shared).heap.objs.size=s.heap.objs.size from hideAll_size _ _] at h;exact .inr h
        · have:=g.size;rw[show({s with heap:=hideAll s.heap [al]}:Shared).heap.objs.size=s.heap.objs.size from hideAll_size _ _] at this;exact this
      by_cases hm1:m'=0
      · subst hm1;refine xP (wpAny_If (aV (b:=true) (zR (xF (qD rfl) qX kB) (qD rfl) uI (by rw[(by simp:(((L:Int)+1)==((L+(0+1):Nat):Int))=true)];exact x8)) hsc st rm' fun s₂ F₂ g₂=>?_));rw[if_pos rfl];have st₂:=st.step g₂;refine xP (tI (Y2 (qD rfl) hsc st₂ rm' fun u s₃ F₃ g₃ hu=>?_) (by rfl));have st₃:=st₂.step g₃;obtain⟨va,hva,hva'⟩:=st₃.vars ("a_digits":Str) _ rfl;have hva2:va=.ref al:=hva';subst hva2;refine pD st₃ hva ?_ (by exact rfl) (by exact rfl);refine Y2 (qD rfl) hsc st₃ rm' fun iv s₄ F₄ g₄ hiv=>?_;have st₄:=st₃.step g₄;obtain⟨p1,p2,p3⟩:=st₄.prv _ (.head _);refine xQ.eInt hiv fun Z hit=>?_;have hr₄:xV F₄ vs ds:=((hr.mono g₂.sub).mono g₃.sub).mono g₄.sub;refine b8 p1 (by exact(xM _)) (by exact(eO hLm (FN hlen (by decide)))) (by simp;exact(qK hLm (qL (jN hl.symm hr₄.length.symm)))) fun h' ho' hs'=>?_;simp only[Int.toNat_natCast] at ho';rw[(by simp:vs.toArray.setIfInBounds L u=(vs.set L u).toArray)] at ho'
        have st₅:=St.stepH (N:=[(al,listOf vs.toArray c)]) (N':=[(al,listOf (vs.set L u).toArray c)]) (P:=[]) st₄ (s':={s₄ with heap:=h',toks:=s₄.toks}) (zX.same st₄.base hs' p3 p2 (qH _)) (fun p hp=>by cases qF hp;exact .head _) (fun p hp=>by cases qF hp;exact ho') (fun Z h=>nomatch h)
          (fun p hp=>by cases qF hp;exact hnone)
        refine xP (wpAny_Return_none (fin _ _ F₄ (vs.set L u) c st₅ ?_));simp only[show lN n (0+1) x=[Dat.int (x:Int)] from rfl,JY _ _ _ (by exact(Nat.lt_of_lt_of_le hLm (Nat.le_of_eq hl.symm)))];exact xV.set (V.is.mono (prog:=pw) (w:=w) (x:=.dat (.int (x:Int))) g₄.sub hu) hr₄ L
      · have ht:(((L:Int)+1)==((L+(m'+1):Nat):Int))=false:=by simp;exact(B5 (zT [_] [] (.t (.n 0) (.v 0)) [1] (.T (.n 1) (.p (.c (.v 0)) (.n 1))) 1 rfl (wP hm1)))
        obtain⟨h,hdef⟩:∃h,h=(m'+1)/2:=⟨_,rfl⟩;have hmid:((L:Int)+((L+(m'+1):Nat):Int)).fdiv (2^(1:Int).toNat)=((L+h:Nat):Int):=by
          rw[show(2^(1:Int).toNat:Int)=2 by rfl,Int.fdiv_eq_ediv_of_nonneg _ (by decide)];grind
        have hh0:0<h:=by exact(bW [_,_,_] [] (.t (.n 0) (.v 1)) (.e (.v 0) (.v 2)) (.t (.p (.v 1) (.n 1)) (.p (.w (.v 2) 2) (.n 2))) [1,-2,1] (.t (.n 0) (.v 0)) 2 rfl (wP hm1) hdef (vK (by exact qA rfl)))
        have hh1:h<m'+1:=by exact(kN [_,_,_] [] (.e (.v 0) (.v 2)) (.l (.w (.v 2) 2) (.p (.v 1) (.n 1))) [2,1] (.t (.v 0) (.p (.v 1) (.n 1))) 2 rfl hdef (zD _ _))
        have hsh:(((L+h:Nat):Int)-(L:Int))*(n:Int)=((n*h:Nat):Int):=by
          rw[show((L+h:Nat):Int)-(L:Int)=(h:Int) by exact(P1 rfl),Int.natCast_mul,Int.mul_comm]
        have hup:(x:Int).fdiv (2^((n*h:Nat):Int).toNat)=((x/2^(n*h):Nat):Int):=by
          rw[Int.toNat_natCast,Int.fdiv_eq_ediv_of_nonneg _ (by exact Int.le_of_lt (Int.pow_pos (by decide)))];simp only[Int.natCast_ediv,Int.natCast_pow];rfl
        have hlow:Builtin.bitXor (x:Int) (((x/2^(n*h):Nat):Int)*2^((n*h:Nat):Int).toNat)=((x%2^(n*h):Nat):Int):=by
          have e:(((x/2^(n*h):Nat):Int)*2^((n*h:Nat):Int).toNat)=((x/2^(n*h)*2^(n*h):Nat):Int):=by
            rw[Int.toNat_natCast,Int.natCast_mul,Int.natCast_pow];rfl
          rw[e,hU,GJ]
        have hdiv:x/2^(n*h)≤x:=Nat.div_le_self _ _;refine cU (k:=k+m') (kY (b:=false) (o:=.next _) (zR (xF (qD rfl) qX kB) (qD rfl) uI (by rw[ht];exact x8)) (fun h=>nomatch h) (fun Z=>wX)) hsc st rm' fun s₂ F₂ st₂ hF₂=>?_;refine cU (k:=k+m') (xJ (x:=.dat (.int ((L+h:Nat):Int))) (by simp only[← hmid];exact xF (xF (qD rfl) (qD rfl) kB) qX (hV (by decide))) (.inl rfl)) hsc st₂ rm' fun s₃ F₃ st₃ hF₃=>?_;refine cU (k:=k+m') (xJ (x:=.dat (.int ((n*h:Nat):Int))) (by simp only[← hsh];exact xF (xF (qD rfl) (qD rfl) j7) (qD rfl) (j8 (yZ (intBits_le_64 (by exact(cI [_,_] [] [] (.T (.g (.n 18446744073709551616)) (.s (.c (.p (.v 0) (.v 1))) (.c (.v 0)))) 1 rfl)) (by exact(ZP [_,_,_,_,_] [] (.l (.v 2) (.n 1000)) (.l (.p (.v 0) (.p (.v 3) (.n 1))) (.v 2)) (.e (.v 1) (.v 4)) (.l (.w (.v 4) 2) (.p (.v 3) (.n 1))) [1,1,2,1] (.T (.s (.c (.p (.v 0) (.v 1))) (.c (.v 0))) (.n 18446744073709551616)) 2 rfl hlen hLm hdef (zD _ _))))))) (.inl rfl)) hsc st₃ rm' fun s₄ F₄ st₄ hF₄=>?_;refine cU (k:=k+m') (xJ (x:=.dat (.int ((x/2^(n*h):Nat):Int))) (by simp only[← hup];exact xF (qD rfl) (qD rfl) (hV (by exact(xM _)))) (.inl rfl)) hsc st₄ rm' fun s₅ F₅ st₅ hF₅=>?_;refine cU (k:=k+m') (xJ (x:=.dat (.int ((x%2^(n*h):Nat):Int))) (by simp only[← hlow];exact xF (qD rfl) (xF (qD rfl) (qD rfl) (uL (by exact(xM _)) (by exact(bW [Builtin.Int.intBits ↑(x/2^(n*h)),n*h,M] [] (.l (.v 2) (.n 10000)) (.l (.v 1) (.m 64 (.n 1000))) (.l (.v 0) (.v 2)) [1,1,1] (.L (.p (.c (.v 0)) (.c (.v 1))) (.n 134217728)) 1 rfl hM (gJ hn (by exact(ZP [_,_,_,_,_] [] (.l (.v 1) (.n 1000)) (.l (.p (.v 2) (.p (.v 3) (.n 1))) (.v 1)) (.e (.v 0) (.v 4)) (.l (.w (.v 4) 2) (.p (.v 3) (.n 1))) [1,1,2,1] (.l (.v 0) (.n 1000)) 2 rfl hlen hLm hdef (zD _ _))):n*h≤64*1000) (jF (by simp only[Int.natAbs_natCast];exact qV hdiv hx):Builtin.Int.intBits ((x/2^(n*h):Nat):Int)≤M))))) WC) (.inl rfl)) hsc st₅ rm' fun s₆ F₆ st₆ hF₆=>?_;have le₆:F.le F₆:=(((hF₂.trans hF₃).trans hF₄).trans hF₅).trans hF₆;have i1:=ih h hh1 L (x%2^(n*h)) hh0 (by exact(bW [_,_,_,_,_] [] (.l (.p (.v 0) (.p (.v 3) (.n 1))) (.v 2)) (.e (.v 1) (.v 4)) (.l (.w (.v 4) 2) (.p (.v 3) (.n 1))) [2,2,1] (.l (.p (.v 0) (.v 1)) (.v 2)) 2 rfl hLm hdef (zD _ _))) (qV (Nat.mod_le _ _:x%2^(n*h)≤x) hx);have i2:=ih (m'+1-h) (by exact(Nat.sub_lt hm hh0)) (L+h) (x/2^(n*h)) (by exact(kN [_,_,_] [] (.t (.v 1) (.p (.v 2) (.n 1))) (.l (.p (.v 2) (.n 1)) (.p (.v 0) (.v 1))) [1,1] (.t (.n 0) (.v 0)) 1 rfl hh1 (jR _ _))) (by exact(kN [_,_,_,_,_] [] (.l (.p (.v 0) (.p (.v 4) (.n 1))) (.v 3)) (.e (.p (.v 2) (.v 1)) (.p (.v 4) (.n 1))) [1,1] (.l (.p (.p (.v 0) (.v 1)) (.v 2)) (.v 3)) 1 rfl hLm (qQ (zT [_,_] [] (.t (.v 0) (.p (.v 1) (.n 1))) [1] (.l (.v 0) (.p (.v 1) (.n 1))) 1 rfl hh1)))) (qV hdiv hx);rw[show L+h+(m'+1-h)=L+(m'+1) by exact(nH [_,_,_,_] [] (.l (.p (.v 3) (.n 1)) (.p (.v 2) (.v 1))) (.e (.p (.v 2) (.v 1)) (.p (.v 3) (.n 1))) [0,1] [1,0] (.e (.p (.p (.v 0) (.v 1)) (.v 2)) (.p (.v 0) (.p (.v 3) (.n 1)))) 1 1 rfl (jR _ _) (Nat.sub_add_cancel (zT [_,_] [] (.t (.v 0) (.p (.v 1) (.n 1))) [1] (.l (.v 0) (.p (.v 1) (.n 1))) 1 rfl hh1)))] at i2;refine xP (mW (G:=G) hsc st₆ rm' rfl (hG.trans le₆) hf rfl (qE (qD rfl) (qE (qD rfl) (qE (qD rfl) qN))) (hr.mono le₆) hl hnone (i1.mono (by exact(kN [_,_,_,_] [] (.e (.v 1) (.v 3)) (.l (.w (.v 3) 2) (.p (.v 2) (.n 1))) [2,1] (.l (.p (.v 0) (.v 1)) (.p (.v 0) (.v 2))) 2 rfl hdef (zD _ _)))) fun s₇ F₇ vs₇ c₇ st₇ hF₇ hr₇=>?_);refine xP (mW (G:=G) hsc st₇ rm' rfl ((hG.trans le₆).trans hF₇) hf rfl (qE (qD rfl) (qE (qD rfl) (qE (qD rfl) qN))) hr₇ (by rw[JZ _ _ _ (by rw[List.length_map,tY];exact(ZP [_,_,_,_,_,_] [] (.e (.v 2) (.v 3)) (.l (.p (.v 0) (.p (.v 4) (.n 1))) (.v 3)) (.e (.v 1) (.v 5)) (.l (.w (.v 5) 2) (.p (.v 4) (.n 1))) [-2,2,2,1] (.l (.p (.v 0) (.v 1)) (.v 2)) 2 rfl hl hLm hdef (Nat.div_mul_le_self _ _)))];exact hl:(over ds L (lN n h (x%2^(n*h)))).length=len) hnone (i2.mono (by exact(qZ (yM (Nat.sub_lt hm hh0)) _))) fun s₈ F₈ vs₈ c₈ st₈ hF₈ hr₈=>?_);refine vG (fin _ s₈ F₈ vs₈ c₈ st₈ ?_);have e:over (over ds L (lN n h (x%2^(n*h)))) (L+h) (lN n (m'+1-h) (x/2^(n*h)))=over ds L (lN n (m'+1) x):=by
          have hlen:(lN n h (x%2^(n*h))).length=h:=by rw[List.length_map,tY]
          have:=WW ds L (lN n h (x%2^(n*h))) (lN n (m'+1-h) (x/2^(n*h))) (by rw[hlen,(by rw[List.length_map,tY]:(lN n (m'+1-h) (x/2^(n*h))).length=m'+1-h)];exact(bW [_,_,_,_,_,_] [] (.e (.v 3) (.v 4)) (.l (.p (.v 0) (.p (.v 5) (.n 1))) (.v 4)) (.e (.p (.v 2) (.v 1)) (.p (.v 5) (.n 1))) [-1,1,1] (.l (.p (.p (.v 0) (.v 1)) (.v 2)) (.v 3)) 1 rfl hl hLm (qQ (zT [_,_] [] (.t (.v 0) (.p (.v 1) (.n 1))) [1] (.l (.v 0) (.p (.v 1) (.n 1))) 1 rfl hh1))));rw[hlen] at this;simp only[this,← List.map_append];congr 2;have hs:=oO n h (m'+1-h) x hh0 (by exact(kN [_,_,_] [] (.t (.v 1) (.p (.v 2) (.n 1))) (.l (.p (.v 2) (.n 1)) (.p (.v 0) (.v 1))) [1,1] (.t (.n 0) (.v 0)) 1 rfl hh1 (jR _ _)));rw[show h+(m'+1-h)=m'+1 by exact(nH [_,_,_] [] (.l (.p (.v 2) (.n 1)) (.p (.v 1) (.v 0))) (.e (.p (.v 1) (.v 0)) (.p (.v 2) (.n 1))) [0,1] [1,0] (.e (.p (.v 0) (.v 1)) (.p (.v 2) (.n 1))) 1 1 rfl (jR _ _) (Nat.sub_add_cancel (zT [_,_] [] (.t (.v 0) (.p (.v 1) (.n 1))) [1] (.l (.v 0) (.p (.v 1) (.n 1))) 1 rfl hh1)))] at hs;exact hs.symm
        simp only[← e];exact hr₈
end Mine
namespace Mine
section
variable {prog:Program}{w:World}{W:Wd}{fr:p4}{fn:Bool}{Γ Γ':xK}{P:yW}{s s':Shared}{F F':Fz}{k:Nat}{sc:Scope}
theorem St.park (x:St prog w W fr fn Γ P s F){y:Str}{a:Nat}{b₀:Bd}{o:Obj}(hy:Γ.lookup y=some b₀)(hown:b₀.own=true)(hv:z7 s.heap fr.env y (.ref a))(hp:y6 fr P F a)(ho:s.heap.get? a=some o)
    (hΓ:∀z b,Γ'.lookup z=some b→z≠y∧Γ.lookup z=some b):St prog w W fr fn Γ' ((a,o)::P) s F:=by
  refine⟨x.base,x.grow,x.bsize,x.glob,x.blt,x.kind,x.ns,x.nsNew,x.nsF,fun p hq=>?_,fun p hq=>?_,fun n c hc=>?_,x.inj,x.cells,fun z b hz=>?_,fun y z by' bz c hne h1 h2=>x.apart y z by' bz c hne (hΓ y _ h1).2 (hΓ z _ h2).2⟩
  · rcases qG hq with rfl | hq
    · exact hp.loc
    · exact x.nsP p hq
  · rcases qG hq with rfl | hq
    · exact⟨ho,hp.tab x.bsize,hp.frz⟩
    · exact x.prv p hq
  · obtain⟨h1,h2,h3,h4,h5,h6⟩:=x.cell n c hc;refine⟨h1,h2,h3,fun p hq=>?_,h5,h6⟩;rcases qG hq with rfl | hq
    · exact xW (hp.cel n c hc)
    · exact h4 p hq
  · obtain⟨hne,hz'⟩:=hΓ z b hz;obtain⟨v,h1,h2⟩:=x.vars z b hz';refine⟨v,h1,?_⟩;have pr:∀c,v=.ref c→b.own=true→y6 fr P F c→y6 fr ((a,o)::P) F c:=fun c hc ho' q=>⟨q.new,q.loc,q.cel,fun p hq=>by
      rcases qG hq with rfl | hq
      · intro e;subst hc;have e':a=c:=e;subst e';exact x.apart z y b b₀ _ hne hz' hy ho' hown h1 hv
      · exact q.prv p hq,q.frz⟩
    cases b with
    | val x=>exact h2
    | lst ds=>obtain⟨c,us,n,e,h3,h4,h5⟩:=h2;exact⟨c,us,n,e,h3,h4,pr c e rfl h5⟩
    | byt bs=>obtain⟨c,n,e,h3,h5⟩:=h2;exact⟨c,n,e,h3,pr c e rfl h5⟩
    | dic kvs=>obtain⟨c,kvv,e,h3,h4,h5⟩:=h2;exact⟨c,kvv,e,h3,h4,pr c e rfl h5⟩
theorem St.unpark {y:Str}{a:Nat}{o:Obj}{b':Bd}(x:St prog w W fr fn Γ' ((a,o)::P) s F)(hnew:fr.sb.heap.objs.size≤a)(hPa:∀p∈P,p.1≠a)(hv:z7 s.heap fr.env y (.ref a))(hb:y6 fr P F a→b'.ok prog w fr P F s.heap (.ref a)) :
    St prog w W fr fn ((y,b')::Γ') P s F:=by
  have hp:y6 fr P F a:=by
    refine⟨hnew,x.nsP _ (.head _),fun n c hc=>?_,hPa,(x.prv _ (.head _)).2.2⟩;exact xW ((x.cell n c hc).2.2.2.1 _ (.head _))
  have y0:=x.perm (P':=P) fun p hq=>.tail _ hq;refine⟨y0.base,y0.grow,y0.bsize,y0.glob,y0.blt,y0.kind,y0.ns,y0.nsNew,y0.nsF,y0.nsP,y0.prv,y0.cell,y0.inj,y0.cells,fun z b hz=>?_,fun z z' bz bz' c hne h1 h2 o1 o2 v1 v2=>?_⟩
  · by_cases e:z=y
    · subst e;rw[x6] at hz;cases hz;exact⟨_,hv,hb hp⟩
    · rw[qY e] at hz;exact y0.vars z b hz
  · have off:∀z bz,Γ'.lookup z=some bz→bz.own=true→z7 s.heap fr.env z (.ref c)→c≠a:=fun z bz hz ho hv' e=>by
      subst e;obtain⟨u,w1,w2⟩:=x.vars z bz hz;cases w1.unique hv';cases bz with
      | val x=>cases ho
      | lst ds=>obtain⟨c,us,n,e,h3,h4,h5⟩:=w2;cases e;exact h5.prv _ (.head _) rfl
      | byt bs=>obtain⟨c,n,e,h3,h5⟩:=w2;cases e;exact h5.prv _ (.head _) rfl
      | dic kvs=>obtain⟨c,kvv,e,h3,h4,h5⟩:=w2;cases e;exact h5.prv _ (.head _) rfl
    by_cases e:z=y
    · have e':z'≠y:=fun q=>hne (e.trans q.symm);rw[qY e'] at h2;rw[e] at v1;cases hv.unique v1;exact off z' bz' h2 o2 v2 rfl
    · rw[qY e] at h1;by_cases e':z'=y
      · rw[e'] at v2;cases hv.unique v2;exact off z bz h1 o1 v1 rfl
      · rw[qY e'] at h2;exact y0.apart z z' bz bz' c hne h1 h2 o1 o2 v1 v2
theorem XI {y:Str}{l r:Expr}{pos pos' bpos:Pos}{ds:List Dat}{c:Int}(hl:Ev prog w W k sc fn Γ l (.dat (.list ds)))(hr:Ev prog w W k sc fn Γ r (.dat (.int c)))(hk:sc.names.lookup y=some .local ∨ (sc.names.lookup y=some .cell∧fn=true))
    (hz:ds.length*c.toNat≤2^24)(hn0:-(2^62)≤c)(hn:c<2^62)(hs:autoParam (∀env,swapsWith (.BinOp l .Mult r bpos) (some (.Name y pos')) pos.line env=pure false) au1) :
    nX prog w W k sc fn Γ (.Assign [.Name y pos'] (.BinOp l .Mult r bpos) pos) (.next ((y,.lst (List.replicate c.toNat ds).flatten)::Γ)):=fun fr P s F hsc st A Q E rm q=>
  kI (wpAny_BinOp (hl fr P s F hsc st A _ E rm fun u s₁ F₁ g₁ hu=>hr fr P s₁ F₁ hsc (st.step g₁) A _ E rm fun v s₂ F₂ g₂ hv=>by
    have st₂:=(st.step g₁).step g₂;refine xQ.eList (V.is.mono g₂.sub hu) fun a vs n hm hr=>?_
    · refine xQ.eInt hv fun t ht=>?_;have ho:=st₂.base.has _ hm;have hsz:vs.toArray.size*c.toNat≤2^24:=by rw[List.size_toArray,hr.length];exact hz
      have e:List.foldl (fun x1 x2=>x1++x2) #[] (List.replicate (if vs.toArray.isEmpty=true then 0 else c.toNat) vs.toArray)=((List.replicate c.toNat vs).flatten).toArray:=by
        rw[tV];cases vs with
        | nil=>simp
        | cons a r=>simp
      refine wpAny_binaryOp_repeat_ref (T:="list") (U:="int") (by exact rfl) ⟨_,ho,rfl⟩ (fun s'=>typeIs_int s' c t) noFill_list_mul PySem.F.fills_int_mul pG repeat_list PySem.F.slot_int_index.lookup
        (call_meets pG (typeIs_int _ c t) PySem.F.entry_int_rmul (PySem.F.args_int_rmul_2 _ _) (int___rmul___int_list c t a vs.toArray n)
          ⟨ho,rfl,⟨_,ho,rfl⟩,call_meets PySem.F.slot_list_mul ⟨_,ho,rfl⟩ PySem.F.entry_list_mul (PySem.F.args_list_mul_2 _ _)
            (eN a vs.toArray n c t (by simp[Builtin.List.listFitsIndex];exact⟨(zT [] [_] (.L (.g (.n 4611686018427387904)) (.z 0)) [1] (.L (.n (-9223372036854775808)) (.z 0)) 1 rfl hn0),(zT [] [_] (.T (.z 0) (.n 4611686018427387904)) [1] (.T (.z 0) (.n 9223372036854775808)) 1 rfl hn)⟩) (by exact(tG (qB hsz (by exact qA rfl)))) (by simp[Builtin.List.listTooLong,sizeLine];omega))
            ⟨ho,?_⟩⟩)
      rw[e];exact st₂.store_new (o:={cls:=.type "list",data:=.seq ((List.replicate c.toNat vs).flatten).toArray}) (b:=.lst (List.replicate c.toNat ds).flatten) ⟨_,_,_,rfl,Heap.get?_push_size _ rfl,v5 hr _,st₂.new⟩ (by rw[← hsc] at hk;exact hk) fun s' st'=>q _ s' F₂ ⟨rfl,st'⟩ (g₁.sub.trans g₂.sub))) (hs _)
theorem XK {y f:Str}{p p' pos:Pos}{ds:List Dat}(hB:kZ W sc f (.builtin "len"))(hy:Γ.lookup y=some (.lst ds))(hz:ds.length≤sizeLine)
    (hs:autoParam (∀env,starEach [.Name y p] env=[(false,eval (.Name y p) env)]) au1)(hd:autoParam ((y==("__debug__":Str))=false) au2)(hn:autoParam ((y==("__classdict__":Str))=false) au2) :
    Ev prog w W k sc fn Γ (.Call (.Name f p') [.Name y p] [] pos) (.dat (.int (ds.length:Int))):=fun fr P s F hsc st A Q E rm q=>by
  rw[(rfl:eval (.Call (.Name f p') [.Name y p] [] pos) fr.env=(do callWith pos (← eval (.Name f p') fr.env) [] (backTo pos (starEach [.Name y p] fr.env)) []))];refine qC (wN st (hsc▸hB.kind) hB.glob hB.boot hB.nn ?_ hB.nd);refine zS fun nG=>?_;obtain⟨v,hv,a,vs,n,rfl,ho,hr,hp⟩:=st.vars y _ hy;refine nG ?_;refine callWith_builtin (by rw[hs];rfl) ?_;rw[hs];refine evalArgs_plain (spliced_cons (pD st hv (spliced_nil ?_) hd hn));have hl:=hr.length;refine Calls.call_len_list ⟨_,ho,rfl,_,rfl⟩ (by simp;exact(lX (qL hl) (lX (hz:ds.length≤16777216) (by decide)))) ?_;simp only[List.size_toArray,hl];exact q _ _ _ ((q0.more st.base (xI _)).trans (q0.tk (st.base.grow (q0.more st.base (xI _))) _)) xQ.tk_int
end
end Mine
namespace Mine
variable {w:World}{W:Wd}{k:Nat}
theorem m8 {F F':Fz}(h:∀p∈F.tks,p∈F'.tks):∀{vs:List Value} {l:List Nat},xV F vs (l.map fun d:Nat=>Dat.int (d:Int))→xV F' vs (l.map fun d:Nat=>Dat.int (d:Int))
  | _,[],hr=>by cases hr;exact .nil
  | _,a::l,hr=>by
    refine hr.eCons fun Z Z h1 h2=>?_;refine xQ.eInt h1 fun Z ht=>?_;exact .cons (.int (h _ ht)) (m8 h h2)
theorem F3 {n M m x:Nat}{f c':Addr}{clos:List (Str×Addr)}{doc pm ctv:Value}{oc:Obj}{us:Array Value}{t:Nat}{G:Fz}{fr:p4}{P:yW}{s:Shared}{F:Fz}{ds:List Dat}{vs₀:List Value}{Γ:xK}
    {A:Around}{Q:Value→Shared→Prop}{E:Value→Shared→Prop}
    (hM:M≤10000)(hf:(f,fn6 clos doc pm c' ctv)∈G.obs)(hoc:(c',oc)∈G.obs)(hocd:oc.data=.fields us)(hus:us[1]?=some (.str ("_int2digits.<locals>.inner":Str) t))
    (hn:n≤64)(hsome:∀y,(y,NameKind.free)∈yK.scope.names→∃c,clos.lookup y=some c)(hsc:fr.env.scope=(xC 6).scope)(hclos:pZ fr.env.cells yK.scope.names=clos)
    (st:St pw w W fr true Γ P s F)(hG:G.le F)(g1:Γ.lookup ("inner":Str)=some (.val (.fn f G)))(g2:Γ.lookup ("a_digits":Str)=some (.lst ds))(g3:Γ.lookup ("n":Str)=some (.val (.dat (.int (n:Int)))))(g4:Γ.lookup ("a":Str)=some (.val (.dat (.int (x:Int)))))
    (hl:ds.length=m)(hm:0<m)(hm2:m≤1000)(hx:x<2^M)(hv:w8 pw w F vs₀ [.dat (.int (x:Int)),.dat (.int 0),.dat (.int (m:Int))])(rm:zZ (k+m) A)
    (q:∀s' F',F.le F'→St pw w W fr true [("a_digits",.lst (lN n m x)),("a",.val (.dat (.int (x:Int))))] P s' F'→Q .none s'):wpAny (model pw w) A (call (.ref f) vs₀) Q E s:=by
  have hfree:∀x∈yK.scope.names,x.2=.free→(xC 6).scope.names.lookup x.1=some .cell:=by decide
  have hkeys:∀x∈yK.scope.names,x.2=.free→x.1=("a_digits":Str) ∨ x.1=("n":Str) ∨ x.1=("inner":Str):=by decide
  have hmem:∀n c,(n,c)∈clos→(n,NameKind.free)∈yK.scope.names∧fr.env.cells.lookup n=some c:=fun n c h=>by
    rw[← hclos] at h;obtain⟨h1,h2⟩:=pY h;obtain⟨c',hc'⟩:=st.cells n (by have:=hfree _ h1 rfl;rw[← hsc] at this;exact this);rw[hc'] at h2;exact⟨h1,hc'.trans (congrArg some h2)⟩
  have hobs:∀p∈bT s.heap clos,s.heap.get? p.1=some p.2∧∃n,fr.env.cells.lookup n=some p.1∧∃v,p.2.data=.cell v:=fun p hp=>by
    obtain⟨⟨n,c⟩,hn,e⟩:=List.mem_filterMap.mp hp;cases ho:s.heap.get? c with
    | none=>rw[ho] at e;cases e
    | some o =>
      rw[ho] at e;cases e;refine zS fun nG=>?_;have hc:=(hmem n c hn).2;obtain⟨⟨v,o',h1,h2⟩,_⟩:=st.cell n c hc;refine nG ?_;rw[ho] at h1;cases h1;exact⟨ho,n,hc,v,h2⟩
  let Fp:Fz:=⟨bT s.heap clos++F.obs,F.tks⟩;have le:F.le Fp:=⟨fun p hp=>xH _ hp,fun p hp=>hp⟩;have bp:wC W s Fp:=by
    refine⟨st.base.base,fun p hp=>?_,st.base.tok,st.base.tabs.mono le,fun p hp=>?_,st.base.size⟩
    · rcases qP hp with h | h
      · exact(hobs p h).1
      · exact st.base.has p h
    · rcases qP hp with h | h
      · obtain⟨_,n,hc,_⟩:=hobs p h;exact(st.cell n _ hc).2.2.2.2.1
      · exact st.base.off p h
  refine zS fun nG=>?_;obtain⟨va,hva,al,vs,c,e,hal,hr,hp⟩:=st.vars _ _ g2;refine nG ?_;subst e;have hin:bF pw w Fp clos (VU al n f):=by
    constructor
    · intro y c hc;obtain⟨hf,hc'⟩:=hmem y c (mem_of_lookup hc);have hk:fr.env.kindOf y=some .cell:=by have:=hfree _ hf rfl;rw[← hsc] at this;exact this
      have cellOf:∀v,z7 s.heap fr.env y v→∃o,(c,o)∈Fp.obs∧o.data=.cell (some v):=fun v hva=>by
        rcases hva with⟨kk,_⟩ | ⟨_,c2,hc2,o,ho,hd⟩
        · rw[hk] at kk;cases kk
        · rw[hc'] at hc2;cases hc2;exact⟨o,qT _ (List.mem_filterMap.mpr ⟨(y,c),mem_of_lookup hc,by rw[ho];rfl⟩),hd⟩
      rcases hkeys _ hf rfl with rfl | rfl | rfl
      · obtain⟨o,h1,h2⟩:=cellOf _ hva;exact⟨o,_,_,h1,h2,rfl,rfl⟩
      · obtain⟨v,hv1,hv2⟩:=st.vars _ _ g3;obtain⟨o,h1,h2⟩:=cellOf _ hv1;exact⟨o,_,_,h1,h2,rfl,V.is.mono le hv2⟩
      · obtain⟨v,hv1,hv2⟩:=st.vars _ _ g1;obtain⟨o,h1,h2⟩:=cellOf _ hv1;exact⟨o,_,_,h1,h2,rfl,hv2.1⟩
    · intro n n' c h1 h2;exact st.inj n n' c (hmem n c (mem_of_lookup h1)).2 (hmem n' c (mem_of_lookup h2)).2
  have hnone:fr.sb.heap.get? al=none∧W.base.get? al=none:=⟨x4 hp.new,x4 (qB st.bsize hp.new)⟩;have st0:St pw w W fr true [("a",.val (.dat (.int (x:Int))))] ((al,listOf vs.toArray c)::P) s F:=st.park g2 rfl hva hp hal fun z b hz=>by
    by_cases e:z=("a":Str)
    · subst e;rw[x6] at hz;cases hz;exact⟨by decide,g4⟩
    · rw[qY e] at hz;cases hz
  refine(BF (w:=w) (W:=W) (k:=k) (al:=al) (len:=m) hM (G:=Fp) (le.obs _ (hG.obs _ hf)) (le.obs _ (hG.obs _ hoc)) hocd hus hn hm2 (fun y hy=>hsome y (by rcases hy with rfl | rfl | rfl<;>decide)) hin m 0 x hm (by exact(qL (yB _ _))) hx) s Fp vs₀ vs c ds bp .rfl hal (hr.mono le) hl (fun q hq=>?_) (hp.tab st.bsize) hnone.2 (by rw[Nat.zero_add];exact hv.mono le) A Q E rm fun s' F' vs' c₂ g hal' hr'=>?_
  · rcases qP hq with h | h
    · obtain⟨_,n,hc,_⟩:=hobs q h;exact hp.cel n _ hc
    · exact hp.frz q h
  let bad:Nat→Bool:=fun a=>(bT s.heap clos).any fun p=>p.1==a;let F₂:Fz:=⟨F'.obs.filter fun p=>!bad p.1,F'.tks⟩;have notbad:∀p∈F.obs,bad p.1=false:=fun p hp=>by
    cases hb:bad p.1 with
    | false=>rfl
    | true =>
      obtain⟨r,hr,e⟩:=List.any_eq_true.mp hb;obtain⟨_,n,hc,_⟩:=hobs r hr;exact absurd (eq_of_beq e).symm ((st.cell n _ hc).2.2.1 rfl p hp)
  have badcell:∀p∈F'.obs,bad p.1=true→∃v,p.2.data=.cell v:=fun p hp hb=>by
    obtain⟨r,hr,e⟩:=List.any_eq_true.mp hb;obtain⟨h5,n,hc,v,h6⟩:=hobs r hr;have h7:=g.has r (g.sub.obs _ (qT _ hr));have h8:=g.has _ hp;rw[show r.1=p.1 from eq_of_beq e] at h7;rw[h7] at h8;exact⟨v,(Option.some.inj h8)▸h6⟩
  have g₂:zX W [al] s s' F F₂:=by
    refine⟨g.keep,fun p hp=>g.has p (List.mem_filter.mp hp).1,⟨fun p hp=>List.mem_filter.mpr ⟨g.sub.obs p (le.obs p hp),by rw[notbad p hp];rfl⟩,fun p hp=>g.sub.tks p hp⟩,fun p hp=>?_,g.tok,g.toks,g.size,g.os,g.gens,fun q hq=>?_⟩
    · obtain⟨h1,h2⟩:=List.mem_filter.mp hp;rcases g.new p h1 with h | h
      · rcases qP h with h | h
        · have:bad p.1=true:=List.any_eq_true.mpr ⟨p,h,beq_self_eq_true _⟩;rw[this] at h2;cases h2
        · exact .inl h
      · exact .inr h
    · obtain⟨ps,h1,h2,h3⟩:=g.tabs q hq;refine⟨ps,h1,h2,fun pos cv hcv=>?_⟩;refine zS fun nG=>?_;obtain⟨c,o,us,t,e1,e2,e3,e4⟩:=h3 pos cv hcv;refine nG ?_;refine⟨c,o,us,t,e1,List.mem_filter.mpr ⟨e2,?_⟩,e3,e4⟩;cases hb:bad c with
      | false=>rfl
      | true =>
        obtain⟨v,h6⟩:=badcell _ e2 hb;rw[h6] at e3;cases e3
  have st₁:=St.stepH (N:=[(al,listOf vs.toArray c)]) (N':=[(al,listOf vs'.toArray c₂)]) (P:=P) st0 g₂ (fun p hp=>by cases qF hp;exact .head _) (fun p hp=>by cases qF hp;exact hal')
    (fun p hpP q hq=>by cases qF hq;exact xW (hp.prv p hpP)) (fun p hp=>by cases qF hp;exact hnone)
  have hov:over ds 0 (lN n m x)=lN n m x:=by
    unfold over;have:(lN n m x).length=m:=by rw[List.length_map,tY]
    rw[this,List.take_zero,List.nil_append,Nat.zero_add,List.drop_of_length_le (by exact(Nat.le_of_eq hl)),List.append_nil]
  have hr':xV F' vs' (over ds 0 (lN n m x)):=hr';simp only[hov] at hr';exact q s' F₂ g₂.sub (st₁.unpark hp.new hp.prv (hva.keeps (fun m h=>let⟨o,es,ep,ho,r⟩:=h;⟨o,es,ep,g₂.keep _ _ st.tabL (by simpa using xW hp.loc) ho,r⟩) fun c v hc h=>let⟨o,ho,r⟩:=h;⟨o,g₂.keep _ _ (st.cell _ _ hc).2.2.2.2.1 (by simpa using hp.cel _ _ hc) ho,r⟩:z7 s'.heap fr.env ("a_digits":Str) (.ref al)) fun hp'=>⟨al,vs',c₂,rfl,hal',(m8 (F:=F') (F':=F₂) (fun p hp=>hp) hr':xV F₂ vs' (lN n m x)),hp'⟩)
noncomputable def jT (n x:Nat):Nat:=(xL x+n-1)/n
theorem b7 (T:uX W){n M x:Nat}(hn0:0<n)(hn:n≤64)(hM:M≤10000)(hx:x<2^M)(hm:jT n x≤14) :
    jM w W (k+16) 6 [.dat (.int (x:Int)),.dat (.int (n:Int))] (.dat (.list (lN n (jT n x) x))):=by
  obtain⟨c,Pt,t6⟩:=T.t6;have hz2:sizeLine=16777216:=rfl;have hxb:xL x≤M:=by
    have:=jF (a:=(x:Int)) (m:=M) (by simp only[Int.natAbs_natCast];exact hx);rw[jA] at this;exact this
  refine JK ["a","n"] t6 (fun Z Z Z=>gQ fun Z Z=>rfl) (by exact rfl) (by decide) rfl ?_;have hnum:((Builtin.Int.intBits (x:Int):Int)+(n:Int)-1).fdiv (n:Int)=((jT n x:Nat):Int):=by
    rw[jA,Int.fdiv_eq_ediv_of_nonneg _ (by exact(Int.natCast_nonneg _)),jT,show(xL x:Int)+(n:Int)-1=((xL x+n-1:Nat):Int) by exact(nH [xL x,n,xL x+n-1] [] (.l (.p (.v 0) (.v 1)) (.p (.v 2) (.n 1))) (.e (.p (.v 2) (.n 1)) (.p (.v 0) (.v 1))) [1,0] [0,1] (.E (.s (.p (.c (.v 0)) (.c (.v 1))) (.n 1)) (.c (.v 2))) 1 1 rfl (jR _ _) (Nat.sub_add_cancel (zT [xL x,n] [] (.t (.n 0) (.v 1)) [1] (.l (.n 1) (.p (.v 0) (.v 1))) 1 rfl hn0))),Int.natCast_ediv]
  refine PG (Γ':=[("a_digits",.lst (List.replicate (jT n x) (Dat.int 0))),("a",.val (.dat (.int (x:Int)))),("n",.val (.dat (.int (n:Int))))]) ?_ ?_
  · have e:(List.replicate ((jT n x:Nat):Int).toNat [Dat.int 0]).flatten=List.replicate (jT n x) (Dat.int 0):=by
      simp only[Int.toNat_natCast];generalize jT n x=m
      induction m with
      | zero=>rfl
      | succ m ih=>simp only[List.replicate_succ,List.flatten_cons,ih,List.replicate_succ];rfl
    simp only[← e];refine XI (c:=((jT n x:Nat):Int)) (ds:=[.int 0]) (wS (ds:=[.int 0]) (qE qX qN)) ?_ (.inr ⟨rfl,rfl⟩) (by simp only[Int.toNat_natCast];simp;exact(qB hm (by exact qA rfl))) (by exact(B8 (by decide))) (by exact(lX hm (by decide)));simp only[← hnum];refine xF (xF (xF (kP (qD rfl)) (qD rfl) kB) qX j7) (qD rfl) (vV (by exact(UK hn0)) ?_);rw[jA,show(xL x:Int)+(n:Int)-1=((xL x+n-1:Nat):Int) by exact(nH [xL x,n,xL x+n-1] [] (.l (.p (.v 0) (.v 1)) (.p (.v 2) (.n 1))) (.e (.p (.v 2) (.n 1)) (.p (.v 0) (.v 1))) [1,0] [0,1] (.E (.s (.p (.c (.v 0)) (.c (.v 1))) (.n 1)) (.c (.v 2))) 1 1 rfl (jR _ _) (Nat.sub_add_cancel (zT [xL x,n] [] (.t (.n 0) (.v 1)) [1] (.l (.n 1) (.p (.v 0) (.v 1))) 1 rfl hn0)))];exact PyProof.noPylong_small (by simp only[Int.natAbs_natCast];exact(qV hn (by exact qA rfl)))
  · refine ZU (name:=yK.name) (params:=yK.params) (body:=yK.body) (scope:=yK.scope) (qual:=("_int2digits.<locals>.inner":Str)) t6.tab T.nd (fun env h=>h.1) (fun env h he=>?_) t6.qual.symm rfl rfl (fun Z=>rfl) (by decide) (by exact rfl) rfl (fun f c' clos doc pm ctv oc us t G hf hoc hocd hus hsome=>?_)
    · simp only[t6.qual];unfold qualnameIn;rw[show(env.kindOf yK.name==some .globalExplicit)=false by show(env.scope.names.lookup yK.name==some .globalExplicit)=false;rw[he];exact rfl,h.2];rfl
    · intro fr P s F hsc hφ st A Q E rm q;by_cases h0:x=0
      · subst h0;have hd0:jT n 0=0:=by unfold jT xL;simp;exact(nor hn0)
        refine xP (wpAny_If (aV (b:=false) (pC rfl rfl) hsc st rm fun s₁ F₁ g₁=>?_));rw[if_neg Bool.false_ne_true];refine vG ?_;refine(pW (y:=("a_digits":Str)) (ds:=[]) (by rw[hd0];rfl) (xR (xN (qD rfl))):Ex pw w W (k+15) (xC 6).scope true _ _ _) fr P s₁ F₁ hsc (st.step g₁) A Q E rm fun fl s' F' ho hF=>q fl s' F' ?_ (g₁.sub.trans hF);rw[hd0];exact ho
      · have hpos:0<jT n x:=by
          unfold jT xL;rw[if_neg h0];exact Nat.div_pos (by exact(zT [n,x.log2+1+n-1,x.log2] [] (.l (.p (.p (.v 2) (.n 1)) (.v 0)) (.p (.v 1) (.n 1))) [1] (.l (.v 0) (.v 1)) 1 rfl (jR _ _))) hn0
        refine xP (wpAny_If (aV (b:=true) (pC rfl (by simp;omega)) hsc st rm fun s₁ F₁ g₁=>?_));rw[if_pos rfl];have st₁:=st.step g₁;refine xP (wpAny_Expr ?_ (by unfold interactive;rw[st₁.kind];rfl) (by rfl));refine qC (m:=eval (.Name "inner" _) fr.env) ?_;refine zS fun nG=>?_;obtain⟨v,h1,h2⟩:=st₁.vars ("inner":Str) _ rfl;obtain⟨rfl,hG⟩:=h2;refine nG ?_;refine st₁.load_any h1 ?_ (by exact rfl) (by exact rfl);refine callWith_function (fd:=fnX yK.name ("_int2digits.<locals>.inner":Str) yK.params yK.body yK.scope clos .none .none doc pm none (.ref c') ctv) (o:=fn6 clos doc pm c' ctv) ?_;have hlen:(List.replicate (jT n x) (Dat.int 0)).length=jT n x:=List.length_replicate;refine kC (k:=k+15) (xs:=[.dat (.int (x:Int)),.dat (.int 0),.dat (.int ((List.replicate (jT n x) (Dat.int 0)).length:Int))]) (qE (qD rfl) (qE qX (qE (XK (zA T.ok (by exact .head _) rfl (by decide +kernel)) rfl (by rw[hlen];exact(qB hm (by exact qA rfl)))) qN))) hsc st₁ rm (fun Z=>rfl) fun us₂ s₂ F₂ g₂ hv=>?_;have st₂:=st₁.step g₂;refine⟨⟨st₂.base.has _ (g₂.sub.obs _ (hG.obs _ hf)),rfl⟩,?_⟩;rw[hlen] at hv;refine F3 (k:=k) hM hf hoc hocd hus hn hsome hsc hφ.2 st₂ (hG.trans g₂.sub) rfl rfl rfl rfl hlen hpos (by exact(qB hm (by exact qA rfl))) hx hv (rm.mono (by exact(qW (qZ hm _)))) fun s₃ F₃ hF₃ st₃=>?_;refine vG ?_;exact(pW (y:=("a_digits":Str)) (ds:=lN n (jT n x) x) rfl (xR (xN (qD rfl))):Ex pw w W (k+15) (xC 6).scope true _ _ _) fr P s₃ F₃ hsc st₃ A Q E rm fun fl s' F' ho hF=>q fl s' F' ho (((g₁.sub.trans g₂.sub).trans hF₃).trans hF)
end Mine
namespace Mine
section
variable {prog:Program}{w:World}{W:Wd}{fr:p4}{fn:Bool}{Γ Γ':xK}{P:yW}{s s':Shared}{F F':Fz}{k:Nat}{sc:Scope}
theorem i5 {y:Str}{p apos pos spos:Pos}{ds:List Dat}(hy:Γ.lookup y=some (.lst ds))(hz:ds.length≤sizeLine)
    (hev:autoParam (∃pl:Env→Sem Bool,∀env,eval (.Call (.Attribute (.Name y p) "reverse" apos) [] [] pos) env=(do
      let ov←eval (.Name y p) env
      standAt apos.atName
      let(f,first)←holding [ov] (getMethod ov "reverse" (pl env))
      callWith pos f first (backTo pos (starEach [] env)) [])) au11)
    (hi:autoParam (∀env,env.scope.kind=.function→interactive env=false) au8)
    (hsw:autoParam (∀env,swapsWith (.Call (.Attribute (.Name y p) "reverse" apos) [] [] pos) none spos.line env=pure false) au1)
    (hd:autoParam ((y==("__debug__":Str))=false) au2)(hn:autoParam ((y==("__classdict__":Str))=false) au2) :
    nX prog w W k sc fn Γ (.Expr (.Call (.Attribute (.Name y p) "reverse" apos) [] [] pos) spos) (.next ((y,.lst ds.reverse)::Γ)):=fun fr P s F hsc st A Q E rm q=>by
  obtain⟨pl,hev⟩:=hev;refine wpAny_Expr ?_ (hi _ st.kind) (hsw _);refine MethodCall_ (pl:=pl fr.env) (cK st hy (fun v hv hb=>?_) hd hn) (hev _);refine zS fun nG=>?_;obtain⟨a,vs,n,rfl,ho,hr,hp⟩:=hb;refine nG ?_;refine getMethod_list_of (l:=a) (items:=vs.toArray) PySem.F.slot_list_reverse PySem.F.type_list_reverse ⟨_,ho,rfl,_,rfl⟩ ⟨_,ho,rfl⟩ ?_;have hmap:Obj.mapSeq (fun x=>x.reverse) (listOf vs.toArray n)=listOf vs.reverse.toArray n:=by simp[Obj.mapSeq]
  refine callWith_method0 (call_meets PySem.F.slot_list_reverse ⟨_,ho,rfl⟩ PySem.F.entry_list_reverse (PySem.F.args_list_reverse_1 _) (AutoSeq1.list_reverse_list_0 a vs.toArray n (by simp only[List.size_toArray,hr.length];exact hz)) ⟨ho,?_⟩);have hfin:(s.heap.update a (Obj.mapSeq fun x=>x.reverse)).get? a=some (listOf vs.reverse.toArray n):=by
    rw[Heap.get?_update_self _ ho (by rw[hmap];rfl),hmap]
  exact q _ _ F ⟨rfl,st.turn (t:=s.toks) hy rfl hv hp (zP ..) (qH _) ⟨a,_,_,rfl,hfin,hr.reverse,hp⟩⟩ .rfl
end
noncomputable def hstep (n b:Nat)(st:List Nat×Nat)(d:Nat):List Nat×Nat:=(st.1++[(st.2*2^n+d)/b],(st.2*2^n+d)%b)
noncomputable def jZ (n b:Nat)(l:List Nat):List Nat×Nat:=l.foldl (hstep n b) ([],0)
theorem tU (n b:Nat)(l:List Nat)(d:Nat):jZ n b (l++[d])=hstep n b (jZ n b l) d:=by unfold jZ;simp only[List.foldl_append];rfl
noncomputable def QJ (n:Nat)(l:List Nat):Nat:=l.foldl (fun v d=>v*2^n+d) 0
theorem mS (n:Nat)(l:List Nat)(d:Nat):QJ n (l++[d])=QJ n l*2^n+d:=by unfold QJ;simp only[List.foldl_append];rfl
theorem dT (n b:Nat)(hb:0<b)(l:List Nat):QJ n l=b*QJ n (jZ n b l).1+(jZ n b l).2∧(jZ n b l).2<b∧(jZ n b l).1.length=l.length:=by
  suffices h:∀(l:List Nat) (i:Nat),i≤l.length→QJ n (l.take i)=b*QJ n (jZ n b (l.take i)).1+(jZ n b (l.take i)).2∧(jZ n b (l.take i)).2<b∧(jZ n b (l.take i)).1.length=i by
    have:=h l l.length (qH _)
    rwa [List.take_length] at this
  intro l i
  induction i with
  | zero=>intro _;simp[QJ,jZ,hb]
  | succ i ih =>
    intro hi;obtain⟨h1,h2,h3⟩:=ih (by exact(qU hi));simp only[j4 (by exact hi:i<l.length),mS,tU];unfold hstep;simp only[mS,List.length_append,List.length_cons,List.length_nil,h3];refine⟨?_,eE _ hb,trivial⟩;have:=yG ((jZ n b (l.take i)).2*2^n+l[i]) b;simp only[h1,Nat.add_mul,Nat.mul_add];simp only[← Nat.mul_assoc];exact(rY [_,_,_,_,_] [] (.e (.p (.v 3) (.v 4)) (.p (.v 1) (.v 2))) [-1] [1] (.e (.p (.p (.v 0) (.v 1)) (.v 2)) (.p (.p (.v 0) (.v 3)) (.v 4))) 1 1 rfl this)
theorem XE (n b:Nat)(hb:0<b)(l:List Nat)(hl:∀d∈l,d<2^n):∀d∈(jZ n b l).1,d<2^n:=by
  suffices h:∀(i:Nat),i≤l.length→∀d∈(jZ n b (l.take i)).1,d<2^n by
    have:=h l.length (qH _)
    rwa [List.take_length] at this
  intro i
  induction i with
  | zero=>intro _ d hd;simp[jZ] at hd
  | succ i ih =>
    intro hi d hd;have hlt:i<l.length:=by exact hi
    rw[j4 hlt,tU] at hd;unfold hstep at hd;rcases qP hd with hd | hd
    · exact ih (by exact(qU hi)) d hd
    · cases qF hd;rw[Nat.div_lt_iff_lt_mul hb];have:(jZ n b (l.take i)).2*2^n+2^n≤b*2^n:=by
        simp only[← Nat.succ_mul];exact gJ ((dT n b hb (l.take i)).2.1) (qH _)
      simp only[Nat.mul_comm (2^n) b];exact(kN [_,_,_,_] [] (.t (.v 1) (.v 3)) (.l (.p (.v 0) (.v 3)) (.v 2)) [1,1] (.t (.p (.v 0) (.v 1)) (.v 2)) 1 rfl (hl _ (wF hlt)) this)
noncomputable def gG (n:Nat):List Nat→Nat
  | []=>0
  | d::r=>d+2^n*gG n r
theorem VF (n d:Nat)(r:List Nat):gG n (d::r)=d+2^n*gG n r:=rfl
theorem l9 (n:Nat):∀l:List Nat,QJ n l.reverse=gG n l
  | []=>rfl
  | d::r=>by dsimp only[gG];rw[List.reverse_cons,mS,l9 n r,Nat.mul_comm];exact(yB _ _)
theorem a7 (n:Nat):∀l:List Nat,dv n (l.map fun d:Nat=>(d:Int))=(gG n l:Int)
  | []=>rfl
  | d::r=>by
    rw[List.map_cons,VC,a7 n r];exact rfl
theorem VE (n:Nat):∀(m x:Nat),0<m→gG n (dg n m x)=x
  | 0,x,h=>absurd h (zK _)
  | 1,x,_=>by exact rfl
  | m+2,x,_=>by
    dsimp only[dg,gG];simp only[VE n (m+1) (x/2^n) (by exact(Nat.succ_pos _))];have:=yG x (2^n);exact(gO (jN this.symm (yB _ _)))
theorem oP (n:Nat):∀(m x:Nat),x<2^(n*m)→∀d∈dg n m x,d<2^n
  | 0,x,_,d,h=>nomatch h
  | 1,x,hx,d,h=>by
    dsimp only[dg] at h;cases qF h;simpa using hx
  | m+2,x,hx,d,h=>by
    dsimp only[dg] at h;rcases qG h with rfl | h
    · exact eE _ (uM n)
    · refine oP n (m+1) (x/2^n) ?_ d h;rw[Nat.div_lt_iff_lt_mul (Nat.two_pow_pos n),← Nat.pow_add];rw[((Nat.mul_succ n (m+1)).symm:n*(m+1)+n=n*(m+2))];exact hx
variable {w:World}{W:Wd}{k:Nat}
theorem VB {prog:Program}{sc:Scope}{fn:Bool}{Γ:xK}{α:Type}{tgt e:Expr}{y:Str}{p pos:Pos}{l:List α}{h:α→Dat}(hB:kZ W sc y (.type "reversed"))
    (he:Ev prog w W k sc fn Γ e (.dat (.list (l.map h))))(ht:w5 tgt=true)(hs:autoParam (∀env,starEach [e] env=[(false,eval e env)]) au1) :
    wR prog w W k sc fn Γ tgt (.Call (.Name y p) [e] [] pos) (l.reverse.map fun a=>V.dat (h a)):=by
  have:=PN (p:=p) (pos:=pos) hB he ht hs;rw[← List.map_reverse,List.map_map] at this;exact this
set_option tactic.hygienic true in
theorem mJ (x:Nat):x<2^xL x:=by
  unfold xL;split
  · rename_i h;rw[h];exact qA rfl
  · rename_i h;exact Nat.lt_log2_self
theorem r9 {n x:Nat}(hn:0<n):x<2^(n*jT n x):=by
  refine qK (mJ x) (xZ (by exact qA rfl) ?_);unfold jT;have:=yG (xL x+n-1) n;have:=eE (xL x+n-1) hn;exact(bW [xL x,n*((xL x+n-1)/n),(xL x+n-1)%n,xL x+n-1,n] [] (.e (.p (.v 1) (.v 2)) (.v 3)) (.t (.v 2) (.v 4)) (.l (.p (.v 0) (.v 4)) (.p (.v 3) (.n 1))) [-1,1,1] (.l (.v 0) (.v 1)) 1 rfl ‹_› this (jR _ _))
theorem WN (T:uX W){a b:Nat}(hb:0<b)(hb2:xL b≤64)(ha:jT (xL b) a≤14)(ha2:a<2^1000) :
    jM w W (k+17) 8 [.dat (.int (a:Int)),.dat (.int (b:Int))] (.dat (.tuple [.int ((a/b:Nat):Int),.int ((a%b:Nat):Int)])):=by
  have hz2:sizeLine=16777216:=rfl;refine kX ["a","b"] (fun Z Z Z=>gQ fun Z Z=>rfl) (by exact rfl) (by decide) rfl ?_;have hn0:0<xL b:=by unfold xL;rw[if_neg (by exact(Nat.ne_of_gt hb))];exact(uY _)
  have hbl:=mJ b;generalize hN:xL b=n at *;refine xU (xJ (x:=.dat (.int (n:Int))) (by simp only[← (by rw[jA,hN]:(Builtin.Int.intBits (b:Int):Int)=(n:Int))];exact kP (qD rfl)) (.inl rfl)) ?_;refine xU (xJ (zW T.ok (b7 (M:=1000) T hn0 hb2 (by exact qA rfl) ha2 ha) (qE (qD rfl) (qE (qD rfl) qN))) (.inl rfl)) ?_;refine xU (xJ qX (.inl rfl)) ?_;refine xU (u9 (ds:=[]) qN (.inl rfl)) ?_;generalize hm:jT n a=m at *;have hD:∀d∈dg n m a,d<2^n:=oP n m a (by rw[← hm];exact r9 hn0);let D:=(dg n m a).reverse;have hDl:D.length=m:=by show(dg n m a).reverse.length=m;rw[List.length_reverse,tY]
  let st:Nat→List Nat×Nat:=fun i=>jZ n b (D.take i);let Γs:Nat→xK:=fun i=>[("q_digits",.lst ((st i).1.map fun d:Nat=>Dat.int (d:Int))),("r",.val (.dat (.int ((st i).2:Int)))),("n",.val (.dat (.int (n:Int)))),("b",.val (.dat (.int (b:Int))))];have stl:∀i,i≤m→(st i).1.length=i:=fun i hi=>by
    rw[(dT n b hb (D.take i)).2.2,List.length_take,hDl];exact(nH [_,_] [] (.l (.v 0) (.v 1)) (.e (.v 0) (.v 1)) [1,0] [0,-1] (.e (.v 0) (.v 1)) 1 1 rfl (kJ _ _) (KZ hi))
  refine xU (yE (Γs:=Γs) (n:=m) (VB (l:=dg n m a) (h:=fun d:Nat=>Dat.int (d:Int)) (zA T.ok (by decide) rfl (by decide +kernel)) (qD rfl) rfl) (Sub.cons rfl (.cons rfl (.cons rfl (.cons rfl .nil)))).go ?_ (.inl ⟨by simp only[List.length_map];exact hDl.symm,rfl⟩)) ?_
  · intro i x hi hx;obtain⟨hi',rfl⟩:=vR hx;refine⟨_,xY (.inl rfl),?_⟩;have hd:(dg n m a).reverse[i]<2^n:=hD _ (List.mem_reverse.mp (wF hi'));have hstep:st (i+1)=hstep n b (st i) (dg n m a).reverse[i]:=by
      show jZ n b (D.take (i+1))=_;rw[j4 hi',tU]
    generalize (dg n m a).reverse[i]=d at *;have h1:=(fun i=>(dT n b hb _).2.1:∀i,(st i).2<b) i;generalize hr:(st i).2=r at *;have hval:((r:Int)*2^((n:Nat):Int).toNat+(d:Int))=((r*2^n+d:Nat):Int):=by
      simp only[Int.toNat_natCast];exact rfl
    have htb:r*2^n+d<2^(n+n):=by
      simp only[Nat.pow_add];have:r*2^n+2^n≤2^n*2^n:=by
        simp only[← Nat.succ_mul];exact gJ (by exact(qU (qV h1 hbl))) (qH _)
      exact(kN [_,_,_,_] [] (.t (.v 1) (.v 3)) (.l (.p (.v 0) (.v 3)) (.v 2)) [1,1] (.t (.p (.v 0) (.v 1)) (.v 2)) 1 rfl hd this)
    have hlog:(b:Int).natAbs.log2<9000:=by
      simp only[Int.natAbs_natCast];have:b.log2<n:=(fH (by exact(xE hb))).mpr hbl;exact(qK this (qB hb2 (by exact qA rfl)))
    have hcall:=QS (w:=w) (W:=W) (k:=k+15) T.ok (a:=((r*2^n+d:Nat):Int)) (b:=(b:Int)) (n:=(n:Int)) (by exact(kN [Builtin.Int.intBits ↑(r*2^n+d),n] [] (.l (.v 1) (.n 64)) (.l (.v 0) (.p (.v 1) (.v 1))) [1,1] (.L (.s (.c (.v 0)) (.c (.v 1))) (.n 4000)) 1 rfl hb2 (jF (by simp only[Int.natAbs_natCast];exact htb):Builtin.Int.intBits ((r*2^n+d:Nat):Int)≤n+n))) (by exact(UK hb)) (PyProof.noPylong_of_log2 hlog);rw[(by rw[Int.fdiv_eq_ediv_of_nonneg _ (by exact(Int.natCast_nonneg _)),Int.natCast_ediv]:((r*2^n+d:Nat):Int).fdiv (b:Int)=(((r*2^n+d)/b:Nat):Int)),(by rw[Int.fmod_eq_emod_of_nonneg _ (by exact(Int.natCast_nonneg _)),Int.natCast_emod]:((r*2^n+d:Nat):Int).fmod (b:Int)=(((r*2^n+d)%b:Nat):Int))] at hcall;refine gD (xU (pB (zW T.ok hcall (qE (x:=.dat (.int ((r*2^n+d:Nat):Int))) ?_ (qE (qD rfl) (qE (qD rfl) qN)))) (.inl rfl) (.inl rfl)) (xU (cV (ds:=(st i).1.map fun d:Nat=>Dat.int (d:Int)) rfl (qD rfl) (by simp only[List.length_map,stl i (by exact(Nat.le_of_lt hi))];exact(qU (qK hi (qB ha (by exact qA rfl)))))) wX)) (.cons ?_ (.cons ?_ (.cons rfl (.cons rfl .nil))))
    · simp only[← hval];refine xF (xF (qD ?_) (qD rfl) (uL (by exact(xM _)) (by exact(kN [Builtin.Int.intBits ↑r,n] [] (.l (.v 1) (.n 64)) (.l (.v 0) (.v 1)) [2,1] (.L (.p (.c (.v 0)) (.c (.v 1))) (.n 134217728)) 1 rfl hb2 (jF (by simp only[Int.natAbs_natCast];exact(qK h1 (qU hbl))):Builtin.Int.intBits (r:Int)≤n))))) (qD rfl) kB;show some _=some _;rw[hr]
    · show some _=some _;simp only[hstep];unfold Mine.hstep;rw[hr,List.map_append];rfl
    · show some _=some _;rw[hstep];unfold Mine.hstep;rw[hr]
  · have hinv:=dT n b hb D;have hst:st m=jZ n b D:=by show jZ n b (D.take m)=_;rw[← hDl,List.take_length]
    have htop:QJ n D=a ∨ m=0:=by
      by_cases hm0:m=0
      · exact .inr hm0
      · exact .inl (by show QJ n (dg n m a).reverse=a;rw[l9,VE _ _ _ (by exact(Nat.pos_of_ne_zero hm0))])
    have hval:QJ n D=a:=by
      rcases htop with h | h
      · exact h
      · have hD0:D=[]:=List.length_eq_zero_iff.mp (hDl.trans h);have:a<2^(n*jT n a):=r9 hn0;rw[hm,h,Nat.mul_zero] at this;rw[hD0];simp[QJ] at *;exact this.symm
    rw[hval] at hinv;have hQ:QJ n (jZ n b D).1=a/b∧(jZ n b D).2=a%b:=by
      have:=Nat.div_mod_unique hb (a:=a) (c:=(jZ n b D).2) (d:=QJ n (jZ n b D).1);have h2:=this.mpr ⟨by rw[Nat.add_comm];exact hinv.1.symm,hinv.2.1⟩;exact⟨h2.1.symm,h2.2.symm⟩
    refine xU (i5 (ds:=(st m).1.map fun d:Nat=>Dat.int (d:Int)) rfl (by simp only[List.length_map,stl m (Nat.le_refl _)];exact(qB ha (by exact qA rfl)))) ?_;refine pW (y:=("q_digits":Str)) rfl ?_;have hqs:((st m).1.map fun d:Nat=>Dat.int (d:Int)).reverse=(((st m).1.reverse.map fun d:Nat=>(d:Int))).map Dat.int:=by
      simp only[← List.map_reverse,List.map_map];rfl
    have hsmall:∀d∈((st m).1.reverse.map fun d:Nat=>(d:Int)),d.natAbs<2^1000:=by
      intro d hd;obtain⟨d',hd',rfl⟩:=qS hd;simp only[Int.natAbs_natCast];rw[hst] at hd';exact qK (XE n b hb D (fun d hd=>hD d (List.mem_reverse.mp hd)) d' (List.mem_reverse.mp hd')) (xZ (by exact qA rfl) (by exact(qB hb2 (by exact qA rfl))))
    have hd2:=y7 (w:=w) (W:=W) (k:=k) T (ds:=(st m).1.reverse.map fun d:Nat=>(d:Int)) (n:=n) (M:=1000) hb2 (by exact qA rfl) (by simp only[List.length_map,List.length_reverse,stl m (Nat.le_refl _)];omega) hsmall;have hdv:dv n ((st m).1.reverse.map fun d:Nat=>(d:Int))=((a/b:Nat):Int):=by
      rw[a7,← l9,List.reverse_reverse,hst,hQ.1]
    rw[hdv] at hd2;refine xU (xJ (zW T.ok hd2 (qE ?_ (qE (qD rfl) qN))) (.inl rfl)) (xR (xN (yR (ds:=[.int ((a/b:Nat):Int),.int ((a%b:Nat):Int)]) (qE (qD rfl) (qE (qD ?_) qN)))))
    · rw[hqs];exact qD rfl
    · show some _=some _;rw[hst,hQ.2]
theorem GX {n x y:Nat}(h:x≤y):jT n x≤jT n y:=by
  unfold jT;refine Nat.div_le_div_right ?_;have:xL x≤xL y:=by
    have:=jF (a:=(x:Int)) (m:=xL y) (by simp only[Int.natAbs_natCast];exact qV h (mJ y));rw[jA] at this;exact this
  omega
theorem mZ (T:uX W){a b:Nat}(hb:0<b)(hb2:xL b≤64)(ha:jT (xL b) a≤14)(ha2:a<2^1000) :
    jM w W (k+18) 9 [.dat (.int (a:Int)),.dat (.int (b:Int))] (.dat (.tuple [.int ((a:Int).fdiv (b:Int)),.int ((a:Int).fmod (b:Int))])):=by
  simp only[(by rw[Int.fdiv_eq_ediv_of_nonneg _ (by exact(Int.natCast_nonneg _)),Int.natCast_ediv]:((a:Nat):Int).fdiv (b:Int)=((a/b:Nat):Int)),(by rw[Int.fmod_eq_emod_of_nonneg _ (by exact(Int.natCast_nonneg _)),Int.natCast_emod]:((a:Nat):Int).fmod (b:Int)=((a%b:Nat):Int))];refine kX ["a","b"] (fun Z Z Z=>gQ fun Z Z=>rfl) (by exact rfl) (by decide) rfl ?_;refine xR (kY (b:=false) (zR (qD rfl) qX uI (by rw[show((b:Int)==0)=false by simp<;>exact(Nat.ne_of_gt hb)];exact x8)) (fun h=>nomatch h) (fun Z=>?_));refine xR (kY (b:=false) (zR (qD rfl) qX hH (by rw[show decide ((b:Int)<0)=false by assumption<;>omega];exact x8)) (fun h=>nomatch h) (fun Z=>?_));refine xR (kY (b:=false) (zR (qD rfl) qX hH (by rw[show decide ((a:Int)<0)=false by assumption<;>omega];exact x8)) (fun h=>nomatch h) (fun Z=>?_));exact xR (xN (zW T.ok (WN T hb hb2 ha ha2) (qE (qD rfl) (qE (qD rfl) qN))))
theorem t8 (a:Int):Builtin.bitNot a=-a-1:=rfl
theorem mY (T:uX W){a:Int}{b:Nat}(hb:0<b)(hb2:xL b≤64)(ha:jT (xL b) a.natAbs≤14)(ha2:a.natAbs<2^1000) :
    jM w W (k+19) 9 [.dat (.int a),.dat (.int (b:Int))] (.dat (.tuple [.int (a.fdiv (b:Int)),.int (a.fmod (b:Int))])):=by
  by_cases h0:0≤a
  · obtain⟨n,rfl⟩:=tH h0;exact mZ (k:=k+1) T hb hb2 (by simpa using ha) (by simpa using ha2)
  · obtain⟨n,hn⟩:∃n:Nat,-a-1=n:=⟨(-a-1).toNat,by exact(nH [(-a-1).toNat] [a] (.L (.s (.g (.z 0)) (.n 1)) (.c (.v 0))) (.E (.c (.v 0)) (.s (.g (.z 0)) (.n 1))) [1,0] [0,1] (.E (.s (.g (.z 0)) (.n 1)) (.c (.v 0))) 1 1 rfl (zI _) (zO (zT [] [a] (.T (.z 0) (.n 0)) [1] (.L (.n 0) (.s (.g (.z 0)) (.n 1))) 1 rfl (Int.not_le.mp h0))))⟩;have hnle:n≤a.natAbs:=by omega
    have e1:Builtin.bitNot ((n:Int).fdiv (b:Int))=a.fdiv (b:Int):=by
      rw[t8,Int.fdiv_eq_ediv_of_nonneg _ (by exact(Int.natCast_nonneg _)),Int.fdiv_eq_ediv_of_nonneg _ (by exact(Int.natCast_nonneg _))];have:a=-(n:Int)-1:=by exact(rY [_] [_] (.E (.s (.g (.z 0)) (.n 1)) (.c (.v 0))) [-1] [1] (.E (.z 0) (.s (.g (.c (.v 0))) (.n 1))) 1 1 rfl hn)
      rw[this];have h2:=(Int.ediv_emod_unique (a:=-(n:Int)-1) (b:=(b:Int)) (r:=(b:Int)-1-(n:Int)%b) (q:=-((n:Int)/b)-1) (by exact(WH hb))).mpr ⟨by have:=Int.emod_add_mul_ediv (n:Int) b;simp only[Int.mul_sub,Int.mul_neg];exact(rY [_,_] [_,_] (.E (.p (.z 0) (.z 1)) (.c (.v 1))) [-1] [1] (.E (.p (.s (.s (.c (.v 0)) (.n 1)) (.z 0)) (.s (.g (.z 1)) (.w (.c (.v 0)) 1))) (.s (.g (.c (.v 1))) (.n 1))) 1 1 rfl this),by have:=bE (n:Int) (show(0:Int)<b by exact(WH hb));exact(zT [_] [_] (.T (.z 0) (.c (.v 0))) [1] (.L (.n 0) (.s (.s (.c (.v 0)) (.n 1)) (.z 0))) 1 rfl this),by have:=nV (n:Int) (show(b:Int)≠0 by exact(UK hb));exact(zT [_] [_] (.L (.n 0) (.z 0)) [1] (.T (.s (.s (.c (.v 0)) (.n 1)) (.z 0)) (.c (.v 0))) 1 rfl this)⟩;exact h2.1.symm
    have e2:(b:Int)+Builtin.bitNot ((n:Int).fmod (b:Int))=a.fmod (b:Int):=by
      rw[t8,Int.fmod_eq_emod_of_nonneg _ (by exact(Int.natCast_nonneg _)),Int.fmod_eq_emod_of_nonneg _ (by exact(Int.natCast_nonneg _))];have:a=-(n:Int)-1:=by exact(rY [_] [_] (.E (.s (.g (.z 0)) (.n 1)) (.c (.v 0))) [-1] [1] (.E (.z 0) (.s (.g (.c (.v 0))) (.n 1))) 1 1 rfl hn)
      simp only[this];have h2:=(Int.ediv_emod_unique (a:=-(n:Int)-1) (b:=(b:Int)) (r:=(b:Int)-1-(n:Int)%b) (q:=-((n:Int)/b)-1) (by exact(WH hb))).mpr ⟨by have:=Int.emod_add_mul_ediv (n:Int) b;simp only[Int.mul_sub,Int.mul_neg];omega,by have:=bE (n:Int) (show(0:Int)<b by exact(WH hb));exact(zT [_] [_] (.T (.z 0) (.c (.v 0))) [1] (.L (.n 0) (.s (.s (.c (.v 0)) (.n 1)) (.z 0))) 1 rfl this),by have:=nV (n:Int) (show(b:Int)≠0 by exact(UK hb));exact(zT [_] [_] (.L (.n 0) (.z 0)) [1] (.T (.s (.s (.c (.v 0)) (.n 1)) (.z 0)) (.c (.v 0))) 1 rfl this)⟩;simp only[h2.2];exact(QA [_] [_] [] [] (.E (.p (.c (.v 0)) (.s (.g (.z 0)) (.n 1))) (.s (.s (.c (.v 0)) (.n 1)) (.z 0))) 1 1 rfl)
    refine kX ["a","b"] (fun Z Z Z=>gQ fun Z Z=>rfl) (by exact rfl) (by decide) rfl ?_;refine xR (kY (b:=false) (zR (qD rfl) qX uI (by rw[show((b:Int)==0)=false by simp<;>exact(Nat.ne_of_gt hb)];exact x8)) (fun h=>nomatch h) (fun Z=>?_));refine xR (kY (b:=false) (zR (qD rfl) qX hH (by rw[show decide ((b:Int)<0)=false by assumption<;>omega];exact x8)) (fun h=>nomatch h) (fun Z=>?_));refine xR (kY (b:=true) (zR (qD rfl) qX hH (by rw[show decide (a<0)=true by simp<;>exact(Int.not_le.mp h0)];exact x8)) (fun Z=>?_) (fun h=>nomatch h));refine xU (pB (zW T.ok (mZ (w:=w) (W:=W) (k:=k) T (a:=n) hb hb2 (qB (GX hnle) ha) (qV hnle ha2)) (qE (x:=.dat (.int (n:Int))) (by simp only[← hn,← t8];exact fE (qD rfl) QH) (qE (qD rfl) qN))) (.inl rfl) (.inl rfl)) ?_;simp only[← e1,← e2];exact xR (xN (yR (ds:=[.int (Builtin.bitNot ((n:Int).fdiv (b:Int))),.int ((b:Int)+Builtin.bitNot ((n:Int).fmod (b:Int)))]) (qE (fE (qD rfl) QH) (qE (xF (qD rfl) (fE (qD rfl) QH) kB) qN))))
theorem WO (T:uX W){a b:Int}(hb:b≠0)(hb2:xL b.natAbs≤64)(ha:jT (xL b.natAbs) a.natAbs≤14)(ha2:a.natAbs<2^1000) :
    jM w W (k+20) 9 [.dat (.int a),.dat (.int b)] (.dat (.tuple [.int (a.fdiv b),.int (a.fmod b)])):=by
  by_cases h0:0<b
  · obtain⟨n,rfl⟩:=tH (t9 h0);exact mY (k:=k+1) T (by exact(zT [_] [] (.T (.n 0) (.c (.v 0))) [1] (.t (.n 0) (.v 0)) 1 rfl h0)) (by simpa using hb2) (by simpa using ha) ha2
  · obtain⟨n,hn⟩:∃n:Nat,-b=n:=⟨(-b).toNat,by exact(nH [(-b).toNat] [b] (.L (.g (.z 0)) (.c (.v 0))) (.E (.c (.v 0)) (.g (.z 0))) [1,0] [0,1] (.E (.g (.z 0)) (.c (.v 0))) 1 1 rfl (zI _) (zO (zT [] [b] (.L (.z 0) (.n 0)) [1] (.L (.n 0) (.g (.z 0))) 1 rfl (Int.not_lt.mp h0))))⟩;have hna:b.natAbs=n:=by grind
    rw[hna] at hb2 ha;have hc:=mY (w:=w) (W:=W) (k:=k) T (a:=-a) (b:=n) (by grind) hb2 (by rw[Int.natAbs_neg];exact ha) (by rw[Int.natAbs_neg];exact ha2);have e1:(-a).fdiv (n:Int)=a.fdiv b:=by rw[← hn,Int.neg_fdiv_neg]
    have e2:-((-a).fmod (n:Int))=a.fmod b:=by
      rw[Int.fmod_def,Int.fmod_def,e1,← hn,Int.neg_mul];exact(QA [] [_,_] [] [] (.E (.g (.s (.g (.z 0)) (.g (.z 1)))) (.s (.z 0) (.z 1))) 1 1 rfl)
    rw[e1] at hc;refine kX ["a","b"] (fun Z Z Z=>gQ fun Z Z=>rfl) (by exact rfl) (by decide) rfl ?_;refine xR (kY (b:=false) (zR (qD rfl) qX uI (by rw[show(b==0)=false by simp<;>omega];exact x8)) (fun h=>nomatch h) (fun Z=>?_));refine xR (kY (b:=true) (zR (qD rfl) qX hH (by rw[show decide (b<0)=true by simp<;>grind];exact x8)) (fun Z=>?_) (fun h=>nomatch h));refine xU (pB (zW T.ok hc (qE (fE (qD rfl) fK) (qE (x:=.dat (.int (n:Int))) (by simp only[← hn];exact fE (qD rfl) fK) qN))) (.inl rfl) (.inl rfl)) ?_;simp only[← e2];exact xR (xN (yR (ds:=[.int (a.fdiv b),.int (-((-a).fmod (n:Int)))]) (qE (qD rfl) (qE (fE (qD rfl) fK) qN))))
end Mine
namespace Mine
variable {w:World}{W:Wd}{k:Nat}
noncomputable def bC (i:Int):Prop:=i=1 ∨ i=-1
theorem bC.small {i:Int}(h:bC i):Builtin.Int.intBits i≤64:=intBits_le_64 (by rcases h with rfl | rfl<;>decide) (by rcases h with rfl | rfl<;>decide)
theorem bC.mulOk {i j:Int}(h:bC i):IntMulOk i j:=yZ h.small
theorem bC.sq {i:Int}(h:bC i):i*i=1:=by rcases h with rfl | rfl<;>rfl
theorem bC.abs {i j:Int}(h:bC i):(i*j).natAbs=j.natAbs:=by rcases h with rfl | rfl<;>simp
noncomputable abbrev BB (wd:Nat):Int:=2^wd+1
noncomputable def Z3 (c h:Int)(wd:Nat)(one two:Int):Int:=one*two*((one*(c-h)).fdiv (two*BB wd))
theorem h9 (wd:Nat):0<BB wd:=by have:(0:Int)<2^wd:=Int.pow_pos (by decide);show 0<2^wd+1;exact(zT [] [_] (.T (.n 0) (.z 0)) [1] (.T (.n 0) (.p (.z 0) (.n 1))) 1 rfl this)
theorem B6 (wd:Nat):BB wd=((2^wd+1:Nat):Int):=by exact rfl
theorem m5 {D:Int}{wd:Nat}{two:Int}(h2:bC two) :
    D.fdiv (two*BB wd)*(two*BB wd)+D.fmod (two*BB wd)=D∧0≤two*D.fmod (two*BB wd)∧two*D.fmod (two*BB wd)<BB wd:=by
  have hB:=h9 wd;refine⟨by have:=Int.fmod_add_mul_fdiv D (two*BB wd);rw[Int.mul_comm (D.fdiv _)];exact(rY [] [two*BB wd*D.fdiv (two*BB wd),D.fmod (two*BB wd),D] (.E (.p (.z 1) (.z 0)) (.z 2)) [1] [-1] (.E (.p (.z 0) (.z 1)) (.z 2)) 1 1 rfl this),?_⟩;rcases h2 with rfl | rfl
  · rw[Int.one_mul,Int.one_mul];rw[Int.fmod_eq_emod_of_nonneg _ (by exact(Int.le_of_lt hB))];exact⟨nV _ (by exact(o7 hB)),bE _ hB⟩
  · have e:D.fmod (-1*BB wd)=-((-D).fmod (BB wd)):=by
      simp only[show(-1:Int)*BB wd=-(BB wd) by exact(QA [] [BB wd] [] [] (.E (.m (-1) (.z 0)) (.g (.z 0))) 1 1 rfl),Int.fmod_def,Int.fmod_def,← Int.neg_fdiv_neg D (-(BB wd)),Int.neg_neg,Int.neg_mul];exact(QA [] [_,_] [] [] (.E (.s (.z 0) (.g (.z 1))) (.g (.s (.g (.z 0)) (.z 1)))) 1 1 rfl)
    rw[e,Int.fmod_eq_emod_of_nonneg _ (by exact(Int.le_of_lt hB))];exact⟨(zT [] [-D%BB wd] (.L (.n 0) (.z 0)) [1] (.L (.n 0) (.m (-1) (.g (.z 0)))) 1 rfl (nV (-D) (show BB wd≠0 by exact(o7 hB)))),(zT [] [-D%BB wd,BB wd] (.T (.z 0) (.z 1)) [1] (.T (.m (-1) (.g (.z 0))) (.z 1)) 1 rfl (bE (-D) hB))⟩
theorem JS {d:Int}{wd:Nat}{one two:Int}(h1:bC one)(h2:bC two):(one*(one*d).fmod (two*BB wd)).fmod (BB wd)=d.fmod (BB wd):=by
  have hB:=h9 wd;obtain⟨f1,_,_⟩:=m5 (D:=one*d) (wd:=wd) h2;have e:one*(one*d).fmod (two*BB wd)=d+BB wd*(-(one*two*(one*d).fdiv (two*BB wd))):=by
    generalize (one*d).fdiv (two*BB wd)=q at *;generalize (one*d).fmod (two*BB wd)=r at *;generalize BB wd=B at *;generalize hp:q*B=p;rcases h1 with rfl | rfl<;>rcases h2 with rfl | rfl<;>simp only[Int.one_mul,Int.neg_mul,Int.mul_neg,Int.neg_neg,Int.mul_one,hp,(by rw[Int.mul_comm];exact hp:B*q=p)] at f1⊢<;> (first | (first | exact(rY [] [_,_,_] (.E (.p (.g (.z 2)) (.z 0)) (.z 1)) [1] [-1] (.E (.z 0) (.p (.z 1) (.z 2))) 1 1 rfl f1) | exact(rY [] [_,_,_] (.E (.p (.z 2) (.z 0)) (.g (.z 1))) [-1] [1] (.E (.g (.z 0)) (.p (.z 1) (.z 2))) 1 1 rfl f1) | exact(rY [] [_,_,_] (.E (.p (.z 2) (.z 0)) (.z 1)) [1] [-1] (.E (.z 0) (.p (.z 1) (.g (.z 2)))) 1 1 rfl f1)) | grind)
  rw[e,Int.fmod_eq_emod_of_nonneg _ (by exact(Int.le_of_lt hB)),Int.fmod_eq_emod_of_nonneg _ (by exact(Int.le_of_lt hB)),Int.add_mul_emod_self_left]
theorem nC (T:uX W){cs hs:List Int}{wd M:Nat}{one two:Int}(h1:bC one)(h2:bC two)(hw:wd≤60)(hM:M≤100)(hc:cs.length≤14)(hh:hs.length≤14)(hcb:∀d∈cs,d.natAbs<2^M)(hhb:∀d∈hs,d.natAbs<2^M)
    (hd:jT (xL (2^wd+1)) (dv wd cs-dv wd hs).natAbs≤14)(hd2:(dv wd cs-dv wd hs).natAbs<2^1000) :
    jM w W (k+21) 34 [.dat (.list (cs.map Dat.int)),.dat (.list (hs.map Dat.int)),.dat (.int (wd:Int)),.dat (.int one),.dat (.int two)]
      (.dat (.tuple [.int (Z3 (dv wd cs) (dv wd hs) wd one two),.int ((dv wd cs-dv wd hs).fmod (BB wd))])):=by
  refine kX ["counts","holes","width","one","two"] (fun Z Z Z=>len5 fun Z Z Z Z Z=>rfl) (by exact rfl) (by decide) rfl ?_;have c1:=y7 (w:=w) (W:=W) (k:=k+4) T (ds:=cs) (n:=wd) (M:=M) (by exact(qB hw (by exact qA rfl))) (by exact(qB hM (by exact qA rfl))) hc hcb;have c2:=y7 (w:=w) (W:=W) (k:=k+4) T (ds:=hs) (n:=wd) (M:=M) (by exact(zT [_] [] (.l (.v 0) (.n 60)) [1] (.l (.v 0) (.n 64)) 1 rfl hw)) (by exact(zT [_] [] (.l (.v 0) (.n 100)) [1] (.l (.v 0) (.n 1000)) 1 rfl hM)) hh hhb;generalize dv wd cs=c at *;generalize dv wd hs=h at *;refine xU (xJ (zW T.ok (JL (k:=k+19) h1.mulOk) (qE (qD rfl) (qE (zW T.ok (JH (k:=k+19)) (qE (zW T.ok c1 (qE (qD rfl) (qE (qD rfl) qN))) (qE (zW T.ok c2 (qE (qD rfl) (qE (qD rfl) qN))) qN))) qN))) (.inl rfl)) ?_;refine xU (xJ (x:=.dat (.int (two*BB wd))) (by simp only[← (by rw[Int.toNat_natCast,Int.one_mul]:(1:Int)*2^((wd:Nat):Int).toNat+1=BB wd)];exact zW T.ok (JL (k:=k+19) h2.mulOk) (qE (qD rfl) (qE (zW T.ok (QT (k:=k+19)) (qE (zW T.ok (rM (k:=k+19) (by exact(xM _)) (by rw[(by decide +kernel:Builtin.Int.intBits 1=1)];exact(zT [_] [] (.l (.v 0) (.n 60)) [1] (.L (.p (.c (.n 1)) (.c (.v 0))) (.n 134217728)) 1 rfl hw))) (qE qX (qE (qD rfl) qN))) (qE qX qN))) qN))) (.inl rfl)) ?_;have hBn:(two*BB wd).natAbs=2^wd+1:=by rw[h2.abs,B6,Int.natAbs_natCast]
  have hpw:2^wd≤2^60:=xZ (by exact qA rfl) hw;have hBbits:xL (2^wd+1)≤64:=by
    have:=jF (a:=((2^wd+1:Nat):Int)) (m:=64) (by simp only[Int.natAbs_natCast];exact(qV (z5 hpw) (by exact qA rfl)));rw[jA] at this;exact this
  have cd:=WO (w:=w) (W:=W) (k:=k) T (a:=one*(c-h)) (b:=two*BB wd) (by intro e;rw[e] at hBn;simp at hBn:two*BB wd≠0) (by rw[hBn];exact hBbits) (by simp only[hBn,h1.abs];exact hd) (by rw[h1.abs];exact hd2);obtain⟨f1,f2,f3⟩:=m5 (D:=one*(c-h)) (wd:=wd) h2;have hquo:Z3 c h wd one two=one*two*(one*(c-h)).fdiv (two*BB wd):=rfl;simp only[hquo,← (JS (d:=c-h) (wd:=wd) h1 h2)];generalize (one*(c-h)).fdiv (two*BB wd)=qu at *;generalize (one*(c-h)).fmod (two*BB wd)=re at *;refine xU (pB (zW T.ok cd (qE (qD rfl) (qE (qD rfl) qN))) (.inl rfl) (.inl rfl)) ?_;have t2:two*(two*BB wd)=BB wd:=by rw[← Int.mul_assoc,h2.sq,Int.one_mul]
  refine xU (kY (b:=false) (o:=.next _) ?_ (fun h=>nomatch h) (fun Z=>wX)) (xR (xN (yR (ds:=[.int (one*two*qu),.int ((one*re).fmod (BB wd))]) (qE (xF (xF (qD rfl) (qD rfl) (j8 h1.mulOk)) (qD rfl) (j8 (yZ (intBits_le_64 ?_ ?_)))) (qE ?_ qN)))))
  · have:false=(false||(false||(false||false))):=rfl;rw[this];refine yH (j0 ?_ fun Z=>j0 ?_ fun Z=>j0 ?_ fun Z=>fY)
    · exact zR (xF (xF (qD rfl) (qD rfl) (j8 ((fun j=>IntMulOk.of_right (jF (by rw[hBn];exact(qV (z5 hpw) (by exact qA rfl)))):∀j:Int,IntMulOk j (two*BB wd)) _))) (qD rfl) kB) (qD rfl) VQ (by rw[f1,show(one*(c-h) != one*(c-h))=false by simp];exact x8)
    · exact zR (xF (qD rfl) (qD rfl) (j8 h2.mulOk)) qX hH (by rw[show decide (two*re<0)=false by simp<;>omega];exact x8)
    · exact zR (xF (qD rfl) (qD rfl) (j8 h2.mulOk)) (xF (qD rfl) (qD rfl) (j8 h2.mulOk)) BS (by rw[t2,show decide (two*re≥BB wd)=false by simp<;>omega];exact x8)
  · rcases h1 with rfl | rfl<;>rcases h2 with rfl | rfl<;>decide
  · rcases h1 with rfl | rfl<;>rcases h2 with rfl | rfl<;>decide
  · refine xF (xF (qD rfl) (qD rfl) (j8 h1.mulOk)) (xF (qD rfl) (qD rfl) (j8 h2.mulOk)) ?_;simp only[t2];exact yU (by exact(o7 (h9 wd)))
end Mine
namespace Mine
variable {w:World}{W:Wd}{k:Nat}
theorem a8 {prog:Program}{ds es:List Dat}{c:Bool}(hc:c=true↔ds=es)(ha:∀d∈ds,kqdOk 8 d=true)(hb:∀d∈es,kqdOk 8 d=true):p5 prog w W k .NotEq (.dat (.tuple ds)) (.dat (.tuple es)) (.dat (.bool (!c))):=fun s F u v bs hu hv A Q E rm q=>by
  have ha':kqdOk 9 (.tuple ds)=true:=by simpa[kqdOk] using ha
  have hb':kqdOk 9 (.tuple es)=true:=by simpa[kqdOk] using hb
  obtain⟨as,ra⟩:=kqd_in (dO bs) 9 (xQ.dat hu) ha';obtain⟨bs',rb⟩:=kqd_in (dO bs) 9 (xQ.dat hv) hb';have la:=kqd_lay 9 (.tuple ds) ha';have lb:=kqd_lay 9 (.tuple es) hb';have e:PyData.eqv (kqdP (.tuple ds)) (kqdP (.tuple es))=c:=by
    have hq:=kqd_eqv 9 (.tuple ds) (.tuple es) 9 ha' hb';simp only[Dat.tuple.injEq] at hq;cases c with
    | true=>exact hq.mpr (hc.mp rfl)
    | false=>exact Bool.eq_false_iff.mpr fun x=>nomatch hc.mpr (hq.mp x)
  cases hu with
  | tuple hm hr =>
    cases hv with
    | tuple hm' hr' =>
      refine ne_dataH ra rb ?_ ?_ rm.units (by rw[e];exact q _ _ _ (q0.refl bs) (.bool _))
      · unfold SeqAt.shaped;simp only[la.1,Bool.true_and];exact decide_eq_true (qB la.2 (by exact qA rfl))
      · unfold SeqAt.shaped;rw[lb.1,Bool.true_and];exact decide_eq_true (qB lb.2 (by exact qA rfl))
noncomputable def wT (l:List Nat):List Nat:=(l.reverse.dropWhile (·==0)).reverse
theorem eZ (l:List Nat):wT (l++[0])=wT l:=by simp[wT]
theorem QP (l:List Nat)(a:Nat)(h:a≠0):wT (l++[a])=l++[a]:=by simp[wT,h]
theorem fM:∀(m:Nat)(l:List Nat),l.length=m→(wT l++List.replicate (l.length-(wT l).length) 0=l∧(wT l=[] ∨ ∃r a,wT l=r++[a]∧a≠0)∧(wT l).length≤l.length)
  | 0,l,h=>by
    have:l=[]:=List.length_eq_zero_iff.mp h;subst this;exact⟨rfl,.inl rfl,qH _⟩
  | m+1,l,h=>by
    have hne:l≠[]:=by intro e;rw[e] at h;cases h
    obtain⟨r,a,rfl⟩:∃r a,l=r++[a]:=⟨l.dropLast,l.getLast hne,(List.dropLast_concat_getLast hne).symm⟩;by_cases ha:a=0
    · subst ha;obtain⟨h1,h2,h3⟩:=fM m r (by simpa using h:r.length=m);rw[eZ];refine⟨?_,h2,by simp;exact(qW h3)⟩;have e:(r++[0]).length-(wT r).length=(r.length-(wT r).length)+1:=by simp;exact(ZO [_,_,_,_] [] (.l (.p (.v 2) (.n 1)) (.p (.v 0) (.v 3))) (.e (.p (.v 0) (.v 3)) (.p (.v 2) (.n 1))) (.l (.v 2) (.p (.v 1) (.v 3))) (.e (.p (.v 1) (.v 3)) (.v 2)) [0,1,1,0] [1,0,0,1] (.e (.v 0) (.p (.v 1) (.n 1))) 1 1 rfl (jR _ _) (qQ (zT [_,_] [] (.l (.v 0) (.v 1)) [1] (.l (.v 0) (.p (.v 1) (.n 1))) 1 rfl h3)) (jR _ _) (qQ h3))
      rw[e,List.replicate_succ',← List.append_assoc,h1]
    · rw[QP _ _ ha];exact⟨by simp,.inr ⟨r,a,rfl,ha⟩,qH _⟩
theorem mH (n:Nat):∀(a b:List Nat),gG n (a++b)=gG n a+2^(n*a.length)*gG n b
  | [],b=>by dsimp only[gG];simp
  | d::r,b=>by
    rw[List.cons_append,VF,VF,mH n r b,List.length_cons,Nat.mul_succ,Nat.pow_add,Nat.mul_add,← Nat.add_assoc,← Nat.mul_assoc,Nat.mul_comm (2^(n*r.length)) (2^n)]
theorem oN (n m:Nat):gG n (List.replicate m 0)=0:=by
  induction m with
  | zero=>rfl
  | succ m ih=>rw[List.replicate_succ,VF,ih];exact rfl
theorem XS (n:Nat):∀(l:List Nat),(∀d∈l,d<2^n)→gG n l<2^(n*l.length)
  | [],_=>by exact qH _
  | d::r,h=>by
    dsimp only[gG];simp only[List.length_cons,Nat.mul_succ,Nat.add_comm (n*r.length),Nat.pow_add];have:2^n*(gG n r+1)≤2^n*2^(n*r.length):=wI _ (XS n r fun x hx=>h x (.tail _ hx));simp only[Nat.mul_add] at this;exact(kN [_,_,_,_] [] (.t (.v 0) (.v 3)) (.l (.p (.v 1) (.w (.v 3) 1)) (.v 2)) [1,1] (.t (.p (.v 0) (.v 1)) (.v 2)) 1 rfl (h d (.head _)) this)
theorem VH (n:Nat):∀(l:List Nat),(∀d∈l,d<2^n)→dg n l.length (gG n l)=l
  | [],_=>rfl
  | [d],_=>by exact rfl
  | d::e::r,h=>by
    have h1:=h d (.head _);have ih:=VH n (e::r) fun x hx=>h x (.tail _ hx);have e1:gG n (d::e::r)=d+2^n*gG n (e::r):=rfl;show dg n (r.length+2) (gG n (d::e::r))=_;dsimp only[dg];simp only[e1,Nat.add_mul_mod_self_left,Nat.mod_eq_of_lt h1,Nat.add_mul_div_left _ _ (Nat.two_pow_pos n),Nat.div_eq_of_lt h1,Nat.zero_add];congr 1
theorem J3 {n:Nat}(hn:0<n){l:List Nat}(h:∀d∈l,d<2^n):jT n (gG n l)=(wT l).length:=by
  obtain⟨h1,h2,h3⟩:=fM l.length l rfl;have hv:gG n l=gG n (wT l):=by
    conv=>lhs;rw[← h1,mH,oN,Nat.mul_zero,Nat.add_zero]
  have hs:∀d∈wT l,d<2^n:=fun d hd=>h d (by rw[← h1];exact qT _ hd);rw[hv];rcases h2 with e | ⟨r,a,e,ha⟩
  · rw[e];dsimp only[gG];simp[jT,xL];exact(nor hn)
  · rw[e] at hs ⊢;have hlt:=XS n _ hs;have hge:2^(n*r.length)≤gG n (r++[a]):=by
      simp only[mH];have:gG n [a]=a:=by exact rfl
      simp only[this];have:2^(n*r.length)*1≤2^(n*r.length)*a:=wI _ (by exact(zT [_] [] (.t (.n 0) (.v 0)) [1] (.l (.n 1) (.v 0)) 1 rfl (wP ha)));exact(zM (J2 this))
    generalize gG n (r++[a])=x at *;have hx0:x≠0:=by have:=uM (n*r.length);exact(xE (qK this hge))
    have b1:xL x≤n*(r.length+1):=by
      have:=jF (a:=(x:Int)) (m:=n*(r.length+1)) (by simp only[Int.natAbs_natCast];simpa using hlt);simp only[jA] at this;exact this
    have b2:n*r.length<xL x:=by
      have:=mJ x;exact(Nat.pow_lt_pow_iff_right (by exact qA rfl:1<2)).mp (qV hge this)
    unfold jT;simp only[List.length_append];show(xL x+n-1)/n=r.length+1;apply HC
    · simp only[Nat.mul_comm];exact(bW [n*(r.length+1),xL x+n-1,n*r.length,xL x,n] [] (.t (.v 2) (.v 3)) (.e (.v 0) (.p (.v 2) (.v 4))) (.l (.p (.v 3) (.v 4)) (.p (.v 1) (.n 1))) [1,1,1] (.l (.v 0) (.v 1)) 1 rfl b2 (Nat.mul_succ _ _:n*(r.length+1)=n*r.length+n) (jR _ _))
    · rw[Nat.mul_comm,Nat.mul_succ];exact(kN [xL x+n-1,n*(r.length+1),n,xL x] [] (.l (.v 3) (.v 1)) (.e (.p (.v 0) (.n 1)) (.p (.v 3) (.v 2))) [1,1] (.t (.v 0) (.p (.v 1) (.v 2))) 1 rfl b1 (qQ (zT [xL x,n] [] (.t (.n 0) (.v 1)) [1] (.l (.n 1) (.p (.v 0) (.v 1))) 1 rfl hn)))
theorem ZI (T:uX W){cs hs:List Int}{rs:List Nat}{wd M:Nat}{one two:Int}(h1:bC one)(h2:bC two)(hw0:0<wd)(hw:wd≤60)(hM:M≤100)(hc:cs.length≤14)(hh:hs.length≤14)(hr:rs.length≤14)(hcb:∀d∈cs,d.natAbs<2^M)(hhb:∀d∈hs,d.natAbs<2^M)
    (hrb:∀d∈rs,d<2^wd)(heq:dv wd cs-dv wd hs=BB wd*(gG wd rs:Int))(hd:jT (xL (2^wd+1)) (dv wd cs-dv wd hs).natAbs≤14)(hd2:(dv wd cs-dv wd hs).natAbs<2^1000) :
    jM w W (k+22) 35 [.dat (.list (cs.map Dat.int)),.dat (.list (hs.map Dat.int)),.dat (.list (rs.map fun n:Nat=>Dat.int (n:Int))),.dat (.int (wd:Int)),.dat (.int one),.dat (.int two)] (.dat (.bool true)):=by
  have hz2:sizeLine=16777216:=rfl;have hB:=h9 wd;have c1:=nC (w:=w) (W:=W) (k:=k) T h1 h2 hw hM hc hh hcb hhb hd hd2;have hx2:gG wd rs<2^1000:=qK (XS wd rs hrb:gG wd rs<2^(wd*rs.length)) (xZ (by exact qA rfl) (qB (gJ hw hr) (by exact qA rfl)));have hfst:Z3 (dv wd cs) (dv wd hs) wd one two=(gG wd rs:Int):=by
    unfold Z3;rw[heq];have e:one*(BB wd*(gG wd rs:Int))=(two*BB wd)*(one*two*(gG wd rs:Int)):=by
      calc one*(BB wd*(gG wd rs:Int))=(two*two)*(one*(BB wd*(gG wd rs:Int))):=by rw[(by rcases h2 with rfl | rfl<;>rfl:two*two=1),Int.one_mul]
        _=_:=by ac_rfl
    rw[e,Int.mul_fdiv_cancel_left _ (by rcases h2 with rfl | rfl<;>(first | exact(Int.ne_of_gt (zT [] [BB wd] (.T (.n 0) (.z 0)) [1] (.T (.n 0) (.m 1 (.z 0))) 1 rfl hB)) | exact(Int.ne_of_lt (zT [] [BB wd] (.T (.n 0) (.z 0)) [1] (.T (.m (-1) (.z 0)) (.n 0)) 1 rfl hB))))];rcases h1 with rfl | rfl<;>rcases h2 with rfl | rfl<;>simp
  rw[hfst,(by rw[heq,Int.mul_fmod_right]:(dv wd cs-dv wd hs).fmod (BB wd)=0)] at c1;have hnd:=J3 hw0 hrb;obtain⟨s1,s2,s3⟩:=fM rs.length rs rfl;have hv:gG wd rs=gG wd (wT rs):=by
    conv=>lhs;rw[← s1,mH,oN,Nat.mul_zero,Nat.add_zero]
  have hdg:dg wd (jT wd (gG wd rs)) (gG wd rs)=wT rs:=by
    rw[hnd,hv];exact VH wd (wT rs) fun d hd=>hrb d (by rw[← s1];exact qT _ hd)
  have c3:=b7 (w:=w) (W:=W) (k:=k+5) (M:=1000) T hw0 (by exact(qB hw (by exact qA rfl))) (by exact qA rfl) hx2 (by rw[hnd];exact(qB s3 hr));simp only[lN,hdg] at c3;have c2:=y7 (w:=w) (W:=W) (k:=k+5) T (ds:=rs.map fun n:Nat=>(n:Int)) (n:=wd) (M:=wd) (by exact(zT [_] [] (.l (.v 0) (.n 60)) [1] (.l (.v 0) (.n 64)) 1 rfl hw)) (by exact(qB hw (by exact qA rfl))) (by rw[List.length_map];exact hr) (fun d hd=>by
    obtain⟨d',hd',rfl⟩:=qS hd;simp only[Int.natAbs_natCast];exact hrb d' hd')
  rw[a7,List.map_map] at c2;generalize gG wd rs=x at *;refine kX ["counts","holes","ranks","width","one","two"] (fun Z Z Z=>len6 fun Z Z Z Z Z Z=>rfl) (by exact rfl) (by decide) rfl ?_;refine xU (xJ (zW T.ok c1 (qE (qD rfl) (qE (qD rfl) (qE (qD rfl) (qE (qD rfl) (qE (qD rfl) qN)))))) (.inl rfl)) ?_;refine xU (kY (b:=false) (o:=.next _) (zR (qD rfl) (yR (ds:=[.int (x:Int),.int 0]) (qE (zW T.ok c2 (qE (qD rfl) (qE (qD rfl) qN))) (qE qX qN))) (a8 (c:=true) ⟨fun Z=>rfl,fun Z=>rfl⟩ ?_ ?_) x8) (fun h=>nomatch h) (fun Z=>wX)) ?_
  · intro d hd;rcases qG hd with rfl | hd
    · rfl
    · cases qF hd;rfl
  · intro d hd;rcases qG hd with rfl | hd
    · rfl
    · cases qF hd;rfl
  refine xU (xJ (zW T.ok c3 (qE (jG (qD rfl) qX (lC (by decide) (by decide) rfl)) (qE (qD rfl) qN))) (.inl rfl)) ?_;refine xR (xN (XN (x:=.dat (.bool true)) (c:=true) ?_ x8 (fun Z=>?_) (fun h=>nomatch h)))
  · have hlast:(wT rs).drop ((wT rs).length-1)≠[0]:=by
      rcases s2 with e | ⟨r,a,e,ha⟩
      · rw[e];decide
      · rw[e];simp[ha]
    have hmap:((wT rs).drop ((wT rs).length-1)).map (fun n:Nat=>Dat.int (n:Int))≠[Dat.int 0]:=by
      intro h;apply hlast;rcases s2 with e | ⟨r,a,e,ha⟩
      · rw[e] at h;simp at h
      · rw[e] at h;simp at h;exact absurd h ha
    have:=vF (prog:=pw) (w:=w) (W:=W) (k:=k+21) (ds:=((wT rs).drop ((wT rs).length-1)).map (fun n:Nat=>Dat.int (n:Int))) (es:=[Dat.int 0]) (c:=false) ⟨fun h=>(nomatch h),fun h=>absurd h hmap⟩ (fun d hd=>by obtain⟨_,_,rfl⟩:=qS hd;rfl) (fun d hd=>by cases qF hd;rfl);refine fZ (x:=.dat (.list (((wT rs).drop ((wT rs).length-1)).map (fun n:Nat=>Dat.int (n:Int))))) ?_ (wS (ds:=[.int 0]) (qE qX qN)) this;have e:=WU (ds:=(wT rs).map (fun n:Nat=>Dat.int (n:Int))) (n:=1) (by exact qA rfl);rw[List.length_map,← List.map_drop] at e;simp only[← e];exact vA (qD rfl) (kH (fE qX fK)) gE (by simp only[List.length_map];exact(qB s3 (qB hr (by exact qA rfl))))
  · refine fZ (x:=.dat (.list (((wT rs).map (fun n:Nat=>Dat.int (n:Int)))++(List.replicate ((rs.length:Int)-((wT rs).length:Int)).toNat [Dat.int 0]).flatten)))
      (xF (qD rfl) (xF (wS (ds:=[.int 0]) (qE qX qN)) (y:=.dat (.int ((rs.length:Int)-((wT rs).length:Int)))) ?_ (uK ?_ ?_ ?_)) (zU ?_)) (qD rfl) (pF (c:=true) ?_ ?_ ?_)
    · refine xF (x:=.dat (.int ((rs.length:Nat):Int))) (y:=.dat (.int (((wT rs).length:Nat):Int))) ?_ ?_ j7
      · have lr:((rs.length:Nat):Int)=(((rs.map fun n:Nat=>Dat.int (n:Int)).length:Nat):Int):=by rw[List.length_map]
        simp only[lr];exact yI (zA T.ok (by exact .head _) rfl (by decide +kernel)) (qE (qD rfl) qN) (w7 (by simp only[List.length_map];exact(qB hr (by exact qA rfl))))
      · have lr:(((wT rs).length:Nat):Int)=((((wT rs).map fun n:Nat=>Dat.int (n:Int)).length:Nat):Int):=by rw[List.length_map]
        simp only[lr];exact yI (zA T.ok (by exact .head _) rfl (by decide +kernel)) (qE (qD rfl) qN) (w7 (by simp only[List.length_map];exact(qB s3 (qB hr (by exact qA rfl)))))
    · exact(zT [_,_] [] (.l (.v 1) (.v 0)) [1] (.L (.n 0) (.s (.c (.v 0)) (.c (.v 1)))) 1 rfl s3)
    · simp only[List.length_singleton,Nat.one_mul];lia
    · exact(zT [_,_] [] (.l (.v 0) (.n 14)) [1] (.T (.s (.c (.v 0)) (.c (.v 1))) (.n 4611686018427387904)) 1 rfl hr)
    · simp only[List.length_map,List.length_flatten,List.map_replicate,List.sum_replicate_nat,List.length_singleton];exact(kN [_,_,_] [] (.l (.v 2) (.n 14)) (.E (.c (.v 1)) (.s (.c (.v 2)) (.c (.v 0)))) [1,1] (.l (.p (.v 0) (.w (.v 1) 1)) (.n 16777216)) 1 rfl hr (zO (zT [_,_] [] (.l (.v 1) (.v 0)) [1] (.L (.n 0) (.s (.c (.v 0)) (.c (.v 1)))) 1 rfl s3)))
    · refine⟨fun Z=>?_,fun Z=>rfl⟩;have e2:(List.replicate (rs.length-(wT rs).length) [Dat.int 0]).flatten=(List.replicate (rs.length-(wT rs).length) 0).map (fun n:Nat=>Dat.int (n:Int)):=by
        simp only[List.map_replicate,List.flatten_replicate_singleton];rfl
      rw[(by exact(ZO [_,_,_,_] [] (.L (.s (.c (.v 2)) (.c (.v 3))) (.c (.v 0))) (.E (.c (.v 0)) (.s (.c (.v 2)) (.c (.v 3)))) (.l (.v 2) (.p (.v 1) (.v 3))) (.e (.p (.v 1) (.v 3)) (.v 2)) [0,1,1,0] [1,0,0,1] (.e (.v 0) (.v 1)) 1 1 rfl (Int.self_le_toNat _) (Int.toNat_of_nonneg (zT [_,_] [] (.l (.v 1) (.v 0)) [1] (.L (.n 0) (.s (.c (.v 0)) (.c (.v 1)))) 1 rfl s3)) (jR _ _) (Nat.sub_add_cancel s3)):((rs.length:Int)-((wT rs).length:Int)).toNat=rs.length-(wT rs).length),e2,← List.map_append,s1]
    · intro d hd;rcases qP hd with hd | hd
      · obtain⟨_,_,rfl⟩:=qS hd;rfl
      · rw[List.flatten_replicate_singleton] at hd;rw[(List.mem_replicate.mp hd).2];rfl
    · intro d hd;obtain⟨_,_,rfl⟩:=qS hd;rfl
end Mine
namespace Mine
noncomputable def g9:List String:=["bytearray.__contains__","bytearray.__mod__","bytearray.__rmod__","_struct.pack_into.held","bytearray.find.held"]++Builtin.Bytes.decodersThatHold
noncomputable def Z4:Code→Bool
  | .builtin id _=>g9.contains id
  | _=>false
noncomputable def eI (l:List (Code×Pos)):Prop:=∀q∈l,Z4 q.1=false
noncomputable def o9 (Γ:Ctx):Prop:=Z4 Γ.code=false∧eI Γ.below
noncomputable def j3 {α:Type}(M:Model)(A:Around)(t:Sem α)(Q:α→Shared→Prop)(E:Value→Shared→Prop)(s:Shared):Prop :=
  ∀Γ p,Γ.In A→o9 Γ→Sem.wp M Γ t (fun a Z s'=>Q a s') (fun e Z s'=>E e s') p s
noncomputable def fG (M:Model)(A:Around)(c:Code)(R:Result→Shared→Prop)(s:Shared):Prop :=
  ∀Γ p,Γ.code=c→Γ.Below A→eI Γ.below→wpCode M Γ R p s
section
variable {α β:Type}{M:Model}{A:Around}{E:Value→Shared→Prop}{s:Shared}
theorem jU {t:Sem α}{Q:α→Shared→Prop}(h:wpAny M A t Q E s):j3 M A t Q E s:=fun Γ p hΓ Z=>h Γ p hΓ
theorem pP {a:α}{Q:α→Shared→Prop}(h:Q a s):j3 M A (pure a) Q E s:=fun Z Z Z Z=>h
theorem jI {t:Sem α}{Q Q':α→Shared→Prop}{E':Value→Shared→Prop}(h:j3 M A t Q E s)
    (hQ:∀a s,Q a s→Q' a s)(hE:∀e s,E e s→E' e s):j3 M A t Q' E' s :=
  fun Γ p hΓ hc=>vO M Γ t (fun a Z s=>hQ a s) (fun e Z s=>hE e s) p s (h Γ p hΓ hc)
theorem kM {m:Sem α}{f:α→Sem β}{Q:β→Shared→Prop}(h:j3 M A m (fun a s'=>j3 M A (f a) Q E s') E s) :
    j3 M A (m >>= f) Q E s:=fun Γ p hΓ hc=>by
  simp only[Sem.wp_bind'];exact vO M Γ m (fun a p' s' h'=>h' Γ p' hΓ hc) (fun Z Z Z h'=>h') p s (h Γ p hΓ hc)
theorem wG {m:Sem α}{f:α→Sem β}{Q:β→Shared→Prop}(h:wpAny M A m (fun a s'=>j3 M A (f a) Q E s') E s) :
    j3 M A (m >>= f) Q E s:=kM (jU h)
theorem eR {m:Sem α}{k:Value→Sem Unit}{Q:α→Shared→Prop}
    (h:j3 M A m Q (fun e s'=>j3 M A (k e) (fun Z s''=>E e s'') E s') s):j3 M A (m.onRaise k) Q E s:=fun Γ p hΓ hc=>by
  simp only[Sem.wp_onRaise];exact vO M Γ m (fun Z Z Z h'=>h') (fun e p' s' h'=>h' Γ p' hΓ hc) p s (h Γ p hΓ hc)
theorem vB {vs:List Value}{m:Sem α}{Q:α→Shared→Prop}(h:j3 M A m Q E s):j3 M A (holding vs m) Q E s :=
  fun Γ p hΓ hc=>by simp only[Sem.wp_holding];exact h Γ p hΓ hc
theorem o9.enter {Γ:Ctx}(h:o9 Γ)(p:Pos):eI ((Γ.code,p)::Γ.below):=fun q hq=>by
  rcases qG hq with rfl | hq
  · exact h.1
  · exact h.2 q hq
theorem lZ {c:Code}{Q:Value→Shared→Prop}
    (hc:fG M A c (fun r s'=>match r with | .ok (.ret v)=>Q v s' | .ok _=>False | .error e=>E e s') s) :
    j3 M A (runValue c) Q E s:=fun Γ p hΓ hcl=>by simp only[Sem.wp_runValue];exact hc _ p rfl (hΓ.enter c none p (by intro x;cases x)) (hcl.enter p)
theorem dD {f:Value}{pos:List Value}{kw:List (Str×Value)}{Q:Value→Shared→Prop}
    (hc:fG M A (.call f ⟨pos,kw⟩) (fun r s'=>match r with | .ok (.ret v)=>Q v s' | .ok _=>False | .error e=>E e s') s) :
    j3 M A (call f pos kw) Q E s:=lZ hc
theorem yF {c:Code}{R:Result→Shared→Prop}(hd:Z4 c=false)
    (h:j3 M (A.under c) (M.den c) (fun fin s'=>match fin with | .done f=>R (.ok f) s' | .again c'=>c'.quiet=true∧fG M A c' R s')
      (fun e s'=>R (.error e) s') s):fG M A c R s:=fun Γ p hc hΓ hb=>by
  rw[wpCode_iff_wp,hc];refine vO M Γ _ (fun fin p' s' h'=>?_) (fun Z Z Z h'=>h') p s (h Γ p (hc▸hΓ.in) ⟨by rw[hc];exact hd,hb⟩);cases fin with
  | done f=>exact h'
  | again c'=>exact⟨h'.1,h'.2 (Γ.goto c') p' rfl (hΓ.goto c') hb⟩
end
section
variable {prog:Program}{w:World}{A:Around}{R:Result→Shared→Prop}{E:Value→Shared→Prop}{s:Shared}{env:Env}
theorem fF {id:String}{args:Args}{b:Builtin}(hd:g9.contains id=false)(hb:entryFor table id=some b)
    (h:j3 (model prog w) (A.under (.builtin id args)) (b args)
      (fun fin s'=>match fin with | .done f=>R (.ok f) s' | .again c'=>c'.quiet=true∧fG (model prog w) A c' R s') (fun e s'=>R (.error e) s') s) :
    fG (model prog w) A (.builtin id args) R s:=by
  refine yF hd ?_;show j3 _ _ (match entryFor table id with | some b=>b args | none=>unsupported ((withoutEnding? id "#data").getD id)) _ _ s;rw[hb];exact h
theorem vN {a:Addr}{args:Args}{o:Obj}{fd:FuncData}{body:List Stmt}(hroom:A.depth<recursionLimit)
    (ho:s.heap.get? a=some o)
    (hd':o.data=.func fd)(hco:fd.scope.isCoroutine=false)(hgen:fd.scope.isGenerator=false)(hbody:fd.body=.stmts body)(hcd:s.heap.CodeRec fd.code fd.qualname)
    (h:wpAny (model prog w) A.in1 (bindArgs fd args) (fun binds s₁=>
      wpAny (model prog w) A.in1 (newFunctionEnv fd.scope fd.globals fd.closure binds (fd.qualname ++ ".<locals>.") (some a) fd.code none fd.builtins)
        (fun env s₂=>s₂.heap.NoLimit∧fG (model prog w) A (.func body env) R s₂) (fun e s'=>R (.error e) s') s₁) (fun e s'=>R (.error e) s') s) :
    fG (model prog w) A (.call (.ref a) args) R s:=by
  refine yF rfl ?_;show j3 _ A.in1 (callAny (.ref a) args) _ _ s;refine jU ?_;refine qC (m:=load a) (pI ho ?_);rw[hd'];refine zS fun nG=>?_;obtain⟨c,oc,vs,tq,hc,hoc,hdc,hq⟩:=hcd;refine nG ?_;show wpAny _ _ (callFunction a fd args) _ _ _;unfold callFunction;rw[hco,hgen,hbody,hc];rw[hc] at h;refine qC (m:=field (.ref c) 1) (zC hoc hdc hq (qC (qI ?_)))
  exact qC (xT h (fun binds s₁ h₁=>qC (xT h₁ (fun env s₂ h₂=>qC (wpAny_enterFrame h₂.1 hroom
    (qI (And.intro rfl h₂.2)))) fun Z Z h'=>h')) fun Z Z h'=>h')
theorem sF {body:List Stmt}
    (h:j3 (model prog w) (A.deeper env) (execs body env) (fun f s'=>R (.ok (.ret (match f with | .ret v=>v | _=>.none))) s')
      (fun e s'=>j3 (model prog w) (A.deeper env) (leaving env e) (fun Z s''=>R (.error e) s'') (fun e' s''=>R (.error e') s'') s') s) :
    fG (model prog w) A (.func body env) R s:=by
  refine yF rfl ?_;show j3 _ (A.deeper env) (do point;match←(execs body env).onRaise (leaving env) with | .ret v=>ret v | _=>ret .none) _ _ s;refine wG (wpAny_point (kM (eR (jI h (fun f s' h'=>?_) fun Z Z h'=>h'))));cases f<;>exact pP h'
end
section
variable {M:Model}{A:Around}{E:Value→Shared→Prop}{s:Shared}{env:Env}
theorem vX {st:Stmt}{rest:List Stmt}{Q:Flow→Shared→Prop}
    (h:j3 M A (exec st env) (fun f s'=>match f with | .next=>j3 M A (execs rest env) Q E s' | f=>Q f s') E s) :
    j3 M A (execs (st::rest) env) Q E s:=fun Γ p hΓ hc=>by
  simp only[execs_cons,Sem.wp_bind'];refine vO M Γ _ (fun f p' s' h'=>?_) (fun Z Z Z h'=>h') _ _ (h Γ p hΓ hc);cases f<;>first | exact h' Γ p' hΓ hc | exact h'
theorem uP {x:Str}{pos':Pos}{value:Expr}{pos:Pos}{Q:Flow→Shared→Prop}
    (h:j3 M A (eval value env) (fun v s₁=>j3 M A (storeName env x v) (fun Z=>Q .next) E s₁) E s)
    (hs:autoParam (swapsWith value (some (.Name x pos')) pos.line env=pure false) au4) :
    j3 M A (exec (.Assign [.Name x pos'] value pos) env) Q E s:=fun Γ p hΓ hc=>by
  simp only[exec_Assign_Name env x pos' value pos hs,Sem.wp_bind',Sem.wp_cmd_standAt,Sem.wp_bindName,Sem.wp_pure'];exact vO M Γ _ (fun v Z s₁ h₁=>h₁ Γ _ hΓ hc) (fun Z Z Z h'=>h') _ _ (h Γ _ hΓ hc)
theorem hJ {pos:Pos}{a:Addr}{o:Obj}{fd:FuncData}{first:List Value}{args:List (Bool×Sem Value)}{Q:Value→Shared→Prop}(hplain:args.any (·.1)=false)
    (h:j3 M A (evalArgs (.ref a) true args []) (fun x s₁=>(s₁.heap.get? a=some o∧o.data=.func fd)∧j3 M A (call (.ref a) (first++x.pos) x.kw) Q E s₁) E s) :
    j3 M A (callWith pos (.ref a) first args []) Q E s:=by
  unfold callWith;refine kM (vB (jI h (fun x s₁ h₁=>wG (wA ?_)) fun Z Z x=>x));rw[show(args.any (·.1)||([]:List (Option Str×Sem Value)).any (·.1.isNone))=false by rw[hplain];rfl];refine wG (m:=keeperOf (.ref a)) ?_;unfold keeperOf;refine qC (pI h₁.1.1 ?_);rw[h₁.1.2];refine qI ?_
  have tail:∀{t:Sem Value},j3 M A t Q E s₁→j3 M A (t >>= fun r=>holding [r] point >>= fun Z=>pure r) Q E s₁ :=
    fun ht=>kM (jI ht (fun r s₂ hr=>jU (qC (xS (wpAny_point (qI hr))))) fun Z Z x=>x)
  dsimp only;split
  · exact tail h₁.2
  · exact tail (by unfold callMarked;exact fun Γ p hΓ hc=>by simp only[Sem.wp_keep];exact h₁.2 Γ p hΓ hc)
theorem bA {pos:Pos}{T:String}{first:List Value}{args:List (Bool×Sem Value)}{Q:Value→Shared→Prop}(hplain:args.any (·.1)=false)
    (h:j3 M A (evalArgs (.type T) true args []) (fun a s₁=>j3 M A (call (.type T) (first++a.pos) a.kw) Q E s₁) E s) :
    j3 M A (callWith pos (.type T) first args []) Q E s:=by
  unfold callWith;refine kM (vB (jI h (fun a s₁ h₁=>wG (wA ?_)) fun Z Z x=>x));rw[show(args.any (·.1)||([]:List (Option Str×Sem Value)).any (·.1.isNone))=false by rw[hplain];rfl];refine wG (qI ?_);exact kM (jI h₁ (fun r s₂ hr=>jU (qC (xS (wpAny_point (qI hr))))) fun Z Z x=>x)
end
end Mine
namespace Mine
section
variable (prog:Program)(w:World)(W:Wd)
noncomputable def V5 (k:Nat)(t:Sem Value)(s:Shared)(F:Fz)(P:Fz→Value→Prop):Prop :=
  ∀(A:Around) (Q:Value→Shared→Prop) (E:Value→Shared→Prop),zZ k A→(∀v s' F',q0 W s s' F F'→P F' v→Q v s')→j3 (model prog w) A t Q E s
noncomputable def F8 (k:Nat)(sc:Scope)(fn:Bool)(Γ:xK)(e:Expr)(x:V):Prop :=
  ∀fr P s F,fr.env.scope=sc→St prog w W fr fn Γ P s F→V5 prog w W k (eval e fr.env) s F (Is prog w x)
noncomputable def X9 (k:Nat)(f:Value)(xs:List V)(r:V):Prop :=
  ∀s F vs,wC W s F→w8 prog w F vs xs→V5 prog w W k (call f vs) s F (Is prog w r)
noncomputable def F7 (k:Nat)(sc:Scope)(fn:Bool)(Γ:xK)(ss:List Stmt)(o:dA):Prop :=
  ∀fr P s F,fr.env.scope=sc→St prog w W fr fn Γ P s F→∀(A:Around) (Q:Flow→Shared→Prop) (E:Value→Shared→Prop),zZ k A →
    (∀fl s' F',o.ok prog w W fr fn P fl s' F'→F.le F'→Q fl s')→j3 (model prog w) A (execs ss fr.env) Q E s
noncomputable def PZ (k:Nat)(sc:Scope)(fn:Bool)(Γ:xK)(st:Stmt)(o:dA):Prop :=
  ∀fr P s F,fr.env.scope=sc→St prog w W fr fn Γ P s F→∀(A:Around) (Q:Flow→Shared→Prop) (E:Value→Shared→Prop),zZ k A →
    (∀fl s' F',o.ok prog w W fr fn P fl s' F'→F.le F'→Q fl s')→j3 (model prog w) A (exec st fr.env) Q E s
end
section
variable {prog:Program}{w:World}{W:Wd}{k:Nat}{sc:Scope}{fn:Bool}{Γ Γ':xK}
theorem BM {ss:List Stmt}{o:dA}(h:Ex prog w W k sc fn Γ ss o):F7 prog w W k sc fn Γ ss o:=fun fr P s F hsc st A Q E rm q=>jU (h fr P s F hsc st A Q E rm q)
theorem YU {st:Stmt}{rest:List Stmt}{o:dA}(h:PZ prog w W k sc fn Γ st (.next Γ'))(hr:F7 prog w W k sc fn Γ' rest o):F7 prog w W k sc fn Γ (st::rest) o :=
  fun fr P s F hsc x A Q E rm q=>vX (h fr P s F hsc x A _ E rm fun fl s' F' ho hF=>by
    obtain⟨rfl,x'⟩:=ho;exact hr fr P s' F' hsc x' A Q E rm fun fl s'' F'' ho' hF'=>q fl s'' F'' ho' (hF.trans hF'))
theorem nL {y:Str}{pos pos':Pos}{e:Expr}{x:V}(he:F8 prog w W k sc fn Γ e x)(hk:sc.names.lookup y=some .local ∨ (sc.names.lookup y=some .cell∧fn=true))
    (hs:autoParam (∀env,env.scope=sc→swapsWith e (some (.Name y pos')) pos.line env=pure false) au5):PZ prog w W k sc fn Γ (.Assign [.Name y pos'] e pos) (.next ((y,.val x)::Γ)) :=
  fun fr P s F hsc st A Q E rm q=>uP (he fr P s F hsc st A _ E rm fun v s₁ F₁ g₁ hv=>
    jU ((st.step g₁).storeV hv (by rw[← hsc] at hk;exact hk) fun s' st'=>q _ s' F₁ ⟨rfl,st'⟩ g₁.sub)) (hs _ hsc)
theorem X0 {d:DefRec}{k:Nat}{a:Nat}{xs:List V}{r:V}(fn:mA W d a)(names:List Str)
    (hb:∀pm code doc (vs:List Value),vs.length=xs.length→bindArgs (docDef d.name d.params d.body d.scope pm code doc) ⟨vs,[]⟩=pure (names.zip vs))
    (hp:uR d.scope names=true)(hn:names.Nodup)(hl:names.length=xs.length)(hex:F7 prog w W k d.scope true (names.zip (xs.map Bd.val)) d.body (.ret r)):X9 prog w W (k+1) (.ref a) xs r:=by
  intro s F vs b hv A Q E rm q;refine zS fun nG=>?_;obtain⟨o,pm,code,doc,ho,hd,hc⟩:=fn.obj;refine nG ?_;unfold uR at hp;simp only[Bool.and_eq_true,beq_iff_eq,Bool.not_eq_true',List.all_eq_true,Bool.or_eq_true] at hp;refine zS fun nG=>?_;obtain⟨⟨⟨hk,hco⟩,hgen⟩,hkinds⟩:=hp;have vl:=hv.length;refine nG ?_;refine dD ?_;refine vN (fd:=docDef d.name d.params d.body d.scope pm code doc) rm.depth (b.base _ _ ho) hd hco hgen rfl (hc.keeps b.base) ?_;rw[hb _ _ _ _ vl];have hbm:(names.zip vs).map (·.1)=names:=by
    rw[List.map_fst_zip];exact(qL (jN hl vl.symm))
  have key:∀x∈names.zip vs,d.scope.names.lookup x.1=some .local ∨ d.scope.names.lookup x.1=some .cell:=fun x hx=>hkinds x.1 (z0 hx).1;refine qI (wD (z9 hk (fun x hx=>?_) fun env he s₁ X hz1 ht1=>?_))
  · rcases key x hx with h | h
    · exact .inl h
    · obtain⟨c,hc⟩:=wO (n:=s.heap.objs.size+1) (acc:=[]) (.inl (mem_of_lookup h));exact .inr ⟨h,by show((cellsFrom (s.heap.objs.size+1) d.scope.names []).lookup x.1).isSome=true;rw[hc];rfl⟩
  · have es:env.scope=d.scope:=by rw[he];rfl
    have st:St prog w W ⟨s,F,env⟩ true (names.zip (xs.map Bd.val)) [] s₁ F:=y5 (sc:=d.scope) (binds:=names.zip vs) b hz1 ht1 (by rw[he];rfl) (by rw[he];rfl) es hk ⟨s.heap.objs.size+1,by simp only[he];rfl⟩ X (by simp only[hbm];exact hn) fun y bd hy=>by
      refine zS fun nG=>?_;obtain⟨h1,x,v,e1,e2,e3⟩:=wW hv hy;refine nG ?_;exact⟨hkinds y h1,x,v,e1,e2,e3⟩
    refine⟨W.nolimit.keeps (fun a o e=>X.toInCall.keep a o (b.base a o e)),sF ?_⟩;refine hex ⟨s,F,env⟩ [] s₁ F es st _ _ _ (rm.deeper env) fun fl s' F' ho' hF'=>?_;obtain⟨v,rfl,hv',st'⟩:=ho';exact q v s' F' st'.grow hv'
theorem v6 {es:List Expr}{env:Env}{pos:Pos}(h:(starEach es env).any (·.1)=false):(backTo pos (starEach es env)).any (·.1)=false:=by
  unfold backTo;rw[List.any_map];exact h
theorem Y9 {y:Str}{es:List Expr}{xs:List V}{p pos:Pos}{a:Nat}{o:Obj}{fd:FuncData}{r:V}(hf:Ev prog w W k sc fn Γ (.Name y p) (.ref a))
    (ho:W.base.get? a=some o)(hd:o.data=.func fd)(ha:sY prog w W k sc fn Γ es xs)(hc:X9 prog w W k (.ref a) xs r)
    (hs:autoParam (∀env,(starEach es env).any (·.1)=false) au1):F8 prog w W k sc fn Γ (.Call (.Name y p) es [] pos) r:=fun fr P s F hsc st A Q E rm q=>by
  rw[(rfl:eval (.Call (.Name y p) es [] pos) fr.env=(do callWith pos (← eval (.Name y p) fr.env) [] (backTo pos (starEach es fr.env)) []))];refine wG (hf fr P s F hsc st A _ E rm fun v s₁ F₁ g₁ hv=>?_);cases hv;refine hJ (o:=o) (fd:=fd) (v6 (hs _)) (jU ?_);refine kC ha hsc (st.step g₁) rm hs fun vs s₂ F₂ g₂ hv=>?_;refine⟨⟨((st.step g₁).step g₂).base.base _ _ ho,hd⟩,?_⟩;exact hc s₂ F₂ vs ((st.step g₁).step g₂).base hv A Q E rm fun z s₃ F₃ g₃ hz=>q z s₃ F₃ ((g₁.trans g₂).trans g₃) hz
end
noncomputable def V1 (w:World)(W:Wd)(k:Nat)(i:Nat)(xs:List V)(r:V):Prop:=∀a,mA W (xC i) a→X9 pw w W k (.ref a) xs r
section
variable {w:World}{W:Wd}{k:Nat}
theorem UY {i:Nat}{xs:List V}{r:V}(names:List Str)
    (hb:∀pm code doc (vs:List Value),vs.length=xs.length→bindArgs (docDef (xC i).name (xC i).params (xC i).body (xC i).scope pm code doc) ⟨vs,[]⟩=pure (names.zip vs))
    (hp:uR (xC i).scope names=true)(hn:names.Nodup)(hl:names.length=xs.length)(hex:F7 pw w W k (xC i).scope true (names.zip (xs.map Bd.val)) (xC i).body (.ret r)):V1 w W (k+1) i xs r :=
  fun a fn=>X0 fn names hb hp hn hl hex
theorem Y8 {sc:Scope}{fn:Bool}{Γ:xK}(ok:bX W){i:Nat}{y:Str}{es:List Expr}{xs:List V}{p pos:Pos}{r:V}(hc:V1 w W k i xs r)(ha:sY pw w W k sc fn Γ es xs)
    (hk:autoParam (sc.names.lookup y=some .globalImplicit) au4)(hm:autoParam (i∈nI) au2)(hn:autoParam ((xC i).name=y) au4)
    (hs:autoParam (∀env,(starEach es env).any (·.1)=false) au1)(hd:autoParam ((y==("__debug__":Str))=false) au2):F8 pw w W k sc fn Γ (.Call (.Name y p) es [] pos) r:=by
  refine zS fun nG=>?_;obtain⟨a,f⟩:=ok.fns i hm;obtain⟨o,pm,code,doc,h1,h2,_⟩:=f.obj;refine nG ?_;exact Y9 (vU hk (by rw[← hn];exact f.glob) hd) h1 h2 ha (hc a f) hs
end
end Mine
namespace Mine
theorem bN {α:Type}{M:Model}{A:Around}{E:Value→Shared→Prop}{s:Shared}{c:Bool}{a b:Sem α}{Q:α→Shared→Prop}(hc:c=false)(h:j3 M A b Q E s):j3 M A (if c=true then a else b) Q E s:=by
  subst hc;exact h
section
variable {prog:Program}{w:World}{A:Around}{E:Value→Shared→Prop}{s:Shared}
theorem KU {T newId initId:String}{Bi:Builtin}{args:List Value}{Q Q₁:Value→Shared→Prop}(ft:TypeCalled T newId initId)
    (hct:checkTypeCall T ⟨args,[]⟩=pure ())(entryI:entryFor table initId=some Bi)(hdi:g9.contains initId=false)
    (hnew:wpAny (model prog w) A.in1 (call (.builtin newId) (.type T::args)) Q₁ E s)
    (hnext:∀obj s₁,Q₁ obj s₁→s₁.TypeIs obj T∧argsOk initId ⟨obj::args,[]⟩ ∧
      j3 (model prog w) A.in1.in1 (Bi ⟨obj::args,[]⟩) (fun fin s'=>fin=.done (.ret .none)∧Q obj s') E s₁) :
    j3 (model prog w) A (call (.type T) args) Q E s:=by
  obtain⟨c,tl,hmro⟩:=ft.mro;refine dD (yF rfl ?_);show j3 _ _ (callAny (.type T) _) _ _ _;refine pP ⟨Code.quiet_builtin _ (by decide +kernel),fF (by decide +kernel) F.entry_type_call ?_⟩;rw[Around.under_plain (weight_type_call_type T args []) rfl];unfold Builtin.«type.__call__»;dsimp only;refine bN ft.notType ?_;simp only[ft.canCreate,hct,hmro,ft.made,pure_bind,Bool.false_eq_true,if_false,List.isEmpty_cons];refine kM (vB (jU (xT hnew (fun obj s₁ hq=>?_) fun Z Z x=>x)));obtain⟨hT,hok,hi⟩:=hnext obj s₁ hq;refine wG (z2 (b:=true) hT ft.sub ?_);refine bN rfl ?_;refine kM (vB ?_);unfold callSpecial?;refine wG (w4 hT ft.init.lookup ?_);dsimp only;simp only[ft.init.bind];refine vB (wG (qI (kM ?_)));refine dD ?_;show fG (model prog w) A.in1 (.call (.builtin initId) ⟨obj::args,[]⟩) _ s₁;refine yF rfl ?_;show j3 _ A.in1.in1 (do checkBuiltinCall initId ⟨obj::args,[]⟩;again (.builtin initId ⟨obj::args,[]⟩)) _ _ s₁;refine wG (ft.init.check _ _ _ _ _ _ _ _ hT hok (pP ⟨plainId_quiet ft.init.plain _,fF hdi entryI ?_⟩));rw[Around.under_plainId ft.init.plain];refine jI hi (fun fin s₂ hf=>?_) fun Z Z x=>x;obtain⟨rfl,hq⟩:=hf;exact pP (pP hq)
namespace BA
theorem mro:mroOf (.type "bytearray")=pure [.type "bytearray",.type "object"]:=by rw[mroOf_type];kernel_rfl
theorem Q6:typeLookup (.type "bytearray") "__new__"=pure (some (.builtin "bytearray.__new__")):=by rw[typeLookup_type,builtinLookup_eq_fast];kernel_rfl
theorem sub:isSubtype (.type "bytearray") (.type "bytearray")=pure true:=by rw[isSubtype_type];kernel_rfl
theorem WP:Slot "bytearray" "__init__" "bytearray.__init__" :=
  .of (owner:="bytearray") (n:="__init__") (by rw[typeLookup_type,builtinLookup_eq_fast];kernel_rfl) (by decide +kernel) (by decide +kernel) (by decide +kernel)
    (by first | exact .inl (by decide +kernel) | exact .inr (by decide +kernel)) sub
theorem called:TypeCalled "bytearray" "bytearray.__new__" "bytearray.__init__" :=
  ⟨by decide +kernel,by decide +kernel,⟨_,_,mro⟩,madeBy_type mro Q6 (by decide +kernel),by decide +kernel,sub,WP⟩
theorem typeCall (a:Value):checkTypeCall "bytearray" ⟨[a],[]⟩=pure ():=by kernel_rfl
theorem newCall (a:Value):checkBuiltinCall "bytearray.__new__" ⟨[.type "bytearray",a],[]⟩=pure ():=by kernel_rfl
theorem plain_new:plainId "bytearray.__new__"=true:=by decide +kernel
theorem entry_new:entryFor table "bytearray.__new__"=some Builtin.«list.__new__» :=
  entryFor_alias (id':="list.__new__") (by rw[fastTable_eq_tree];kernel_rfl) (by exact rfl) (by decide +kernel) (by rw[fastTable_eq_tree];kernel_rfl)
theorem entry_init:entryFor table "bytearray.__init__"=some Builtin.«bytearray.__init__»:=by first | exact entryFor_of_fast (by kernel_rfl) | exact entryFor_of_tree (by kernel_rfl)
theorem owner_new:("bytearray.__new__".splitOn ".__new__").headD ""="bytearray":=by simp +decide [String.splitOn,String.splitOnAux]
theorem no_release:typeLookup (.type "bytearray") "__release_buffer__"=pure (some (.builtin "bytearray.__release_buffer__")):=by rw[typeLookup_type,builtinLookup_eq_fast];kernel_rfl
theorem bind1 (v:Value):Builtin.Bytes.bindOptional "bytearray.__init__" "bytearray" ["source","encoding","errors"] [v] []=pure [some v,none,none]:=by kernel_rfl
theorem args_init (a b:Value):argsOk "bytearray.__init__" ⟨[a,b],[]⟩:=by unfold argsOk;kernel_rfl
theorem ndict:typeHasDict (.type "bytearray")=false:=by kernel_rfl
end BA
end
end Mine
namespace Mine
section
variable {prog:Program}{w:World}{A:Around}{E:Value→Shared→Prop}{s:Shared}
theorem B0 (a:Value){Q₁:Value→Shared→Prop}
    (h:Q₁ (.ref s.heap.objs.size) {s with heap:=s.heap.push (kW #[] 0)}) :
    wpAny (model prog w) A (call (.builtin "bytearray.__new__") [.type "bytearray",a]) Q₁ E s:=by
  refine vI (codeAny_of_tree ?_);show wpAny _ A.in1 (do checkBuiltinCall "bytearray.__new__" ⟨[.type "bytearray",a],[]⟩;again (.builtin "bytearray.__new__" ⟨[.type "bytearray",a],[]⟩)) _ _ s;refine qC (x7 (BA.newCall a) (qI ⟨plainId_quiet BA.plain_new _,codeAny_builtin_stack BA.entry_new rfl fun p st=>?_⟩));rw[Around.under_plainId BA.plain_new _];have hsub:=BA.sub;have hnd:=BA.ndict;obtain⟨hp,g,d,tk,os⟩:=s;simp only[BA.owner_new]
  wp_walk
  exact h
theorem e9 {β:Type}{M:Model}{n:Int}{t:Tok}{f:Option Value→Sem β}{Q:β→Shared→Prop}(h:wpAny M A (f (some (.builtin "int.__index__"))) Q E s) :
    wpAny M A (specialOf (.int n t) (Str.ofString "__index__") >>= f) Q E s:=qC (w4 (T:="int") (typeIs_int _ _ _) int_index h)
theorem QX {a:Addr}{h1 h2 h3:Heap}(x:Heap.SameBut a h1 h2)(y:Heap.SameBut a h2 h3):Heap.SameBut a h1 h3:=⟨y.1.trans x.1,fun b hb=>(y.2 b hb).trans (x.2 b hb)⟩
theorem sO {α:Type}{M:Model}{a:Addr}{b:Array UInt8}{n:Nat}{f:Array UInt8→Array UInt8}{k:Unit→Sem α}{Q:α→Shared→Prop}(ha:s.heap.get? a=some (kW b n))(hz:(f b).size≤sizeLine)
    (h:(s.heap.update a (Obj.mapBytearray f)).get? a=some (kW (f b) n)→wpAny M A (k ()) Q E {s with heap:=s.heap.update a (Obj.mapBytearray f)}):wpAny M A (Builtin.Bytes.write (.ref a) f >>= k) Q E s:=by
  refine qC ?_;show wpAny _ _ (updateBytearray a f) _ _ _;unfold updateBytearray;refine qC (pI ha ?_);show wpAny _ _ (update a (Obj.mapBytearray f) >>= fun Z=>lookBehind a) _ _ _;refine qC (wpAny_update ha ?_);have h2:(s.heap.update a (Obj.mapBytearray f)).get? a=some (kW (f b) n):=Heap.get?_update_self (Obj.mapBytearray f) ha rfl;refine wpAny_lookBehind h2 ?_ (h h2);show(if(f b).size>sizeLine then some "bytearray:memory" else none)=none;rw[if_neg (by exact(Nat.not_lt_of_le hz))]
theorem YM {id:String}(h:g9.contains id=false):Builtin.Bytes.decodersThatHold.contains id=false:=by
  unfold g9 at h;simp only[List.contains_eq_mem,List.mem_append,decide_eq_false_iff_not,not_or] at h ⊢;exact h.2
theorem nh {id lit:String}(hc:g9.contains id=false)(e:g9.contains lit=true):¬id=lit:=fun q=>by rw[q,e] at hc;cases hc
theorem iK {self:Value}{x:Code×Pos}(h:Z4 x.1=false):(match(generalizing:=false) x with
    | (.builtin "bytearray.__contains__" ⟨v::_,_⟩,_) | (.builtin "bytearray.__mod__" ⟨v::_,_⟩,_)
    | (.builtin "bytearray.__rmod__" ⟨_::v::_,_⟩,_) | (.builtin "_struct.pack_into.held" ⟨v::_,_⟩,_)=>Builtin.Bytes.sameRef v self
    | (.builtin "bytearray.find.held" ⟨_::_::held,_⟩,_)=>held.any (Builtin.Bytes.sameRef self)
    | (.builtin id ⟨v::_,_⟩,_)=>Builtin.Bytes.sameRef v self&&Builtin.Bytes.decodersThatHold.contains id
    | _=>false)=false:=by
  obtain⟨c,p⟩:=x;cases c with
  | builtin id args =>
    have hc:g9.contains id=false:=h;delta iK.match_1;refine(dif_neg (nh hc (lit:="bytearray.__contains__") (by decide +kernel))).trans ?_;refine(dif_neg (nh hc (lit:="bytearray.__mod__") (by decide +kernel))).trans ?_;refine(dif_neg (nh hc (lit:="bytearray.__rmod__") (by decide +kernel))).trans ?_;refine(dif_neg (nh hc (lit:="_struct.pack_into.held") (by decide +kernel))).trans ?_;refine(dif_neg (nh hc (lit:="bytearray.find.held") (by decide +kernel))).trans ?_;obtain⟨pos,kw⟩:=args;cases pos with
    | nil=>rfl
    | cons v t =>
      show(_&&_)=false;rw[YM hc,Bool.and_false]
  | _=>rfl
theorem l6 {self:Value}{Q:Bool→Shared→Prop}(h:Q false s):j3 (model prog w) A (Builtin.Bytes.exported self) Q E s:=fun Γ p hΓ hc=>by
  show Q (((Γ.code,p)::Γ.below).any _) s;have e:∀l:List (Code×Pos),eI l→l.any (fun x=>match x with
    | (.builtin "bytearray.__contains__" ⟨v::_,_⟩,_) | (.builtin "bytearray.__mod__" ⟨v::_,_⟩,_)
    | (.builtin "bytearray.__rmod__" ⟨_::v::_,_⟩,_) | (.builtin "_struct.pack_into.held" ⟨v::_,_⟩,_)=>Builtin.Bytes.sameRef v self
    | (.builtin "bytearray.find.held" ⟨_::_::held,_⟩,_)=>held.any (Builtin.Bytes.sameRef self)
    | (.builtin id ⟨v::_,_⟩,_)=>Builtin.Bytes.sameRef v self&&Builtin.Bytes.decodersThatHold.contains id
    | _=>false)=false:=fun l hl=>List.any_eq_false.mpr fun x hx e=>Bool.false_ne_true (jN (gO (iK (self:=self) (x:=x) (hl x hx))) e)
  exact(congrArg (fun b=>Q b s) (e _ (hc.enter p))).mpr h
theorem UN {α β:Type}{M:Model}{x:Sem α}{f:α→Sem β}{v:α}{Q:β→Shared→Prop}(hx:j3 M A x (fun b s'=>b=v∧s'=s) E s)(h:j3 M A (f v) Q E s):j3 M A (x >>= f) Q E s :=
  kM (jI hx (fun Z Z e=>by obtain⟨rfl,rfl⟩:=e;exact h) fun Z Z x=>x)
theorem PU {a:Addr}{n:Nat}{t:Tok}{Q:Value→Shared→Prop}(ha:s.heap.get? a=some (kW #[] 0))(hn:n≤sizeLine)
    (h:∀h',Heap.SameBut a s.heap h'→h'.get? a=some (kW (Array.replicate n 0) 0)→Q (.ref a) {s with heap:=h'}) :
    j3 (model prog w) A (Builtin.«bytearray.__init__» ⟨[.ref a,.int (n:Int) t],[]⟩) (fun fin s'=>fin=.done (.ret .none)∧Q (.ref a) s') E s:=by
  have hT:s.TypeIs (.ref a) "bytearray":=⟨_,ha,rfl⟩;have hex:j3 (model prog w) A (Builtin.Bytes.exported (.ref a) <||> do return (← Builtin.Bytes.exportsOf (.ref a))>0) (fun b s'=>b=false∧s'=s) E s:=by
    refine kM (l6 ?_);show j3 (model prog w) A ((Builtin.Bytes.exportsOf (.ref a)) >>= fun x=>pure (decide (x>0))) _ E s;refine jU (qC ?_);unfold Builtin.Bytes.exportsOf;refine qC (pI ha ?_);exact qI (qI ⟨rfl,rfl⟩)
  have f1:(!Builtin.Bytes.fitsIndex (n:Int))=false:=congrArg not (by unfold Builtin.Bytes.fitsIndex;simp only[Bool.and_eq_true,decide_eq_true_eq];exact(And.intro (B8 (by decide)) (lX hn (by decide))):Builtin.Bytes.fitsIndex (n:Int)=true);have f3:((n:Int)==2^63-1)=false:=by simp only[beq_eq_false_iff_ne];exact(B5 (lX hn (by decide)))
  have f4:Builtin.Bytes.tooLong (n:Int).toNat=false:=by unfold Builtin.Bytes.tooLong;rw[Int.toNat_natCast];exact decide_eq_false (by exact(tG hn))
  have fa:asStr? (.int (n:Int) t)=pure none:=by unfold asStr?; rfl
  have fi:(asIndex (.int (n:Int) t)).attempt=pure (.ok (n:Int)):=rfl;unfold Builtin.«bytearray.__init__»;refine wG (m:=Builtin.Bytes.ownRelease (.ref a)) ?_;unfold Builtin.Bytes.ownRelease Builtin.Bytes.slotIsOwn;refine qC (qC (w4 hT BA.no_release ?_));with_reducible refine bm_if_false (by decide +kernel) ?_;rw[show("bytearray.__release_buffer__".dropRight ("__release_buffer__".length+1))="bytearray" by decide +kernel];refine z2 (b:=true) hT BA.sub (qI ?_);refine bN rfl ?_;refine wG (x7 (BA.bind1 _) ?_);refine wG (x7 (a:=()) rfl ?_);refine wG (x7 (a:=()) rfl ?_);refine UN hex (bN rfl (jU ?_));refine sO (f:=fun Z=>#[]) ha (wJ _) fun h2=>?_;dsimp only;refine qC (m:=asStr? (.int (n:Int) t)) ?_;rw[fa];refine qI ?_;with_reducible refine mN (c:=(none:Option Str).isSome=true) (fun h=>nomatch h) ?_;refine qC ?_;with_reducible refine mN (c:=(none:Option Value).isSome=true) (fun h=>nomatch h) ?_;with_reducible refine mN (c:=(none:Option Value).isSome=true) (fun h=>nomatch h) ?_;refine qI ?_;refine e9 ?_;with_reducible refine bm_if_true (c:=(some (Value.builtin "int.__index__")).isSome) rfl ?_;refine qC (m:=(asIndex (.int (n:Int) t)).attempt) ?_;rw[fi];refine qI ?_;with_reducible refine bm_if_false (c:=!Builtin.Bytes.fitsIndex (n:Int)) f1 ?_;with_reducible refine mN (c:=(n:Int)<0) (Int.not_lt.mpr (xM n)) ?_;with_reducible refine bm_if_false f3 ?_;with_reducible refine bm_if_false f4 (qC (jO ?_));by_cases hp:(n:Int)>0
  · rw[if_pos hp];refine sO (b:=#[]) h2 (by simp only[Int.toNat_natCast,Array.size_replicate];exact hn) fun h3=>?_;rw[Int.toNat_natCast] at h3;exact qI ⟨rfl,h _ (QX (zP ..) (zP ..)) h3⟩
  · rw[if_neg hp];have h0:n=0:=by exact(rY [_] [] (.L (.c (.v 0)) (.n 0)) [1] [0] (.e (.v 0) (.n 0)) 1 1 rfl (Int.not_lt.mp hp))
    subst h0;exact qI ⟨rfl,h _ (zP ..) h2⟩
end
end Mine
namespace Mine
section
variable {prog:Program}{w:World}{A:Around}{E:Value→Shared→Prop}{s:Shared}
theorem PV {n:Nat}{t:Tok}{Q:Value→Shared→Prop}(hn:n≤sizeLine)
    (h:∀h',Heap.SameBut s.heap.objs.size (s.heap.push (kW #[] 0)) h'→h'.get? s.heap.objs.size=some (kW (Array.replicate n 0) 0)→Q (.ref s.heap.objs.size) {s with heap:=h'}) :
    j3 (model prog w) A (call (.type "bytearray") [.int (n:Int) t]) Q E s:=by
  refine KU (Q₁:=fun obj s₁=>obj=.ref s.heap.objs.size∧s₁={s with heap:=s.heap.push (kW #[] 0)}) BA.called (BA.typeCall _) BA.entry_init (by decide +kernel)
    (B0 _ ⟨rfl,rfl⟩) fun obj s₁ h₁=>?_
  obtain⟨rfl,rfl⟩:=h₁;have hS:(s.heap.push (kW #[] 0)).get? s.heap.objs.size=some (kW #[] 0):=Heap.get?_push_size _ rfl;exact⟨⟨_,hS,rfl⟩,BA.args_init _ _,PU hS hn h⟩
namespace BA
theorem slot_setitem:Slot "bytearray" "__setitem__" "bytearray.__setitem__" :=
  .of (owner:="bytearray") (n:="__setitem__") (by rw[typeLookup_type,builtinLookup_eq_fast];kernel_rfl) (by decide +kernel) (by decide +kernel) (by decide +kernel)
    (by first | exact .inl (by decide +kernel) | exact .inr (by decide +kernel)) sub
theorem entry_setitem:entryFor table "bytearray.__setitem__"=some Builtin.«bytearray.__setitem__»:=by first | exact entryFor_of_fast (by kernel_rfl) | exact entryFor_of_tree (by kernel_rfl)
theorem args_setitem (a b c:Value):argsOk "bytearray.__setitem__" ⟨[a,b,c],[]⟩:=by unfold argsOk;kernel_rfl
theorem no_bytes:typeLookup (.type "bytearray") "__bytes__"=pure none:=by rw[typeLookup_type,builtinLookup_eq_fast];kernel_rfl
theorem noIdx:typeLookup (.type "bytearray") "__index__"=pure none:=by rw[typeLookup_type,builtinLookup_eq_fast];kernel_rfl
theorem buffer:typeLookup (.type "bytearray") "__buffer__"=pure (some (.builtin "bytearray.__buffer__")):=by rw[typeLookup_type,builtinLookup_eq_fast];kernel_rfl
end BA
theorem X3 {a:Addr}{b:Array UInt8}{i c n:Nat}{t u:Tok}{Q:Unit→Shared→Prop}(ha:s.heap.get? a=some (kW b n))(hi:i<b.size)(hz:b.size≤sizeLine)(hc:c<256)
    (h:∀h',Heap.SameBut a s.heap h'→h'.get? a=some (kW (b.setIfInBounds i c.toUInt8) n)→Q () {s with heap:=h'}) :
    wpAny (model prog w) A (setItem (.ref a) (.int (i:Int) t) (.int (c:Int) u)) Q E s:=by
  have hT:s.TypeIs (.ref a) "bytearray":=⟨_,ha,rfl⟩;have hs:(sizeLine:Nat)=16777216:=rfl;unfold setItem
  try with_reducible refine xS ?_
  first | refine qC (qI ?_) | skip
  refine qC (wpAny_sequenceKey hT (by exact rfl) ?_)
  refine qC (wpAny_callSpecial?_slot (name:=Str.ofString "__setitem__") hT BA.slot_setitem
    (jV BA.slot_setitem hT BA.entry_setitem ?_ (BA.args_setitem _ _ _)))
  unfold Builtin.«bytearray.__setitem__»;dsimp only;simp only[List.isEmpty_nil,Bool.not_true,Bool.false_eq_true,if_false];refine qC ?_;unfold Builtin.Bytes.subscript?;refine e9 ?_;simp only[Option.isNone_some,Bool.false_eq_true,if_false];have ei:asIndex (.int (i:Int) t)=pure (i:Int):=rfl;simp only[ei];simp only[pure_bind,(by unfold Builtin.Bytes.fitsIndex;simp only[Bool.and_eq_true,decide_eq_true_eq];exact(And.intro (B8 (by decide)) (eO hi (FN hz (by decide)))):Builtin.Bytes.fitsIndex (i:Int)=true),Bool.not_true,Bool.false_eq_true,if_false];refine qI ?_;dsimp only;refine qC ?_;unfold Builtin.Bytes.byteValue;have ec:asIndex (.int (c:Int) u)=pure (c:Int):=rfl;rw[ec];simp only[pure_bind,(by simp only[Bool.or_eq_false_iff,decide_eq_false_iff_not];exact⟨(Int.not_lt.mpr (cI [_] [] [] (.L (.n 0) (.c (.v 0))) 1 rfl)),(Int.not_le.mpr (zT [_] [] (.t (.v 0) (.n 256)) [1] (.T (.c (.v 0)) (.n 256)) 1 rfl hc))⟩:(decide ((c:Int)<0)||decide ((c:Int)≥256))=false),Bool.false_eq_true,if_false];refine qI ?_;refine qC ?_;unfold Builtin.Bytes.payload Builtin.Bytes.payload?;refine qC (qC (pI ha (qI (qI ?_))));have e:seqIndex? (i:Int) b.size=some i:=by
    unfold seqIndex?;simp only;split<;>simp_all<;>exact⟨⟨(cI [_,_] [] [] (.L (.n 0) (.p (.c (.v 0)) (.c (.v 1)))) 1 rfl),(zT [_,_] [] (.T (.c (.v 0)) (.n 0)) [1] (.T (.p (.c (.v 0)) (.c (.v 1))) (.c (.v 1))) 0 rfl ‹_›)⟩,(rY [_,_] [] (.T (.c (.v 1)) (.n 0)) [1] [1] (.e (.v 0) (.v 1)) 0 1 rfl ‹_›)⟩
  rw[e];dsimp only;simp only[Int.toNat_natCast];refine sO ha (by rw[Array.size_setIfInBounds];exact hz) fun h3=>?_
  first
    | exact qI ⟨.none,rfl,qI (h _ (zP ..) h3)⟩
    | exact qC (qI (qI ⟨.none,rfl,qI (h _ (zP ..) h3)⟩))
theorem VZ {a:Addr}{b:Array UInt8}{n:Nat}{Q:Value→Shared→Prop}(ha:s.heap.get? a=some (kW b n))(hz:b.size≤sizeLine)
    (h:Q (.bytes b s.toks) {s with toks:=s.toks+1}):wpAny (model prog w) A (call (.type "bytes") [.ref a]) Q E s:=by
  refine callType_codes (Q₁:=fun obj s₁=>s₁.TypeIs obj "bytes"∧Q obj s₁) F.bm_called (F.bm_typeCall _) F.entry_object_init ?_ fun obj s₁ h₁=>
    ⟨h₁.1,F.args_object_init_2 obj _,object_init_meets F.bm_called.init.lookup F.bm_called.made (by exact rfl) prog w A.in1 _ s₁ ⟨h₁.1,rfl,h₁.2⟩⟩
  refine codeAny_of_tree ?_;show wpAny _ A.in1.in1 (do checkBuiltinCall "bytes.__new__" ⟨[.type "bytes",.ref a],[]⟩;again (.builtin "bytes.__new__" ⟨[.type "bytes",.ref a],[]⟩)) _ _ s;refine qC (x7 (F.bm_newCall _) (qI ⟨plainId_quiet F.bm_plain _,codeAny_builtin F.bm_entry ?_⟩));simp only[Around.under_plainId F.bm_plain _];have hT:s.TypeIs (.ref a) "bytearray":=⟨_,ha,rfl⟩;unfold Builtin.«bytes.__new__»;refine qC (x7 (a:=true) rfl ?_);refine bm_if_false rfl ?_;refine qC (x7 F.bm_sub ?_);refine bm_if_false rfl ?_;refine qC (x7 (F.bm_bind _) ?_);refine qC (x7 (a:=()) rfl ?_);refine qC (x7 (a:=()) rfl ?_);refine bm_if_false rfl ?_;refine qC (w4 hT BA.no_bytes ?_);refine qC (qC ?_);show wpAny _ _ (load a >>= _) _ _ _;refine qC (pI ha ?_);refine qI (qI ?_);refine bm_if_false rfl ?_;refine qC (w4 hT BA.noIdx ?_);refine bm_if_true rfl ?_;refine qC ?_;show wpAny _ _ (Builtin.Bytes.buffer? "bytes.__new__" (.ref a) true) _ _ _;unfold Builtin.Bytes.buffer?;refine qC (w4 hT BA.buffer ?_)
  try dsimp only
  refine qC ?_;unfold Builtin.Bytes.slotIsOwn;refine qC (w4 hT BA.buffer ?_)
  try dsimp only
  refine bm_if_false (by decide +kernel) ?_;rw[(by decide +kernel:("bytearray.__buffer__".dropRight ("__buffer__".length+1))="bytearray")];refine z2 (b:=true) hT BA.sub ?_;refine bm_if_false rfl ?_;refine qC (w4 hT BA.buffer ?_)
  try dsimp only
  unfold Builtin.Bytes.ownRelease Builtin.Bytes.slotIsOwn;refine qC (qC (qC (w4 hT BA.no_release ?_)))
  try dsimp only
  refine bm_if_false (by decide +kernel) ?_;simp only[(by decide +kernel:("bytearray.__release_buffer__".dropRight ("__release_buffer__".length+1))="bytearray")];refine z2 (b:=true) hT BA.sub (qI ?_);refine bm_if_false rfl ?_;refine qC ?_;unfold Builtin.Bytes.payload Builtin.Bytes.payload?;refine qC (qC (pI ha (qI (qI (qI ?_)))));dsimp only;refine qC (jO ?_);refine qC (wpAny_mkBytes ?_ hz);show wpAny _ _ (if(Value.type "bytes" == Value.type "bytes")=true then _ else _) _ _ _;refine bm_if_true (by exact rfl) ?_
  first
    | exact qI ⟨PySem.W.typeIs_bytes _ _ _,h⟩
    | exact qC (qI (qI ⟨PySem.W.typeIs_bytes _ _ _,h⟩))
end
end Mine
namespace Mine
section
variable {prog:Program}{w:World}{W:Wd}{k:Nat}{sc:Scope}{fn:Bool}{Γ:xK}
theorem i9 {y:Str}{pos pos' p cpos:Pos}{nm:Str}{e:Expr}{n:Nat}(hB:kZ W sc nm (.type "bytearray"))(he:sY prog w W k sc fn Γ [e] [.dat (.int (n:Int))])(hn:n≤sizeLine)
    (hk:sc.names.lookup y=some .local ∨ (sc.names.lookup y=some .cell∧fn=true))(hs:autoParam (∀env,(starEach [e] env).any (·.1)=false) au1)
    (hsw:autoParam (∀env,swapsWith (.Call (.Name nm p) [e] [] cpos) (some (.Name y pos')) pos.line env=pure false) au1) :
    PZ prog w W k sc fn Γ (.Assign [.Name y pos'] (.Call (.Name nm p) [e] [] cpos) pos) (.next ((y,.byt (Array.replicate n 0))::Γ)):=fun fr P s F hsc st A Q E rm q=>by
  refine uP ?_ (hsw _);have e1:eval (.Call (.Name nm p) [e] [] cpos) fr.env=(do callWith cpos (← eval (.Name nm p) fr.env) [] (backTo cpos (starEach [e] fr.env)) []):=rfl;simp only[e1];refine wG (wN st (hsc▸hB.kind) hB.glob hB.boot hB.nn ?_ hB.nd);refine bA (v6 (hs _)) (jU ?_);refine kC he hsc st rm hs fun vs s₁ F₁ g₁ hv=>?_;have st₁:=st.step g₁;refine hv.e1 fun Z h1=>?_;refine xQ.eInt h1 fun Z ht=>?_;refine PV hn fun h' hsame hget=>?_;have hlt:∀a o,s₁.heap.get? a=some o→h'.get? a=some o:=fun a o ha=>by
    rw[hsame.2 a (Nat.ne_of_lt (Heap.lt_size ha))];exact Heap.get?_push_of_some _ ha
  have g₂:q0 W s₁ {s₁ with heap:=h'} F₁ F₁:=q0.of_keeps [] st₁.base hlt (fun Z h=>nomatch h) (by
    show s₁.heap.objs.size≤h'.objs.size;simp only[hsame.1,Heap.size_push];exact(qR _ _)) (qH _) rfl .rfl
  refine jU ((st₁.step g₂).store (b:=.byt (Array.replicate n 0)) ⟨_,_,rfl,hget,?_⟩ (by rw[← hsc] at hk;exact hk) (fun z bz a hz h1 h2 Z h4 e=>?_) fun s' st'=>q _ s' F₁ ⟨rfl,st'⟩ g₁.sub)
  · have:=st₁.new;exact⟨this.new,this.loc,this.cel,this.prv,this.frz⟩
  · cases e;obtain⟨u,w1,_⟩:=st₁.vars z bz h1;have hv:z7 h' fr.env z u:=w1.keeps (fun m h=>Ns.off (W:=W) h st₁.tabL g₂.keep) fun c v hc hv=>IsCell.off (W:=W) hv (st₁.cell _ _ hc).2.2.2.2.1 g₂.keep;cases hv.unique h4;exact zK _ (st₁.new_apart h1 h2 w1)
end
end Mine
namespace Mine
section
variable {prog:Program}{w:World}{W:Wd}{k:Nat}{sc:Scope}{fn:Bool}{Γ:xK}
theorem aK {fr:p4}{P:yW}{s:Shared}{F:Fz}{y:Str}{b:Array UInt8}(st:St prog w W fr fn Γ P s F)(hy:Γ.lookup y=some (.byt b)):∃a n,z7 s.heap fr.env y (.ref a)∧s.heap.get? a=some (kW b n)∧y6 fr P F a:=by
  refine zS fun nG=>?_;obtain⟨v,hv,a,n,rfl,h,hp⟩:=st.vars y _ hy;refine nG ?_;exact⟨a,n,hv,h,hp⟩
theorem XH {y:Str}{p spos pos:Pos}{i e:Expr}{b:Array UInt8}{j c:Nat}(hy:Γ.lookup y=some (.byt b))(he:Ev prog w W k sc fn Γ e (.dat (.int (c:Int))))(hi:Ev prog w W k sc fn Γ i (.dat (.int (j:Int))))(hj:j<b.size)(hz:b.size≤sizeLine)(hc:c<256)
    (hs:autoParam (∀env,swapsWith e (some (.Subscript (.Name y p) i spos)) pos.line env=pure false) au1)
    (hd:autoParam ((y==("__debug__":Str))=false) au2)(hn:autoParam ((y==("__classdict__":Str))=false) au2) :
    nX prog w W k sc fn Γ (.Assign [.Subscript (.Name y p) i spos] e pos) (.next ((y,.byt (b.setIfInBounds j c.toUInt8))::Γ)):=fun fr P s F hsc st A Q E rm q=>
  tI (he fr P s F hsc st A _ E rm fun u s₁ F₁ g₁ hu=>by
    have st₁:=st.step g₁;obtain⟨a,n,hv,_⟩:=aK st₁ hy;refine pD st₁ hv ?_ hd hn;refine hi fr P s₁ F₁ hsc st₁ A _ E rm fun iv s₂ F₂ g₂ hiv=>?_;have st₂:=st₁.step g₂;obtain⟨a',n',hv',hD,hp⟩:=aK st₂ hy;cases(hv.step st₁ g₂).unique hv';cases hiv;cases hu;refine X3 hD hj hz hc (fun h' hs' hD'=>?_);exact q _ _ F₂ ⟨rfl,st₂.turn hy rfl hv' hp hs' (qH s₂.toks) ⟨_,_,rfl,hD',hp⟩⟩ (g₁.sub.trans g₂.sub)) (hs _)
theorem aX {y nm:Str}{q₁ p pos:Pos}{b:Array UInt8}(hB:kZ W sc nm (.type "bytes"))(hy:Γ.lookup y=some (.byt b))(hz:b.size≤sizeLine)
    (hs:autoParam (∀env,starEach [.Name y q₁] env=[(false,eval (.Name y q₁) env)]) au1)
    (hd:autoParam ((y==("__debug__":Str))=false) au2)(hn:autoParam ((y==("__classdict__":Str))=false) au2) :
    Ev prog w W k sc fn Γ (.Call (.Name nm p) [.Name y q₁] [] pos) (.dat (.bytes b)):=fun fr P s F hsc st A Q E rm q=>by
  rw[(rfl:eval (.Call (.Name nm p) [.Name y q₁] [] pos) fr.env=(do callWith pos (← eval (.Name nm p) fr.env) [] (backTo pos (starEach [.Name y q₁] fr.env)) []))];refine qC (wN st (hsc▸hB.kind) hB.glob hB.boot hB.nn ?_ hB.nd);have hs':∀env,(starEach [Expr.Name y q₁] env).any (·.1)=false:=fun env=>by rw[hs];rfl
  refine wZ (v6 (hs' _)) ?_;have hp':(backTo pos (starEach [Expr.Name y q₁] fr.env)).any (·.1)=false:=v6 (hs' _);rw[hs];refine zS fun nG=>?_;obtain⟨a,n,hv,hD,hp⟩:=aK st hy;refine nG ?_;refine evalArgs_plain (spliced_cons (pD st hv ?_ hd hn));refine spliced_nil ?_;refine VZ hD hz ?_;exact q _ _ _ (q0.more st.base (xI _)) .bytes
end
end Mine
namespace Mine
section
variable {prog:Program}{w:World}{W:Wd}{k:Nat}{sc:Scope}{fn:Bool}{Γ:xK}
theorem dH (c:Nat):∀(m a:Nat),zY (a:Int) (c:Int) m=(List.range m).map fun i=>((a+i*c:Nat):Int)
  | 0,_=>rfl
  | m+1,a=>by
    dsimp only[zY];simp only[show((a:Int)+(c:Int))=((a+c:Nat):Int) by exact rfl,dH c m (a+c),List.range_succ_eq_map,List.map_cons,List.map_map];congr 1
    · simp
    · apply zN;intro i _;show(((a+c)+i*c:Nat):Int)=((a+(i+1)*c:Nat):Int);simp only[Nat.add_mul,Nat.one_mul];exact(QA [_,_,_] [] [] [] (.E (.c (.p (.p (.v 0) (.v 1)) (.v 2))) (.c (.p (.v 0) (.p (.v 2) (.v 1))))) 1 1 rfl)
theorem fB {m c:Nat}(hc:0<c):Builtin.Range.rangeSize 0 ((m*c:Nat):Int) (c:Int)=(m:Int):=by
  rw[rangeSize_pos (by exact(UL hc)) (by exact(Int.natCast_nonneg _))];have:((m*c:Nat):Int)+(c:Int)-1=((c-1:Nat):Int)+(m:Int)*(c:Int):=by
    simp only[Int.natCast_mul];exact(nH [_,_] [_] (.l (.v 0) (.p (.v 1) (.n 1))) (.e (.p (.v 1) (.n 1)) (.v 0)) [1,0] [0,1] (.E (.s (.p (.z 0) (.c (.v 0))) (.n 1)) (.p (.c (.v 1)) (.z 0))) 1 1 rfl (jR _ _) (qQ (zT [_] [] (.t (.n 0) (.v 0)) [1] (.l (.n 1) (.v 0)) 1 rfl hc)))
  rw[this,Int.add_mul_ediv_right _ _ (by exact(UK hc)),Int.ediv_eq_zero_of_lt (by exact(Int.natCast_nonneg _)) (by omega),Int.zero_add]
theorem XQ {tgt e0 e1 e2:Expr}{y:Str}{p pos:Pos}{m c:Nat}(hB:kZ W sc y (.type "range"))
    (hl:sY prog w W k sc fn Γ [e0,e1,e2] [.dat (.int 0),.dat (.int ((m*c:Nat):Int)),.dat (.int (c:Int))])(ht:w5 tgt=true)(hc:0<c)(hc2:c≤1000000)(hm:m*c≤1000000)
    (hs:autoParam (∀env,(starEach [e0,e1,e2] env).any (·.1)=false) au1) :
    wR prog w W k sc fn Γ tgt (.Call (.Name y p) [e0,e1,e2] [] pos) ((List.range m).map fun i=>V.dat (.int ((i*c:Nat):Int))):=fun fr P s F hsc st A Q E rm q=>by
  refine jB hB.kind hB.glob hB.boot hB.nn hB.call hl hs hB.nd hsc st rm fun vs s₁ F₁ g₁ hv=>?_;refine hv.eCons fun Z Z h1 hr=>?_;refine hr.eCons fun Z Z h2 hr=>?_;refine hr.eCons fun Z Z h3 hr=>?_;cases hr;refine xQ.eInt h1 fun t₀ hm0=>?_;refine xQ.eInt h2 fun t₁ hm1=>?_;refine xQ.eInt h3 fun t₂ hm2=>?_;have b:=(st.step g₁).base;refine call_range_3 (by exact(UK hc)) ?_ (Or.inl (PyProof.noPylong_small (by exact(qV hc2 (by exact qA rfl)))));have g₂:=q0.pushed b {cls:=.type "range",data:=.fields #[.int 0 t₀,.int ((m*c:Nat):Int) t₁,.int (c:Int) t₂]} (t:=s₁.toks) (by exact(qH _));refine v9 ht (b.grow g₂) (IsRange.new _ _ _ _ _ _ _) ?_ (fB hc) rm fun it s' F' N g₃ hN hI hS=>?_
  · unfold Builtin.Range.small;rw[fB hc];have hmc:m≤m*c:=Nat.le_mul_of_pos_right m hc;simp only[Builtin.Range.rangeFitsLong,Bool.and_eq_true,Bool.or_eq_true,decide_eq_true_eq,beq_iff_eq,show((c:Int)>0) by exact(WH hc),if_true];generalize m*c=mc at *;exact⟨⟨⟨⟨⟨(cI [] [] [] (.L (.g (.n 9223372036854775808)) (.n 0)) 1 rfl),(cI [] [] [] (.T (.n 0) (.n 9223372036854775808)) 1 rfl)⟩,⟨(cI [_] [] [] (.L (.g (.n 9223372036854775808)) (.c (.v 0))) 1 rfl),(zT [_] [] (.l (.v 0) (.n 1000000)) [1] (.T (.c (.v 0)) (.n 9223372036854775808)) 1 rfl hm)⟩⟩,⟨(cI [_] [] [] (.L (.g (.n 9223372036854775808)) (.c (.v 0))) 1 rfl),(zT [_] [] (.l (.v 0) (.n 1000000)) [1] (.T (.c (.v 0)) (.n 9223372036854775808)) 1 rfl hc2)⟩⟩,⟨(cI [_] [] [] (.L (.g (.n 9223372036854775808)) (.c (.v 0))) 1 rfl),(kN [_,_] [] (.l (.v 1) (.n 1000000)) (.l (.v 0) (.v 1)) [1,1] (.T (.c (.v 0)) (.n 9223372036854775808)) 1 rfl hm hmc)⟩⟩,(.inr ⟨(cI [_,_] [] [] (.L (.g (.n 9223372036854775808)) (.p (.c (.v 0)) (.s (.c (.v 1)) (.n 1)))) 1 rfl),(kN [_,_] [] (.l (.v 1) (.n 1000000)) (.l (.v 0) (.n 1000000)) [1,1] (.T (.p (.c (.v 0)) (.s (.c (.v 1)) (.n 1))) (.n 9223372036854775808)) 1 rfl hc2 hm)⟩)⟩
  · have e:zY 0 (c:Int) m=(List.range m).map fun i=>((i*c:Nat):Int):=by
      have:=dH c m 0;simpa using this
    rw[e,List.map_map] at hI;exact q it s' F' N ((g₁.trans g₂).trans g₃) (n9.more hN (g₁.trans g₂).size) hI hS
end
end Mine
namespace Mine
variable {w:World}{W:Wd}{k:Nat}
noncomputable def eW (x b:Array UInt8)(c i:Nat)(l:List Nat):Array UInt8:=l.foldl (fun b j=>b.setIfInBounds (i*c+c-1-j) (x.getD (i*c+j) 0)) b
noncomputable def dG (x b:Array UInt8)(c:Nat)(l:List Nat):Array UInt8:=l.foldl (fun b i=>eW x b c i (List.range c)) b
noncomputable def yN (x:Array UInt8)(c:Nat):Array UInt8:=dG x (Array.replicate x.size 0) c (List.range (x.size/c))
theorem bG (x:Array UInt8)(c i:Nat):∀(l:List Nat) (b:Array UInt8),(eW x b c i l).size=b.size
  | [],b=>rfl
  | j::l,b=>by simp only[eW,List.foldl_cons];exact(bG x c i l _).trans Array.size_setIfInBounds
theorem p6 (x:Array UInt8)(c:Nat):∀(l:List Nat) (b:Array UInt8),(dG x b c l).size=b.size
  | [],b=>rfl
  | i::l,b=>by simp only[dG,List.foldl_cons];exact(p6 x c l _).trans (bG x c i _ b)
theorem nD (ok:bX W){x:Array UInt8}{m c:Nat}(hx:x.size=m*c)(hc:0<c)(hz:m*c≤100000)(hc2:c≤100000) :
    V1 w W (k+1) 1 [.dat (.bytes x),.dat (.int (c:Int))] (.dat (.bytes (yN x c))):=by
  have hz2:sizeLine=16777216:=rfl;refine UY ["data","width"] (fun Z Z Z=>gQ fun Z Z=>rfl) (by exact rfl) (by decide) rfl ?_;have hlen:∀{Γ:xK},List.lookup ("data":Str) Γ=some (.val (.dat (.bytes x)))→∀{p q r},Ev pw w W k (xC 1).scope true Γ (.Call (.Name "len" p) [.Name "data" q] [] r) (.dat (.int ((m*c:Nat):Int))):=fun h=>by
    intro p q r;simp only[← hx];exact yI (zA ok (by exact .head _) rfl (by decide +kernel)) (qE (qD h) qN) (nT (by exact(qB (qL hx) (qB hz (by exact qA rfl)))))
  refine YU (i9 (n:=m*c) (zA ok (by decide) rfl (by decide +kernel)) (qE (hlen rfl) qN) (by exact(qB hz (by exact qA rfl))) (.inl rfl)) (BM ?_);let bs:Nat→Array UInt8:=fun i=>dG x (Array.replicate (m*c) 0) c (List.range i);have bsz:∀i,(bs i).size=m*c:=fun i=>(p6 _ _ _ _).trans Array.size_replicate;let Γs:Nat→xK:=fun i=>[("swapped_data",.byt (bs i)),("data",.val (.dat (.bytes x))),("width",.val (.dat (.int (c:Int))))];refine xU (yE (Γs:=Γs) (n:=m) (XQ (m:=m) (c:=c) (zA ok (by exact .tail _ (.head _)) rfl (by decide +kernel)) (qE qX (qE (hlen rfl) (qE (qD rfl) qN))) rfl hc (by exact(qB hc2 (by exact qA rfl))) (by exact(qB hz (by exact qA rfl)))) (Sub.cons rfl (.cons rfl (.cons rfl .nil))).go ?_ (.inl ⟨by simp,rfl⟩)) ?_
  · intro i v hi hv;rw[List.getElem?_map,List.getElem?_range hi] at hv;cases hv;refine⟨_,xY (.inl rfl),?_⟩;let ib:Nat→Array UInt8:=fun j=>eW x (bs i) c i (List.range j);have isz:∀j,(ib j).size=m*c:=fun j=>(bG _ _ _ _ _).trans (bsz i);let Γi:Nat→xK:=fun j=>[("i",.val (.dat (.int ((i*c:Nat):Int)))),("swapped_data",.byt (ib j)),("data",.val (.dat (.bytes x))),("width",.val (.dat (.int (c:Int))))];refine gD (xU (yE (Γs:=Γi) (n:=c) (gF (n:=c) (zA ok (by exact .tail _ (.head _)) rfl (by decide +kernel)) (qD rfl) rfl (by exact(qB hc2 (by exact qA rfl)))) (Sub.cons rfl (.cons rfl (.cons rfl (.cons rfl .nil)))).go ?_ (.inl ⟨by simp,rfl⟩)) wX) (.cons ?_ (.cons rfl (.cons rfl .nil)))
    · intro j v hj hv;rw[List.getElem?_map,List.getElem?_range hj] at hv;cases hv;refine⟨_,xY (.inl rfl),?_⟩;have hb:i*c+c≤m*c:=by
        have:=yV c (Nat.succ_le_of_lt hi);rw[Nat.succ_mul] at this;exact this
      refine gD (xU (XH (b:=ib j) (j:=i*c+c-1-j) (c:=(x.getD (i*c+j) 0).toNat) rfl ?_ ?_ (by simp only[isz];exact(bW [_,_,_,_,_] [] (.l (.p (.v 2) (.v 3)) (.v 1)) (.l (.v 0) (.v 4)) (.e (.p (.v 4) (.n 1)) (.p (.v 2) (.v 3))) [1,1,1] (.t (.v 0) (.v 1)) 1 rfl hb (V4 _ _) (qQ (zT [_,_,_] [] (.t (.v 2) (.v 1)) [1] (.l (.n 1) (.p (.v 0) (.v 1))) 1 rfl hj)))) (by rw[isz];exact(qB hz (by exact qA rfl))) (UInt8.toNat_lt _)) wX) (.cons rfl (.cons ?_ (.cons rfl (.cons rfl .nil))))
      · have hlt:i*c+j<x.size:=by exact(bW [i*c,j,x.size,m*c,c] [] (.e (.v 2) (.v 3)) (.t (.v 1) (.v 4)) (.l (.p (.v 0) (.v 4)) (.v 3)) [-1,1,1] (.t (.p (.v 0) (.v 1)) (.v 2)) 1 rfl hx hj hb)
        have e:(((x.getD (i*c+j) 0).toNat:Nat):Int)=((x[i*c+j].toNat:Nat):Int):=by
          rw[Array.getD_eq_getD_getElem?,Array.getElem?_eq_getElem hlt];rfl
        rw[e];exact jG (qD rfl) (xF (qD rfl) (qD rfl) kB) (lD (by exact(cI [_,_] [] [] (.L (.n 0) (.p (.c (.v 0)) (.c (.v 1)))) 1 rfl)) (by simp only[show(((i*c:Nat):Int)+(j:Int)).toNat=i*c+j by exact rfl];exact Array.getElem?_eq_getElem hlt) (by exact(qB (qL hx) (qB hz (by exact qA rfl)))))
      · have e:((i*c+c-1-j:Nat):Int)=((i*c:Nat):Int)+(c:Int)-1-(j:Int):=by exact(ZO [_,_,_,_,_] [] (.l (.v 4) (.p (.v 0) (.v 3))) (.e (.p (.v 0) (.v 3)) (.v 4)) (.l (.p (.v 1) (.v 2)) (.p (.v 4) (.n 1))) (.e (.p (.v 4) (.n 1)) (.p (.v 1) (.v 2))) [0,1,0,1] [1,0,1,0] (.E (.c (.v 0)) (.s (.s (.p (.c (.v 1)) (.c (.v 2))) (.n 1)) (.c (.v 3)))) 1 1 rfl (jR _ _) (qQ (kN [_,_,_,_] [] (.t (.v 0) (.v 2)) (.l (.p (.v 3) (.v 2)) (.p (.v 1) (.n 1))) [1,1] (.l (.v 0) (.v 1)) 1 rfl hj (jR _ _))) (jR _ _) (qQ (zT [_,_,_] [] (.t (.v 2) (.v 1)) [1] (.l (.n 1) (.p (.v 0) (.v 1))) 1 rfl hj)))
        rw[e];exact xF (xF (xF (qD rfl) (qD rfl) kB) qX j7) (qD rfl) j7
      · show some _=some _;have:ib (j+1)=(ib j).setIfInBounds (i*c+c-1-j) (x.getD (i*c+j) 0):=by
          show List.foldl _ _ (List.range (j+1))=_;simp only[List.range_succ,List.foldl_append];rfl
        simp only[this];congr 2;simp
    · show some _=some _;have:bs (i+1)=ib c:=by
        show List.foldl _ _ (List.range (i+1))=_;simp only[List.range_succ,List.foldl_append];rfl
      rw[this]
  · refine xR (xN ?_);have:yN x c=bs m:=by
      show dG x (Array.replicate x.size 0) c (List.range (x.size/c))=dG x (Array.replicate (m*c) 0) c (List.range m);rw[hx,Nat.mul_div_cancel m hc]
    simp only[this];exact aX (zA ok (by decide) rfl (by decide +kernel)) rfl (by rw[bsz];exact(zT [_] [] (.l (.v 0) (.n 100000)) [1] (.l (.v 0) (.n 16777216)) 1 rfl hz))
end Mine
namespace Mine
section
variable {M:Model}{A:Around}{E:Value→Shared→Prop}{s:Shared}
theorem WM {x:Sem Value}{Q:List Value→Shared→Prop}(h:j3 M A x (fun v s₁=>Q [v] s₁) E s):j3 M A (spliced [(false,x)]) Q E s:=by
  rw[spliced];refine kM (jI h (fun v s₁ h₁=>?_) fun Z Z x=>x);simp only[Bool.false_eq_true,if_false];exact jU (qC (qI (qC (xS (spliced_nil (qI h₁))))))
theorem XJ {f:Value}{x:Sem Value}{Q:Args→Shared→Prop}(h:j3 M A x (fun v s₁=>Q ⟨[v],[]⟩ s₁) E s):j3 M A (evalArgs f true [(false,x)] []) Q E s:=by
  unfold evalArgs;show j3 M A (spliced [(false,x)] >>= _) Q E s;refine kM (WM (jI h (fun v s' h'=>?_) fun Z Z x=>x));exact jU (xS (qC (qI (qC (qI (qI h'))))))
end
section
variable {prog:Program}{w:World}{W:Wd}{k:Nat}{sc:Scope}{fn:Bool}{Γ:xK}
theorem KI {nm:Str}{T:String}{e:Expr}{p pos:Pos}{x r:V}(hB:kZ W sc nm (.type T))(he:F8 prog w W k sc fn Γ e x)(hc:Calls prog w W k (.type T) [x] r)
    (hs:autoParam (∀env,starEach [e] env=[(false,eval e env)]) au1):F8 prog w W k sc fn Γ (.Call (.Name nm p) [e] [] pos) r:=fun fr P s F hsc st A Q E rm q=>by
  rw[(rfl:eval (.Call (.Name nm p) [e] [] pos) fr.env=(do callWith pos (← eval (.Name nm p) fr.env) [] (backTo pos (starEach [e] fr.env)) []))];refine wG (wN st (hsc▸hB.kind) hB.glob hB.boot hB.nn ?_ hB.nd);refine bA (v6 ((fun env=>by rw[hs];rfl:∀env,(starEach [e] env).any (·.1)=false) _)) ?_;rw[hs];refine XJ (he fr P s F hsc st A _ E rm fun u s₁ F₁ g₁ hu=>?_);exact jU (hc s₁ F₁ [u] (st.step g₁).base (.cons hu .nil) A Q E rm fun z s₂ F₂ g₂ hz=>q z s₂ F₂ (g₁.trans g₂) hz)
end
end Mine
namespace Mine
section
variable {prog:Program}{w:World}{W:Wd}{k:Nat}{sc:Scope}{fn:Bool}{Γ:xK}
theorem aU {y z:Str}{p1 p2 tpos pos:Pos}{x1:Nat}{value:Expr}{d e:Dat}(hv:Ev prog w W k sc fn Γ value (.dat (.tuple [d,e])))
    (hy:sc.names.lookup y=some .local ∨ (sc.names.lookup y=some .cell∧fn=true))(hz:sc.names.lookup z=some .local ∨ (sc.names.lookup z=some .cell∧fn=true))
    (hs:autoParam (∀env,env.scope=sc→swapsWithSole [.Tuple [.Name y p1,.Name z p2] x1 tpos] value pos.line env=pure false) au5)
    (hw:∀env,env.scope=sc→swappedStores [.Tuple [.Name y p1,.Name z p2] x1 tpos] value env=pure (some [y,z])) :
    nX prog w W k sc fn Γ (.Assign [.Tuple [.Name y p1,.Name z p2] x1 tpos] value pos) (.next ((y,.val (.dat d))::(z,.val (.dat e))::Γ)):=fun fr P s F hsc st A Q E rm q=>
  Assign_Tuple_swapped (names:=[y,z]) (hv fr P s F hsc st A _ E rm fun v s₁ F₁ g₁ hv₁=>by
    have st₁:=st.step g₁;refine ZC st₁.base rm hv₁ fun u t s' g h1 h2=>?_;show wpAny _ A (assignInOrder [bindName fr.env z,bindName fr.env y] [t,u]) _ E s';refine lY (xS (bindName_ ?_));refine(st₁.step g).storeV (d:=.dat e) h2 (by rw[← hsc] at hz;exact hz) fun s₂ st₂=>?_;refine lY (xS (bindName_ (st₂.storeV (d:=.dat d) h1 (by rw[← hsc] at hy;exact hy) fun s₃ st₃=>?_)));exact qI (q _ s₃ F₁ ⟨rfl,st₃⟩ g₁.sub)) (hs _ hsc) (hw _ hsc)
end
end Mine
namespace Mine
noncomputable def KV (x:Array UInt8)(t0 i:Nat):List Value:=(List.range i).map fun j=>Value.int ((x.getD j 0).toNat:Int) (t0+j)
theorem VX (x:Array UInt8)(t0 i:Nat):(KV x t0 i).toArray.push (.int ((x.getD i 0).toNat:Int) (t0+i))=(KV x t0 (i+1)).toArray:=by
  unfold KV;simp only[List.range_succ,List.map_append];simp
theorem WB (x:Array UInt8)(t0 i:Nat):(KV x t0 i).length=i:=by simp[KV]
section
variable {prog:Program}{w:World}{A:Around}{E:Value→Shared→Prop}{s:Shared}
theorem JU (arr:Array Value)(v:Value)(c:Nat):∃c',Obj.mapSeq (·.push v) (W.listOf arr c)=W.listOf (arr.push v) c':=⟨_,rfl⟩
theorem PS {R:Result→Shared→Prop}{I S:Addr}{x:Array UInt8}{t t0:Nat}(hh:A.handled=none)(hIS:I≠S)(hz:x.size≤sizeLine) :
    ∀(k i:Nat) (s:Shared),x.size-i=k→i≤x.size→KBw.IsBytesIter s.heap I x t i→(∃c,s.heap.get? S=some (listOf (KV x t0 i).toArray c))→s.toks=t0+i →
      (∀h' c',(∀b o,b≠I→b≠S→s.heap.get? b=some o→h'.get? b=some o)→s.heap.objs.size≤h'.objs.size→h'.get? S=some (listOf (KV x t0 x.size).toArray c')→R (.ok (.ret .none)) {s with heap:=h',toks:=t0+x.size}) →
      codeAny (model prog w) A (.builtin "list.extend.loop" ⟨[.ref S,.ref I,.none],[]⟩) R s:=by
  intro k
  induction k with
  | zero =>
    intro i s hk hle hit ⟨c,hS⟩ ht hR;have hin:i=x.size:=by exact(GA [i,x.size,x.size-i] [] (.e (.v 2) (.n 0)) (.l (.v 0) (.v 1)) (.l (.v 1) (.p (.v 2) (.v 0))) [0,1,0] [1,0,1] (.e (.v 0) (.v 1)) 1 1 rfl hk hle (jR _ _))
    subst hin;refine codeAny_builtin F.entry_extend_loop ?_;rw[Around.under_plainId F.plain_extend_loop _];show wpAny _ A.in1 (pyNext (.ref I) >>= _) _ _ s;refine qC (wD (KBw.next_end (A:=A.in1) hh hit (by simp) fun h' he h1 h2=>?_));have e:({s with heap:=h'}:Shared)={s with heap:=h',toks:=t0+x.size}:=by rw[← ht]
    rw[e];exact qI (hR h' c (fun b o hb Z e=>he b o hb e) h1 (he S _ (xW hIS) hS))
  | succ k ih =>
    intro i s hk hle hit ⟨c,hS⟩ ht hR;have hlt:i<x.size:=by exact(kN [i,x.size,x.size-i,k] [] (.e (.v 2) (.p (.v 3) (.n 1))) (.e (.p (.v 2) (.v 0)) (.v 1)) [-1,1] (.t (.v 0) (.v 1)) 1 rfl hk (qQ hle))
    refine codeAny_builtin F.entry_extend_loop ?_;rw[Around.under_plainId F.plain_extend_loop _];show wpAny _ A.in1 (pyNext (.ref I) >>= _) _ _ s;refine qC (KBw.next_item hit (Array.getElem?_eq_getElem hlt) fun h' hit' hs=>?_);have hS':=(hs.2 S (xW hIS)).trans hS;show wpAny _ A.in1 (updateSeq S (·.push (.int (x[i].toNat:Int) s.toks)) >>= _) _ _ _;refine qC ?_;have eg:x[i]=x.getD i 0:=by simp only[Array.getD_eq_getD_getElem?,Array.getElem?_eq_getElem hlt];rfl
    refine wpAny_updateSeq (s:={s with heap:=h',toks:=s.toks+1}) hS' rfl (qI ⟨plainId_quiet HD _,ih (i+1) _ (by exact(V9 [x.size-(i+1),k,x.size-i,x.size,i] [] (.e (.v 2) (.p (.v 1) (.n 1))) (.l (.v 3) (.p (.v 0) (.p (.v 4) (.n 1)))) (.e (.p (.v 0) (.p (.v 4) (.n 1))) (.v 3)) (.l (.v 3) (.p (.v 2) (.v 4))) (.e (.p (.v 2) (.v 4)) (.v 3)) [1,0,1,1,0] [-1,1,0,0,1] (.e (.v 0) (.v 1)) 1 1 rfl hk (jR _ _) (qQ (zT [i,x.size] [] (.t (.v 0) (.v 1)) [1] (.l (.p (.v 0) (.n 1)) (.v 1)) 1 rfl hlt)) (jR _ _) (qQ (zT [i,x.size] [] (.t (.v 0) (.v 1)) [1] (.l (.v 0) (.v 1)) 1 rfl hlt)))) hlt ?_ ?_ (by show s.toks+1=_;exact(rY [_,_,_] [] (.e (.v 0) (.p (.v 1) (.v 2))) [1] [-1] (.e (.p (.v 0) (.n 1)) (.p (.v 1) (.p (.v 2) (.n 1)))) 1 1 rfl ht)) fun h'' c' hk3 hz3 hS3=>?_⟩)
      ?_ ?_
    · obtain⟨o,i1,i2,i3⟩:=hit';exact⟨o,(Heap.get?_update_other _ _ (xW hIS)).trans i1,i2,i3⟩
    · obtain⟨c₂,hc₂⟩:=JU (KV x t0 i).toArray (Value.int (x[i].toNat:Int) s.toks) c;refine⟨c₂,(Heap.get?_update_self (Obj.mapSeq (·.push (Value.int (x[i].toNat:Int) s.toks))) hS' rfl).trans ?_⟩;rw[hc₂,eg,ht,VX]
    · have e:({s with heap:=h'',toks:=t0+x.size}:Shared)={{s with heap:=h'.update S (Obj.mapSeq (·.push (Value.int (x[i].toNat:Int) s.toks))),toks:=s.toks+1} with heap:=h'',toks:=t0+x.size}:=rfl;refine hR h'' c' (fun b o hbI hbS e=>hk3 b o hbI hbS ((Heap.get?_update_other _ _ (xW hbS)).trans ((hs.2 b hbI).trans e))) ?_ hS3;have:(h'.update S (Obj.mapSeq (·.push (Value.int (x[i].toNat:Int) s.toks)))).objs.size≤h''.objs.size:=hz3;exact(qB (qL (hs.1:h'.objs.size=s.heap.objs.size).symm) (qB (qL ((zP ..).1:(h'.update S (Obj.mapSeq (·.push (Value.int (x[i].toNat:Int) s.toks)))).objs.size=h'.objs.size).symm) this))
    · show(KV x t0 i).toArray.size≤_;simp only[List.size_toArray,WB];exact(qU (qK hlt hz))
    · show((KV x t0 i).toArray.push _).size≤_;simp only[Array.size_push,List.size_toArray,WB];exact(qW (qB hlt hz))
end
end Mine
namespace Mine
section
variable {prog:Program}{w:World}{A:Around}{E:Value→Shared→Prop}{s:Shared}
theorem BZ:typeLookup (.type "bytes") "__len__"=pure (some (.builtin "bytes.__len__")):=by rw[typeLookup_type,builtinLookup_eq_fast];kernel_rfl
theorem VW:splitId "bytes.__len__"=some ("bytes","__len__"):=by decide +kernel
theorem n8 {x:Array UInt8}{t:Nat}{Q:Value→Shared→Prop}(hh:A.handled=none)(hz:x.size≤sizeLine)
    (hQ:∀h' c',(∀b o,s.heap.get? b=some o→h'.get? b=some o)→s.heap.objs.size≤h'.objs.size→h'.get? s.heap.objs.size=some (W.listOf (KV x s.toks x.size).toArray c')→Q (.ref s.heap.objs.size) {s with heap:=h',toks:=s.toks+x.size}) :
    wpAny (model prog w) A (call (.type "list") [.bytes x t]) Q E s:=by
  refine callType_codes (Q₁:=fun obj s₁=>obj=.ref s.heap.objs.size∧s₁={s with heap:=s.heap.push {cls:=.type "list",data:=.seq #[]}}) F.called_list (F.typeCall_list_1 _) F.entry_list_init
    (code_list_new _ ⟨rfl,rfl⟩) fun obj s₁ h₁=>?_
  obtain⟨rfl,rfl⟩:=h₁;have hS:(s.heap.push {cls:=.type "list",data:=.seq #[]}).get? s.heap.objs.size=some {cls:=.type "list",data:=.seq #[]}:=Heap.get?_push_size _ rfl;refine⟨⟨_,hS,rfl⟩,F.args_list_init_2 _ _,?_⟩;show wpAny _ A.in1.in1 (do let old←Builtin.List.listItems (.ref s.heap.objs.size);Builtin.List.listUpdate (.ref s.heap.objs.size) (fun Z=>#[]);letGo old.toList.reverse;Builtin.List.listExtendWith (.ref s.heap.objs.size) (.bytes x t) .none) _ _ _;refine qC ?_;unfold Builtin.List.listItems;refine qC (kE hS rfl (qI ?_));show wpAny _ A.in1.in1 (updateSeq s.heap.objs.size (fun Z=>#[]) >>= fun Z=>letGo (#[]:Array Value).toList.reverse >>= fun Z=>Builtin.List.listExtendWith (.ref s.heap.objs.size) (.bytes x t) .none) _ _ _;refine qC (wpAny_updateSeq hS rfl ?_);have hS₂:=Heap.get?_update_self (Obj.mapSeq (fun Z=>(#[]:Array Value))) hS rfl;refine qC (ZB ?_);unfold Builtin.List.listExtendWith;refine qC (wpAny_typeOf (typeIs_bytes _ _ _) ?_);simp only[(rfl:Builtin.List.listSameRef (.ref s.heap.objs.size) (.bytes x t)=false),(by exact rfl:(Value.type "bytes" == Value.type "list")=false),(by exact rfl:(Value.type "bytes" == Value.type "tuple")=false),Bool.or_false,Bool.false_eq_true,if_false];refine qC (KBw.pyIter_bytes ?_);refine qC (xS ?_);unfold Builtin.List.listLengthHint;refine qC (w4 (typeIs_bytes _ _ _) BZ ?_);dsimp only;rw[VW];dsimp only;refine qC (z2 (b:=true) (typeIs_bytes _ _ _) F.bm_sub ?_);refine bm_if_false rfl ?_;refine bm_if_true (by decide +kernel) ?_;refine qC (wpAny_typeOf (typeIs_bytes _ _ _) (qI ?_));refine bm_if_false (by decide +kernel) ?_;refine qI ⟨plainId_quiet HD _,?_⟩;generalize hS₃:(s.heap.push {cls:=.type "list",data:=.seq #[]}).update s.heap.objs.size (Obj.mapSeq fun Z=>#[])=hp at *;have hsz:hp.objs.size=s.heap.objs.size+1:=by
    rw[← hS₃,(Heap.SameBut.update ..).1,Heap.size_push]
  have keep:∀b o,s.heap.get? b=some o→hp.get? b=some o:=fun b o e=>by
    rw[← hS₃,Heap.get?_update_other _ _ (Ne.symm (Nat.ne_of_lt (Heap.lt_size e)))];exact Heap.get?_push_of_some _ e
  refine PS (A:=A.in1) (I:=hp.objs.size) (S:=s.heap.objs.size) (x:=x) (t:=t) (t0:=s.toks) hh (by rw[hsz];exact Nat.succ_ne_self _) hz x.size 0 _ rfl (wJ _) ⟨_,Heap.get?_push_size _ rfl,rfl,rfl⟩ ⟨_,(Heap.get?_push_of_some _ hS₂)⟩ rfl fun h' c' hk hz3 hS3=>?_;refine⟨rfl,hQ h' c' (fun b o e=>hk b o ?_ ?_ (Heap.get?_push_of_some _ (keep b o e))) ?_ hS3⟩
  · simp only[hsz];exact qM (yL (qJ e))
  · exact qM (qJ e)
  · have:(hp.push {cls:=.type "bytes_iterator",data:=.fields #[.bytes x t,.int 0 0]}).objs.size≤h'.objs.size:=hz3;rw[Heap.size_push] at this;exact(qU (qV (zH (qL hsz.symm)) this))
end
end Mine
namespace Mine
noncomputable def Fz.tkl (F:Fz)(t:Nat):List Dat→Fz
  | []=>F
  | d::r=>Fz.tkl (F.tk t d) (t+1) r
section
variable {prog:Program}{w:World}{W:Wd}{k:Nat}{s:Shared}{F:Fz}
theorem K8 (t:Nat):∀(ds:List Dat) (F:Fz) (s:Shared),wC W s F→s.toks=t→∃h:wC W {s with toks:=t+ds.length} (F.tkl t ds),q0 W s {s with toks:=t+ds.length} F (F.tkl t ds):=by
  intro ds
  induction ds generalizing t with
  | nil =>
    intro F s b e;subst e;exact⟨b,q0.refl b⟩
  | cons d r ih =>
    intro F s b e;subst e;have g:=q0.tk b d;obtain⟨b2,g2⟩:=ih (s.toks+1) (F.tk s.toks d) {s with toks:=s.toks+1} (b.grow g) rfl;rw[(by simp only[List.length_cons];exact(Nat.add_right_comm _ _ _):s.toks+1+r.length=s.toks+(d::r).length)] at b2 g2;exact⟨b2,g.trans g2⟩
theorem Q8:∀(ds:List Dat) (t:Nat) (F:Fz),F.le (F.tkl t ds)
  | [],_,F=>.rfl
  | d::r,t,F=>(F.le_tk t d).trans (Q8 r (t+1) _)
noncomputable def gA (t:Nat):List Int→List Value
  | []=>[]
  | n::r=>.int n t::gA (t+1) r
theorem m6:∀(ns:List Int) (t:Nat) (F:Fz),xV (F.tkl t (ns.map Dat.int)) (gA t ns) (ns.map Dat.int)
  | [],_,_=>.nil
  | n::r,t,F=>.cons (xQ.mono (Q8 (r.map Dat.int) (t+1) (F.tk t (.int n))) xQ.tk_int) (m6 r (t+1) (F.tk t (.int n)))
theorem dS (f:Nat→Int):∀(n t a:Nat),gA t ((List.range' a n).map f)=(List.range' a n).map fun j=>Value.int (f j) (t+(j-a))
  | 0,_,_=>rfl
  | n+1,t,a=>by
    show Value.int (f a) t::gA (t+1) ((List.range' (a+1) n).map f)=Value.int (f a) (t+(a-a))::(List.range' (a+1) n).map fun j=>Value.int (f j) (t+(j-a));rw[dS f n (t+1) (a+1),Nat.sub_self,Nat.add_zero];congr 1;apply zN;intro j hj;have hj1:a+1≤j:=(List.mem_range'_1.mp hj).1;show Value.int (f j) (t+1+(j-(a+1)))=Value.int (f j) (t+(j-a));rw[(by exact(ZO [_,_,_,_,_] [] (.l (.v 3) (.p (.v 1) (.p (.v 4) (.n 1)))) (.e (.p (.v 1) (.p (.v 4) (.n 1))) (.v 3)) (.l (.v 3) (.p (.v 2) (.v 4))) (.e (.p (.v 2) (.v 4)) (.v 3)) [0,1,1,0] [1,0,0,1] (.e (.p (.p (.v 0) (.n 1)) (.v 1)) (.p (.v 0) (.v 2))) 1 1 rfl (jR _ _) (Nat.sub_add_cancel hj1) (jR _ _) (Nat.sub_add_cancel (zT [_,_] [] (.l (.p (.v 0) (.n 1)) (.v 1)) [1] (.l (.v 0) (.v 1)) 1 rfl hj1))):t+1+(j-(a+1))=t+(j-a))]
noncomputable def p0 (x:Array UInt8):List Int:=x.toList.map fun c=>((c.toNat:Nat):Int)
theorem nU (x:Array UInt8):p0 x=(List.range x.size).map fun j=>(((x.getD j 0).toNat:Nat):Int):=by
  unfold p0;apply kT
  · simp
  · intro i h1 h2;simp at h1;simp[h1]
theorem VY (x:Array UInt8)(t:Nat):KV x t x.size=gA t (p0 x):=by
  simp only[nU,List.range_eq_range',dS];unfold KV;simp only[List.range_eq_range'];apply zN;intro j _;rw[Nat.sub_zero]
theorem lS (x:Array UInt8):(p0 x).length=x.size:=by simp[p0]
theorem eA {prog:Program}{x:Array UInt8}(hz:x.size≤sizeLine):Calls prog w W k (.type "list") [.dat (.bytes x)] (.dat (.list ((p0 x).map Dat.int))):=fun s F vs b hv A Q E rm q=>by
  refine hv.e1 fun Z h1=>?_;refine xQ.eBytes h1 fun Z=>?_;refine n8 rm.handled hz fun h' c' hk hz1 hS=>?_;have g1:q0 W s {s with heap:=h'} F F:=q0.of_keeps [] b hk (fun Z h=>nomatch h) hz1 (qH _) rfl .rfl;obtain⟨b2,g2⟩:=K8 (W:=W) s.toks ((p0 x).map Dat.int) F {s with heap:=h'} (b.grow g1) rfl;rw[List.length_map,lS] at g2;rw[VY] at hS;exact q _ _ _ ((g1.trans g2).freeze (qH _) hS) (.list (.head _) ((m6 _ _ _).mono (Fz.le_ob _ _ _)))
end
end Mine
namespace Mine
noncomputable def nm (m:Nat):Str:=⟨(((List.range 5).filter fun i=>m.testBit i).map fun i=>97+i).toArray⟩
noncomputable def kR (p:Nat):List Nat:=if p=0 then[0,1,2,4,8,3,5,9,6,10,12,7,11,13,14,15]
  else[0,1,2,4,8,16,3,5,9,17,6,10,18,12,20,24,7,11,19,13,21,25,14,22,26,28,15,23,27,29,30,31]
noncomputable def xO (p:Nat):List Str:=(kR p).map nm
noncomputable def zV (p:Nat):Str:=if p=0 then "abcd" else "abcde"
noncomputable def xD (p:Nat):List Int:=if p=0 then[1,4,6,4,1] else[1,5,10,10,5,1]
noncomputable def JG (p:Nat):List Nat:=if p=0 then[0,1,5,11,15,12,6,13,7,2,8,14,9,3,10,4]
  else[0,1,6,16,26,31,27,17,28,18,7,19,29,20,8,21,9,2,10,22,30,23,11,24,12,3,13,25,14,4,15,5]
noncomputable def mD (p:Nat):List Str:=(JG p).map fun i=>(xO p).getD i Str.empty
theorem QV {p:Nat}(hp:p=0 ∨ p=1):iG (fun i j=>FT ((wM (zV p).cps.toList).getD i Str.empty) ((wM (zV p).cps.toList).getD j Str.empty)) (wM (zV p).cps.toList).length (kas_sort (wM (zV p).cps.toList).length)=some (kR p).toArray:=by
  rcases hp with rfl | rfl<;>decide +kernel
theorem GT {p:Nat}(hp:p=0 ∨ p=1):((kR p).toArray.toList.map fun i=>(wM (zV p).cps.toList).getD i Str.empty)=xO p:=by
  rcases hp with rfl | rfl<;>decide +kernel
theorem GS {p:Nat}(hp:p=0 ∨ p=1):∀i∈(kR p).toArray.toList,i<(wM (zV p).cps.toList).length:=by
  rcases hp with rfl | rfl<;>decide +kernel
theorem WL {p:Nat}(hp:p=0 ∨ p=1):iG (fun i j=>HB ((xO p).getD i Str.empty) ((xO p).getD j Str.empty)) (xO p).length (kas_sort (xO p).length)=some (JG p).toArray:=by
  rcases hp with rfl | rfl<;>decide +kernel
theorem K9 {p:Nat}(hp:p=0 ∨ p=1):∀i∈(JG p).toArray.toList,i<(xO p).length:=by
  rcases hp with rfl | rfl<;>decide +kernel
theorem eT {p:Nat}(hp:p=0 ∨ p=1):∀q∈(mD p).zip ((mD p).drop 1),KP q.1 q.2=-1∧KP q.2 q.1=1∧KP q.1 q.1=0:=by
  rcases hp with rfl | rfl<;>decide +kernel
end Mine
namespace Mine
noncomputable def TB:Nat→Nat→List (Nat×Nat×Nat×List Nat)
  | 0,0=>[(0,0,15,[])]
  | 0,1=>[(1,1,56,[0]),(2,1,38,[0]),(4,1,21,[0]),(8,1,11,[0])]
  | 0,2=>[(3,3,12,[2,1]),(5,5,10,[4,1]),(9,9,6,[8,1]),(6,6,9,[4,2]),(10,10,5,[8,2]),(12,12,3,[8,4])]
  | 0,3=>[(7,11,1,[6,5,3]),(11,21,1,[10,9,3]),(13,38,1,[12,9,5]),(14,56,1,[12,10,6])]
  | 0,4=>[(15,15,0,[14,13,11,7])]
  | _+1,0=>[(0,0,31,[])]
  | _+1,1=>[(1,1,960,[0]),(2,1,568,[0]),(4,1,294,[0]),(8,1,149,[0]),(16,1,75,[0])]
  | _+1,2=>[(3,3,896,[2,1]),(5,5,608,[4,1]),(9,9,336,[8,1]),(17,17,176,[16,1]),(6,6,524,[4,2]),(10,10,266,[8,2]),(18,18,134,[16,2]),(12,12,73,[8,4]),(20,20,37,[16,4]),(24,24,19,[16,8])]
  | _+1,3=>[(7,19,24,[6,5,3]),(11,37,20,[10,9,3]),(19,73,12,[18,17,3]),(13,134,18,[12,9,5]),(21,266,10,[20,17,5]),(25,524,6,[24,17,9]),(14,176,17,[12,10,6]),(22,336,9,[20,18,6]),(26,608,5,[24,18,10]),(28,896,3,[24,20,12])]
  | _+1,4=>[(15,75,1,[14,13,11,7]),(23,149,1,[22,21,19,7]),(27,294,1,[26,25,19,11]),(29,568,1,[28,25,21,13]),(30,960,1,[28,26,22,14])]
  | _+1,5=>[(31,31,0,[30,29,27,23,15])]
  | _,_=>[]
noncomputable abbrev s7:=Nat×Nat×Nat×List Nat
noncomputable def gR (p:Nat):Nat:=2^(4+p)-1
noncomputable def aD (kept:jQ)(c:Nat):Option jQ:=(cA kept 64 c).map (keep kept)
noncomputable def Rk (cs:List Nat):Nat:=match cs.foldlM aD [] with | some k=>k.length | none=>1000
noncomputable def RF (p j:Nat):Nat:=Rk ((TB p j).map (·.2.1))
noncomputable def PR (rf size:Nat):List s7→jQ→List Nat→Nat→Bool
  | [],k,o,n=>(Rk o+rf+n==size+k.length)&&decide (k.length<8)&&decide (Rk o<8)
  | t::r,k,o,n=>PR rf size r k (t.2.2.1::o) n&&(match aD k t.2.1 with | some k'=>PR rf size r k' o (n+1) | none=>false)
noncomputable def oV:List s7→jQ→Nat→Nat→Bool
  | [],k,k1,n=>decide (k1+k.length≤n)&&decide (n≤k1+k.length+7)
  | t::r,k,k1,n=>oV r k k1 n&&(match aD k t.2.1 with | some k'=>oV r k' k1 n | none=>false)
noncomputable def Z9 (T:List s7):List s7→jQ→List Nat→Nat→Bool
  | [],k,E,n=>oV (T.filter fun t=>t.2.2.2.all fun e=>E.contains e) [] k.length n
  | t::r,k,E,n=>Z9 T r k E n&&(match aD k t.2.1 with | some k'=>Z9 T r k' (t.1::E) (n+1) | none=>false)
noncomputable def oU (v:Nat):List (s7×Str)→jQ→List Str→Bool
  | [],k,ps=>(v==(max 1 ps.length-1)+k.length+(if v=0 then 0 else 1))&&(ps.length==0)==(v==0)&&decide (ps.length≤5)
  | t::r,k,ps=>oU v r k ps&&(match aD k t.1.2.1 with | some k'=>oU v r k' (jE ps t.2) | none=>false)
noncomputable def sK (T:List (s7×Str)):List s7→List Nat→Bool
  | [],V=>oU V.length (T.filter fun t=>t.1.2.2.2.all fun e=>V.contains e) [] (V.map nm)
  | t::r,V=>sK T r V&&sK T r (V++[t.1])
theorem oW:∀p,p<2→∀j,j≤4+p→PR (RF p j) (TB p j).length (TB p j) [] [] 0=true:=by decide +kernel
theorem VT:Z9 (TB 1 3) (TB 1 2) [] [] 0=true:=by decide +kernel
end Mine
namespace Mine
theorem BU:sK ((TB 0 2).map fun t=>(t,nm t.1)) (TB 0 1) []=true:=by decide +kernel
theorem BT:sK ((TB 1 2).map fun t=>(t,nm t.1)) (TB 1 1) []=true:=by decide +kernel
end Mine
namespace Mine
section
variable (w:World)(W:Wd)(φ:Env→Prop)
noncomputable def gU (k:Nat)(sc:Scope)(fn:Bool)(Γ:xK)(ss:List Stmt)(o:dA):Prop :=
  ∀fr P s F,fr.env.scope=sc→St pw w W fr fn Γ P s F→∀(A:Around) (Q:Flow→Shared→Prop) (E:Value→Shared→Prop),zZ k A→s6 φ A fr →
    (∀fl s' F',o.ok pw w W fr fn P fl s' F'→F.le F'→Q fl s')→j3 (model pw w) A (execs ss fr.env) Q E s
end
section
variable {w:World}{W:Wd}{φ:Env→Prop}{k:Nat}{sc:Scope}{fn:Bool}{Γ Γ':xK}
theorem F1 {ss:List Stmt}{o:dA}(h:PY w W φ k sc fn Γ ss o):gU w W φ k sc fn Γ ss o:=fun fr P s F hsc st A Q E rm al q=>jU (h fr P s F hsc st A Q E rm al q)
theorem PQ {st:Stmt}{rest:List Stmt}{o:dA}(h:K1 w W φ k sc fn Γ st (.next Γ'))(hr:gU w W φ k sc fn Γ' rest o):gU w W φ k sc fn Γ (st::rest) o :=
  fun fr P s F hsc x A Q E rm al q=>vX (jU (h fr P s F hsc x A _ E rm al fun fl s' F' ho hF=>by
    obtain⟨rfl,x'⟩:=ho;exact hr fr P s' F' hsc x' A Q E rm al fun fl s'' F'' ho' hF'=>q fl s'' F'' ho' (hF.trans hF')))
theorem F2 {st:Stmt}{rest:List Stmt}{o:dA}(h:PZ pw w W k sc fn Γ st (.next Γ'))(hr:gU w W φ k sc fn Γ' rest o):gU w W φ k sc fn Γ (st::rest) o :=
  fun fr P s F hsc x A Q E rm al q=>vX (h fr P s F hsc x A _ E rm fun fl s' F' ho hF=>by
    obtain⟨rfl,x'⟩:=ho;exact hr fr P s' F' hsc x' A Q E rm al fun fl s'' F'' ho' hF'=>q fl s'' F'' ho' (hF.trans hF'))
theorem pX {st:Stmt}{rest:List Stmt}{o:dA}(h:nX pw w W k sc fn Γ st (.next Γ'))(hr:gU w W φ k sc fn Γ' rest o):gU w W φ k sc fn Γ (st::rest) o:=PQ (ZV h) hr
theorem BR {st:Stmt}{x:V}(h:nX pw w W k sc fn Γ st (.ret x)):gU w W φ k sc fn Γ [st] (.ret x):=F1 (aS (xR h))
theorem oQ {t:Expr}{body:List Stmt}{pos:Pos}{rest:List Stmt}{o:dA}(ht:eH w W φ k sc fn Γ t false)(hr:gU w W φ k sc fn Γ rest o):gU w W φ k sc fn Γ (.If t body [] pos::rest) o :=
  PQ (ZW ht (fun h=>nomatch h) fun Z=>aS wX) hr
end
noncomputable def uS (c:Nat)(env:Env):Prop:=env.code=.ref c∧env.qual=("law.<locals>.":Str)∧env.globals=mainGlobals
noncomputable def UH (w:World)(W:Wd)(k:Nat)(xs:List V)(r:V):Prop:=∀a,mA W (xC 36) a→∀s F vs,wC W s F→w8 pw w F vs xs →
  ∀(A:Around) (Q:Value→Shared→Prop) (E:Value→Shared→Prop),zZ k A→A.frames=some []→(∀v s' F',q0 W s s' F F'→Is pw w r F' v→Q v s')→j3 (model pw w) A (call (.ref a) vs) Q E s
section
variable {w:World}{W:Wd}{k:Nat}
theorem BC {c Pt:Addr}{x r:V}(T:sQ W 36 ("law.<locals>.<lambda>":Str) c Pt)
    (hex:gU w W (uS c) k (xC 36).scope true [("script",.val x)] (xC 36).body (.ret r)):UH w W (k+1) [x] r:=by
  intro a fn s F vs b hv A Q E rm hfr q;obtain⟨o,pm,code,doc,ho,hd,hc⟩:=fn.obj;have hcode:=T.code a o pm code doc fn.glob ho hd;subst hcode;have hp:uR (xC 36).scope ["script"]=true:=by exact rfl
  unfold uR at hp;simp only[Bool.and_eq_true,beq_iff_eq,Bool.not_eq_true',List.all_eq_true,Bool.or_eq_true] at hp;obtain⟨⟨⟨hk,hco⟩,hgen⟩,hkinds⟩:=hp;have vl:=hv.length;refine dD ?_;refine vN (fd:=docDef (xC 36).name (xC 36).params (xC 36).body (xC 36).scope pm (.ref c) doc) rm.depth (b.base _ _ ho) hd hco hgen rfl (hc.keeps b.base) ?_;have hb:bindArgs (docDef (xC 36).name (xC 36).params (xC 36).body (xC 36).scope pm (.ref c) doc) ⟨vs,[]⟩=pure ((["script"]:List Str).zip vs):=by
    match vs,vl with
    | [u],_=>rfl
  rw[hb];have hbm:((["script"]:List Str).zip vs).map (·.1)=(["script"]:List Str):=by
    rw[List.map_fst_zip];simp at vl ⊢; exact(qL vl.symm)
  have key:∀x∈(["script"]:List Str).zip vs,(xC 36).scope.names.lookup x.1=some .local ∨ (xC 36).scope.names.lookup x.1=some .cell:=fun x hx=>hkinds x.1 (z0 hx).1;refine qI (wD (z9 hk (fun x hx=>?_) fun env he s₁ X hz1 ht1=>?_))
  · rcases key x hx with h | h
    · exact .inl h
    · obtain⟨c,hc⟩:=wO (n:=s.heap.objs.size+1) (acc:=[]) (.inl (mem_of_lookup h));exact .inr ⟨h,by show((cellsFrom (s.heap.objs.size+1) (xC 36).scope.names []).lookup x.1).isSome=true;rw[hc];rfl⟩
  · have es:env.scope=(xC 36).scope:=by rw[he];rfl
    have st:St pw w W ⟨s,F,env⟩ true ((["script"]:List Str).zip ([x].map Bd.val)) [] s₁ F:=y5 (sc:=(xC 36).scope) (binds:=(["script"]:List Str).zip vs) b hz1 ht1 (by rw[he];rfl) (by rw[he];rfl) es hk ⟨s.heap.objs.size+1,by rw[he];rfl⟩ X (by simp only[hbm];decide) fun y bd hy=>by
      refine zS fun nG=>?_;obtain⟨h1,x,v,e1,e2,e3⟩:=wW hv hy;refine nG ?_;exact⟨hkinds y h1,x,v,e1,e2,e3⟩
    refine⟨W.nolimit.keeps (fun a o e=>X.toInCall.keep a o (b.base a o e)),sF ?_⟩;refine hex ⟨s,F,env⟩ [] s₁ F es st _ _ _ (rm.deeper env) ⟨s5 hfr,by rw[he];rfl,by rw[he];exact⟨rfl,rfl,rfl⟩⟩ fun fl s' F' ho' hF'=>?_;obtain⟨v,rfl,hv',st'⟩:=ho';exact q v s' F' st'.grow hv'
theorem lB:∀(ns:List Int) (v:Int) (q:Nat),jP ns (some v) q≠.err
  | [],_,_=>by dsimp only[jP];exact fun h=>nomatch h
  | x::r,v,q=>by
    dsimp only[jP];split
    · exact fun h=>nomatch h
    · split
      · exact fun h=>nomatch h
      · cases q with
        | zero=>exact fun h=>nomatch h
        | succ j=>exact lB r x j
theorem KA {x:Int}{r:List Int}(hx:x≠0)(q:Nat):jP (x::r) none q≠.err:=by
  dsimp only[jP];split
  · exact fun h=>nomatch h
  · cases q with
    | zero=>exact fun h=>nomatch h
    | succ j=>exact lB r x j
theorem fW {p:Nat}(en:List Int):∀q,jP (xD p++en) none q≠.err:=by
  intro q;unfold xD;split<;>exact KA (by decide) q
end
end Mine
namespace Mine
variable {w:World}{W:Wd}{k:Nat}{c:Nat}
noncomputable abbrev il (l:List Int):Dat:=.list (l.map Dat.int)
theorem YK (a b:List Int):il (a++b)=.list (a.map Dat.int++b.map Dat.int):=by
  show Dat.list _=_;rw[List.map_append]
theorem XT {x y:Str}:p5 pw w W k .NotEq (.dat (.str x)) (.dat (.str y)) (.dat (.bool (x.cps.toList != y.cps.toList))):=fun s F u v bs hu hv A Q E rm q=>by
  cases hu;cases hv;exact P.ne_str (q _ _ _ (q0.refl bs) (.bool _))
theorem P8 (n:Nat)(l:List Int):kqdOk (n+1) (il l)=true:=by
  unfold kqdOk;rw[List.all_map];exact List.all_eq_true.mpr fun x Z=>by cases n<;>rfl
noncomputable def mU (p:Nat)(en:List Int):List Int:=if en=[2,0] then xD p++[2,2,2] else xD p
noncomputable def yS:List (List Int):=[[127,1],[2,0],[]]
theorem BG {ns:List Int}{cnt:Nat}(h:∀i,i<cnt→(match jP ns none i with | .y _=>true | _=>false)=true):∀i,i<cnt→∃v,jP ns none i=.y v:=fun i hi=>by
  have:=h i hi;cases e:jP ns none i with
  | y v=>exact⟨v,rfl⟩
  | fin=>rw[e] at this;cases this
  | err=>rw[e] at this;cases this
theorem BH {ns:List Int}{cnt:Nat}(h:(match jP ns none cnt with | .fin=>true | _=>false)=true):jP ns none cnt=.fin:=by
  cases e:jP ns none cnt with
  | y v=>rw[e] at h;cases h
  | fin=>rfl
  | err=>rw[e] at h;cases h
theorem aE (ok:bX W){ns res:List Int}{most cnt:Nat}(hne:∀q,jP ns none q≠.err)(hout:∀i,i<cnt→(match jP ns none i with | .y _=>true | _=>false)=true)(hcm:cnt≤most)(hend:cnt=most ∨ (match jP ns none cnt with | .fin=>true | _=>false)=true)(hmm:most≤1000)
    (hr:(List.range cnt).map (n6 ns)=res):jM w W (k+5) 29 [.dat (il ns),.dat (.int (most:Int))] (.dat (il res)):=by
  have:=JI (w:=w) (k:=k) ok hne (BG hout) hcm (hend.imp id BH) hmm;simp only[← hr];show jM w W (k+5) 29 _ (.dat (.list (((List.range cnt).map (n6 ns)).map Dat.int)));simp only[List.map_map];exact this
theorem UU (ok:bX W){p:Nat}(hp:p=0 ∨ p=1){en:List Int}(he:en∈yS):jM w W (k+5) 29 [.dat (il (xD p++en)),.dat (.int (((xD p).length+3:Nat):Int))] (.dat (il (mU p en))):=by
  have h3:en=[127,1] ∨ en=[2,0] ∨ en=[]:=by simpa[yS] using he
  rcases h3 with rfl | rfl | rfl
  · exact aE ok (cnt:=(xD p).length) (fW _) (by rcases hp with rfl | rfl<;>decide) (by exact(qR _ _)) (.inr (by rcases hp with rfl | rfl<;>exact rfl)) (by rcases hp with rfl | rfl<;>exact qA rfl) (by rcases hp with rfl | rfl<;>exact rfl)
  · exact aE ok (cnt:=(xD p).length+3) (fW _) (by rcases hp with rfl | rfl<;>decide) (by exact(qH _)) (.inl rfl) (by rcases hp with rfl | rfl<;>exact qA rfl) (by rcases hp with rfl | rfl<;>exact rfl)
  · exact aE ok (cnt:=(xD p).length) (fW _) (by rcases hp with rfl | rfl<;>decide) (by exact(qR _ _)) (.inr (by rcases hp with rfl | rfl<;>exact rfl)) (by rcases hp with rfl | rfl<;>exact qA rfl) (by rcases hp with rfl | rfl<;>exact rfl)
theorem uC {a b:Int}(h:b.natAbs.log2≤1000):Builtin.divisionGoesByPylong a b=false:=by
  unfold Builtin.divisionGoesByPylong;have:¬((if(b==0)=true then 0 else b.natAbs.log2/30+1)>300):=by
    split<;>(first | decide | exact(xB (kN [b.natAbs.log2/30,b.natAbs.log2] [] (.l (.v 1) (.n 1000)) (.l (.w (.v 0) 30) (.v 1)) [1,1] (.l (.p (.v 0) (.n 1)) (.n 300)) 30 rfl h (zD _ _))))
  show(decide ((if(b==0)=true then 0 else b.natAbs.log2/30+1)>300)&&_)=false;rw[decide_eq_false this];rfl
noncomputable def G1 (ns cs:List Int)(p:Nat):xK:=[("told",.val (.dat (il (xD p)))),("tellings",.val (.dat (.list (yS.map fun en=>il (mU p en))))),("sizes",.val (.dat (il (xD p)))),("letters",.val (.dat (.str (zV p)))),
  ("total",.val (.dat (.int cs.sum))),("cells",.val (.dat (il cs))),("script",.val (.dat (il ns)))]
theorem U9 (T:uX W){ns cs:List Int}{p:Nat}(hcs:z8 ns=cs)(hn:ns.length≤1000)(hp:p=0 ∨ p=1)(hT:cs.sum.fmod 2=p)
    (hfit:∀i,i<cs.length→InLong (cs.getD i 0)∧InLong ((cs.take (i+1)).sum))
    (h:gU w W (uS c) (k+8) (xC 36).scope true (G1 ns cs p) ((xC 36).body.drop 7) (.ret (.dat (.bool true)))) :
    gU w W (uS c) (k+8) (xC 36).scope true [("script",.val (.dat (il ns)))] (xC 36).body (.ret (.dat (.bool true))):=by
  have ok:=T.ok;have hz2:sizeLine=16777216:=rfl;refine pX (xJ (zW ok (JM ok hn) (qE (qD rfl) qN)) (.inl rfl)) ?_;rw[hcs];refine pX (xJ (yI (zA ok (by decide) rfl (by decide +kernel)) (qE (qD rfl) qN) (UF hfit)) (.inr ⟨rfl,rfl⟩)) ?_;have hm:∀{Γ:xK},Γ.lookup ("total":Str)=some (.val (.dat (.int cs.sum)))→∀{a b d n},Ev pw w W (k+8) (xC 36).scope true Γ (.BinOp (.Name "total" a) .Mod (.Constant (.int (Int.ofNat 2)) n b) d) (.dat (.int p)):=fun hl=>by
    intro a b d n;simp only[← hT];exact xF (qD hl) qX (yU (by decide))
  refine pX (xJ (x:=.dat (.str (zV p))) ?_ (.inr ⟨rfl,rfl⟩)) ?_
  · rw[show zV p=b9 "abcde" (4+p) by rcases hp with rfl | rfl<;>exact rfl];exact nP (n:=4+p) tX (kH (xF qX (hm rfl) kB)) (by exact qA rfl)
  refine pX (xJ (x:=.dat (il (xD p))) (Y5 (c:=decide (p=0)) (zR (hm rfl) qX uI (by
      have:((p:Int)==0)=decide (p=0):=by rcases hp with rfl | rfl<;>rfl
      rw[this];exact x8)) (fun h=>?_) (fun h=>?_)) (.inr ⟨rfl,rfl⟩)) ?_
  · have:p=0:=by simpa using h
    subst this;exact wS (ds:=[.int 1,.int 4,.int 6,.int 4,.int 1]) (qE qX (qE qX (qE qX (qE qX (qE qX qN)))))
  · have:p=1:=by rcases hp with rfl | rfl;cases h;rfl
    subst this;exact wS (ds:=[.int 1,.int 5,.int 10,.int 10,.int 5,.int 1]) (qE qX (qE qX (qE qX (qE qX (qE qX (qE qX qN))))))
  have hsz:(xD p).length≤6:=by rcases hp with rfl | rfl<;>exact qA rfl
  have hlen:∀{sc fn} {Γ:xK},Γ.lookup ("sizes":Str)=some (.val (.dat (il (xD p))))→List.lookup ("len":Str) sc.names=some .globalImplicit→∀{a b d},Ev pw w W (k+8) sc fn Γ (.Call (.Name "len" a) [.Name "sizes" b] [] d) (.dat (.int ((xD p).length:Int))):=fun hl hk=>by
    intro a b d;have:=w7 (prog:=pw) (w:=w) (W:=W) (k:=k+8) (ds:=(xD p).map Dat.int) (by simp;exact(qB hsz (by exact qA rfl)));simp only[List.length_map] at this;exact yI (zA ok (by exact .head _) hk (by decide +kernel)) (qE (qD hl) qN) this
  refine pX (Γ':=("tellings",.val (.dat (.list (yS.map fun en=>il (mU p en)))))::_) (kG (by exact rfl) (lM (ds:=yS.map il) (yR (ds:=yS.map il) (qE (wS (ds:=[.int 127,.int 1]) (qE qX (qE qX qN)))
    (qE (wS (ds:=[.int 2,.int 0]) (qE qX (qE qX qN))) (qE (wS (ds:=[]) qN) qN)))) rfl) ?_ rfl (by exact rfl)) ?_
  · have e:(yS.map fun en=>il (mU p en))=[]++yS.flatMap fun en=>[il (mU p en)]:=by simp only[xG];rfl
    simp only[e,List.map_map];refine UE (by rw[xG];show 0+3≤sizeLine;exact qA rfl) fun en hen=>?_;refine⟨_,true,xY (.inl rfl),xX rfl,wH,fun Z=>x9 (zW ok (UU (k:=k+3) ok hp hen) (qE ?_ (qE ?_ qN))),fun h=>nomatch h⟩
    · simp only[YK];have he6:en.length≤2:=by
        have h3:en=[127,1] ∨ en=[2,0] ∨ en=[]:=by simpa[yS] using hen
        rcases h3 with rfl | rfl | rfl<;>exact qA rfl
      exact xF (qD rfl) (qD rfl) (zU (by simp only[List.length_map];exact(qB (w0 hsz he6) (by exact qA rfl))))
    · exact xF (hlen rfl rfl) qX kB
  refine oQ (nN (vT (a:=false) (bQ (zR (qD rfl) (wS (ds:=[il (xD p),il (xD p++[2,2,2]),il (xD p)]) (qE (qD rfl) (qE ?_ (qE (qD rfl) qN)))) (vF (c:=true) ?_ ?_ ?_) x8))
    fun Z=>vT (a:=false) (Y1 (cW (k:=k+7) (msg:=KW) ok (fun a fn=>JO (k:=k+2) (r:=xD p) (most:=2) ok (by exact qA rfl) (by exact qA rfl) fn) (uG ?_) (uG qX)) (uG tX) ?_ x8) fun Z=>nO)) ?_
  · simp only[YK];exact xF (qD rfl) (wS (ds:=[.int 2,.int 2,.int 2]) (qE qX (qE qX (qE qX qN)))) (zU (by simp only[List.length_map];show _+3≤_;exact(qB (sT hsz _) (by exact qA rfl))))
  · exact⟨fun Z=>rfl,fun Z=>rfl⟩
  · intro d hd;obtain⟨en,_,rfl⟩:=qS hd;exact P8 _ _
  · intro d hd;simp only[List.mem_cons,List.not_mem_nil,or_false] at hd;rcases hd with rfl | rfl | rfl<;>exact P8 _ _
  · exact xF (wS (ds:=[.int 0]) (qE qX qN)) (qD rfl) (zU (by simp only[List.length_map];show 1+_≤_;exact(qB (qZ hsz _) (by exact qA rfl))))
  · exact XT
  refine pX (Γ':=G1 ns cs p) (xJ (x:=.dat (il (xD p))) ?_ (.inr ⟨rfl,rfl⟩)) h;have h3:∃j:Nat,(cs.sum.fdiv 64).fmod 3=(j:Int)∧j<3:=by
    have h1:=zJ (cs.sum.fdiv 64) (show(0:Int)<3 by decide);exact⟨((cs.sum.fdiv 64).fmod 3).toNat,by exact(gO (FK h1)),by exact(GB h1 (wQ (cs.sum.fdiv 64) (show(0:Int)<3 by decide)))⟩
  obtain⟨j,hj,hj3⟩:=h3
  have hi:Ev pw w W (k+8) (xC 36).scope true (("tellings",.val (.dat (.list (yS.map fun en=>il (mU p en)))))::("sizes",.val (.dat (il (xD p))))::("letters",.val (.dat (.str (zV p))))::("total",.val (.dat (.int cs.sum)))::("cells",.val (.dat (il cs)))::("script",.val (.dat (il ns)))::[])
      (.BinOp (.BinOp (.Name "total" ⟨194,20,194,25⟩) .FloorDiv (.Constant (.int (Int.ofNat 64)) 0 ⟨194,29,194,31⟩) ⟨194,20,194,31⟩) .Mod (.Constant (.int (Int.ofNat 3)) 0 ⟨194,34,194,35⟩) ⟨194,20,194,35⟩) (.dat (.int (j:Int))):=by
    simp only[← hj];exact xF (xF (qD rfl) qX (vV (by decide) (uC (by exact qA rfl)))) qX (yU (by decide))
  have hd:∃l r:List Int,(yS.map fun en=>il (mU p en))[j]?=some (il l)∧l=xD p++r∧r.length≤3:=by
    match j,hj3 with
    | 0,_=>exact⟨xD p,[],rfl,by simp,by exact qA rfl⟩
    | 1,_=>exact⟨xD p++[2,2,2],[2,2,2],rfl,rfl,by exact qA rfl⟩
    | 2,_=>exact⟨xD p,[],rfl,by simp,by exact qA rfl⟩
  refine zS fun nG=>?_;obtain⟨l,r,hd,rfl,hr⟩:=hd;have:=d7 (l:=xD p++r) (h:=Dat.int) (n:=(xD p).length) (p:=⟨194,37,194,48⟩) (pos:=⟨194,11,194,49⟩) (jG (pos:=⟨194,11,194,36⟩) (qD (y:="tellings") (pos:=⟨194,11,194,19⟩) rfl) hi (kO (by exact(xM _)) (by exact(eO hj3 (by decide))) (by simp only[Int.toNat_natCast];exact hd))) (kH (hlen rfl rfl (a:=⟨194,38,194,41⟩) (b:=⟨194,42,194,47⟩) (d:=⟨194,38,194,48⟩))) (by rw[List.length_append];exact(qB (w0 hsz hr) (by exact qA rfl)));refine nG ?_;rw[List.take_left'] at this
  · exact this
  · rfl
end Mine
namespace Mine
variable {w:World}{W:Wd}{k:Nat}{c:Nat}
noncomputable abbrev LV (l:List (List Str)):Dat:=.list (l.map wL)
noncomputable def jW (p:Nat)(cs:List Int):List Str:=(cs.take ((cs.getD 6 0).fmod 7).toNat).map fun x=>(xO p).getD (x.fmod ((xO p).length:Int)).toNat Str.empty
noncomputable def uB (p:Nat)(cs:List Int):Array UInt8:=byteArr (uQ (xO p) (jW p cs))
noncomputable def v0 (p:Nat)(cs:List Int):Array UInt8:=yN (uB p cs) (uB p cs).size
noncomputable def v7 (p:Nat)(cs:List Int):List Int:=(p0 (v0 p cs)).map fun a=>Builtin.bitXor a 1
noncomputable def kD (p:Nat)(cs:List Int):List (List Str):=vE (xO p) (fun j=>(((uB p cs).getD j.toNat 0).toNat:Int)) (xD p)
noncomputable def yC (p:Nat)(cs:List Int):List (List Str):=vE (xO p) (fun j=>(v7 p cs).getD j.toNat 0) (xD p)
noncomputable def G2 (ns cs:List Int)(p:Nat):xK:=("others",.val (.dat (LV (yC p cs))))::("levels",.val (.dat (LV (kD p cs))))::("turned",.val (.dat (.bytes (v0 p cs))))::("row",.val (.dat (.bytes (uB p cs))))::("names",.val (.dat (wL (xO p))))::G1 ns cs p
theorem W1 {p:Nat}(hp:p=0 ∨ p=1):(xO p).length≤32∧16≤(xO p).length:=by rcases hp with rfl | rfl<;>decide
theorem iN {p:Nat}(hp:p=0 ∨ p=1):∀t∈xO p,t.cps.all (·<128)=true∧t.length≤5:=by rcases hp with rfl | rfl<;>decide +kernel
theorem l8 {p:Nat}(hp:p=0 ∨ p=1)(cs:List Int):∀t∈jW p cs,t.cps.all (·<128)=true∧t.length≤5:=fun t ht=>by
  obtain⟨x,_,rfl⟩:=qS ht;rw[List.getD_eq_getElem?_getD];cases e:(xO p)[(x.fmod ((xO p).length:Int)).toNat]? with
  | none=>exact⟨by decide +kernel,by decide +kernel⟩
  | some y=>exact iN hp y (List.mem_of_getElem? e)
theorem mE {α β:Type}{l:List α}{f:α→List β}{n:Nat}(h:∀x∈l,(f x).length≤n):(l.flatMap f).length≤l.length*n:=by
  induction l with
  | nil=>exact wJ _
  | cons a r ih =>
    simp only[List.flatMap_cons,List.length_append,List.length_cons,Nat.succ_mul];exact(qB (w0 (h a (.head _)) (ih fun x hx=>h x (.tail _ hx))) (qL (yB _ _)))
theorem iH (p:Nat)(cs:List Int):(uB p cs).size=(xO p).length:=by
  unfold uB byteArr uQ;simp
theorem rK (x:Array UInt8)(c:Nat):(yN x c).size=x.size:=by
  unfold yN;rw[p6];simp
theorem eS (p:Nat)(cs:List Int):(v0 p cs).size=(xO p).length:=by
  unfold v0;rw[rK];exact iH p cs
theorem dU {ds:List Dat}{α:Type}{l:List α}{f:α→Dat}{d:α}{i:Nat}(h:i<l.length):(l.map f)[i]?=some (f (l.getD i d)):=by
  simp only[List.getElem?_map,List.getD_eq_getElem?_getD,List.getElem?_eq_getElem h];rfl
theorem U8 (T:uX W){Pt:Addr}(t36:sQ W 36 ("law.<locals>.<lambda>":Str) c Pt){ns cs:List Int}{p:Nat}(hp:p=0 ∨ p=1)(h7:cs.length=7)
    (h:gU w W (uS c) (k+8) (xC 36).scope true (G2 ns cs p) ((xC 36).body.drop 13) (.ret (.dat (.bool true)))) :
    gU w W (uS c) (k+8) (xC 36).scope true (G1 ns cs p) ((xC 36).body.drop 7) (.ret (.dat (.bool true))):=by
  have ok:=T.ok;have hz2:sizeLine=16777216:=rfl;have hN:=W1 hp
  refine PQ (Γ':=("names",.val (.dat (wL (xO p))))::G1 ns cs p) (nK (oA (k:=k+5) T t36 (zA ok (by decide) rfl (by decide +kernel)) (fun env h=>h)
    (zW ok (ZJ ok (x:=zV p) (by rcases hp with rfl | rfl<;>decide +kernel) (by rcases hp with rfl | rfl<;>decide +kernel)) (qE (qD rfl) qN)) (by rcases hp with rfl | rfl<;>decide +kernel) (by rcases hp with rfl | rfl<;>decide +kernel)
    (fun Z=>rfl) (fun Z=>rfl) (fun Z Z Z=>Q7 fun Z=>rfl) (by exact rfl) (fun x hx=>yR (ds:=[.int (x.length:Int),.str x]) (qE (yI (zA ok (by exact .head _) rfl (by decide +kernel)) (qE (qD rfl) qN) (vW (by have:=(by rcases hp with rfl | rfl<;>decide +kernel:∀x∈wM (zV p).cps.toList,x.length≤5) x hx;exact(qB this (by exact qA rfl)))))
      (qE (zW ok mX (qE (qD rfl) qN)) qN))) (QV hp) (GS hp) (GT hp)) (.inr ⟨rfl,rfl⟩)) ?_
  have hm:∃m:Nat,(cs.getD 6 0).fmod 7=(m:Int)∧m<7:=by
    have h1:=zJ (cs.getD 6 0) (show(0:Int)<7 by decide);exact⟨((cs.getD 6 0).fmod 7).toNat,by exact(gO (FK h1)),by exact(GB h1 (wQ (cs.getD 6 0) (show(0:Int)<7 by decide)))⟩
  obtain⟨m,hm,hm7⟩:=hm;have htops:jW p cs=(cs.take m).map fun x=>(xO p).getD (x.fmod ((xO p).length:Int)).toNat Str.empty:=by unfold jW;rw[hm];rfl
  refine pX (Γ':=("row",.val (.dat (.bytes (uB p cs))))::("names",.val (.dat (wL (xO p))))::G1 ns cs p) (xJ (zW ok (UV (k:=k+5) (names:=xO p) (tops:=jW p cs) ok (by exact(qB hN.1 (by exact qA rfl))) (fun t ht=>⟨(l8 hp cs t ht).1,qB (l8 hp cs t ht).2 (by exact qA rfl)⟩) ?_) (qE (qD rfl) (qE ?_ qN))) (.inl rfl)) ?_
  · have:(jD (jW p cs)).length≤(jW p cs).length*32:=mE fun t ht=>by
      rw[fO];have:=(l8 hp cs t ht).2;exact qB (xZ (by exact qA rfl) (show t.cps.toList.length≤5 by simpa[Str.length] using this)) (by exact qA rfl)
    exact(qB this (qB (yV _ (by rw[htops];simp;exact(FR (qU hm7)):(jW p cs).length≤7)) (by exact qA rfl)))
  · have e:(jW p cs).map Dat.str=(cs.take m).flatMap fun x=>[Dat.str ((xO p).getD (x.fmod ((xO p).length:Int)).toNat Str.empty)]:=by
      simp only[xG,htops,List.map_map];rfl
    simp only[e];refine vJ _ (by exact rfl) (z6 (h:=Dat.int) (d7 (n:=m) (qD rfl) (kH ?_) (by exact(qB (qL h7) (by exact qA rfl))))) (fun x hx=>?_) (by rw[xG];simp;exact(FR (qU (qK hm7 (by exact qA rfl)))))
    · simp only[← hm];exact xF (jG (qD rfl) qX (kO (by decide) (by decide) (dU (ds:=[]) (by exact(qK (qO (qH _)) (qL h7.symm))):(cs.map Dat.int)[6]?=some (.int (cs.getD 6 0))))) qX (yU (by decide))
    · refine⟨_,true,xY (.inl rfl),xX rfl,wH,fun Z=>x9 (jG (qD rfl) (xF (qD rfl) (yI (zA ok (by exact .head _) rfl (by decide +kernel)) (qE (qD rfl) qN) (w7 (by rw[List.length_map];exact(qB hN.1 (by exact qA rfl))))) (yU ?_)) (kO ?_ ?_ ?_)),fun h=>nomatch h⟩
      · rw[List.length_map];exact(UK (qV (zM (qH _)) hN.2))
      · rw[List.length_map];exact zJ _ (by exact(lX (zM (qH _)) (FM hN.2)))
      · rw[List.length_map];have:=wQ x (show(0:Int)<((xO p).length:Int) by exact(zT [_] [] (.l (.n 16) (.v 0)) [1] (.T (.n 0) (.c (.v 0))) 1 rfl hN.2));exact(kN [(xO p).length] [x.fmod ↑(xO p).length] (.l (.v 0) (.n 32)) (.T (.z 0) (.c (.v 0))) [1,1] (.T (.z 0) (.n 9223372036854775808)) 1 rfl hN.1 this)
      · rw[List.length_map];exact dU (ds:=[]) (by exact(GB (zJ x (show(0:Int)<((xO p).length:Int) by omega)) (wQ x (show(0:Int)<((xO p).length:Int) by exact(lX (zM (qH _)) (FM hN.2))))))
  have hb:=iH p cs
  refine F2 (Γ':=("turned",.val (.dat (.bytes (v0 p cs))))::_) (nL (Y8 ok (nD (k:=k+7) (x:=uB p cs) (m:=1) (c:=(uB p cs).size) ok (by exact(QA [(uB p cs).size] [] [] [] (.e (.v 0) (.m 1 (.v 0))) 1 1 rfl)) (by exact(kN [(uB p cs).size,(xO p).length] [] (.l (.n 16) (.v 1)) (.e (.v 0) (.v 1)) [1,-1] (.t (.n 0) (.v 0)) 1 rfl hN.2 hb)) (by exact(kN [(uB p cs).size,(xO p).length] [] (.l (.v 1) (.n 32)) (.e (.v 0) (.v 1)) [1,1] (.l (.m 1 (.v 0)) (.n 100000)) 1 rfl hN.1 hb)) (by exact(qB (qL hb) (qB hN.1 (by exact qA rfl)))))
    (qE (qD rfl) (qE (yI (zA ok (by exact .head _) rfl (by decide +kernel)) (qE (qD rfl) qN) (nT (by exact(qB (qL hb) (qB hN.1 (by exact qA rfl)))))) qN))) (.inl rfl)) ?_
  refine oQ (nN (vT (a:=false) (Y0 (b:=true) (YZ (YX ok (JJ (k:=k+6) (l:=mD p) ok (by rcases hp with rfl | rfl<;>exact qA rfl) (eT hp) (by rcases hp with rfl | rfl<;>exact qA rfl)) (j5
      (oB (k:=k+5) (xs:=xO p) (outs:=mD p) ok (zA ok (by decide) rfl (by decide +kernel)) (qD rfl) rfl (by exact(J2 hN.2)) (by exact(qV hN.1 (by exact qA rfl))) (WL hp) (K9 hp) rfl) d6)) x8))
    fun Z=>vT (a:=false) (bQ (PK (b:=true) (mF (yI (zA ok (by decide) rfl (by decide +kernel)) (qE (qD rfl) (qE (oM (zA ok (by decide) rfl (by decide +kernel))) qN)) hO) x8))) fun Z=>nO)) ?_
  have hsum:(xD p).sum=((xO p).length:Int):=by rcases hp with rfl | rfl<;>exact rfl
  have hs0:∀n∈xD p,0≤n:=by rcases hp with rfl | rfl<;>decide
  have hs6:(xD p).length≤6:=by rcases hp with rfl | rfl<;>exact qA rfl
  refine pX (xJ (x:=.dat (LV (kD p cs))) (zW ok (rN (k:=k+6) (r:=fun j=>(((uB p cs).getD j.toNat 0).toNat:Int)) ok (fun j h0 hj=>lD h0 (c:=(uB p cs).getD j.toNat 0) ?_ (by exact(qB (qL hb) (qB hN.1 (by exact qA rfl))))) hs0 hsum (by exact(qB hN.1 (by exact qA rfl))) (by exact(qB hs6 (by exact qA rfl)))) (qE (qD rfl) (qE (qD rfl) (qE (qD rfl) qN)))) (.inl rfl)) ?_
  · have hlt:j.toNat<(uB p cs).size:=by lia
    simp only[Array.getElem?_eq_getElem hlt];simp[Array.getD,hlt]
  have ht:=eS p cs;refine pX (Γ':=G2 ns cs p) (xJ (x:=.dat (LV (yC p cs))) (zW ok (rN (k:=k+6) (x:=.dat (il (v7 p cs))) (r:=fun j=>(v7 p cs).getD j.toNat 0) ok (fun j h0 hj=>kO h0 (by exact(kN [_] [_] (.l (.v 0) (.n 32)) (.T (.z 0) (.c (.v 0))) [1,1] (.T (.z 0) (.n 9223372036854775808)) 1 rfl hN.1 hj)) (dU (ds:=[]) (by exact(GB h0 (Int.lt_of_lt_of_le hj (UL (qL (by unfold v7;simp only[List.length_map,lS];omega:(v7 p cs).length=(xO p).length).symm))))))) hs0 hsum (by exact(qB hN.1 (by exact qA rfl))) (by exact(zT [_] [] (.l (.v 0) (.n 6)) [1] (.l (.v 0) (.n 1000)) 1 rfl hs6))) (qE (qD rfl) (qE ?_ (qE (qD rfl) qN)))) (.inl rfl)) h;have e:(v7 p cs).map Dat.int=(v0 p cs).toList.flatMap fun c=>[Dat.int (Builtin.bitXor (c.toNat:Int) 1)]:=by
    simp only[xG];unfold v7 p0;rw[List.map_map,List.map_map];rfl
  show Ev _ _ _ _ _ _ _ _ (.dat (.list ((v7 p cs).map Dat.int)));simp only[e];refine vJ _ (by exact rfl) (KN (qD rfl) rfl) (fun x hx=>?_) (by simp only[xG,List.length_map,Array.length_toList];exact(qB (qL ht) (qB hN.1 (by exact qA rfl))));exact⟨_,true,xY (.inl rfl),xX rfl,wH,fun Z=>x9 (zW ok QR (qE (qD rfl) (qE qX qN))),fun h=>nomatch h⟩
end Mine
namespace Mine
variable {w:World}{W:Wd}{k:Nat}{c:Nat}
noncomputable def jX (p:Nat)(x:Str):Str:=⟨((zV p).cps.toList.filter fun c=>!decide (c∈x.cps.toList)).toArray⟩
noncomputable def G6:Str:="sequence.index(x): x not in sequence"
structure QB (p:Nat)(lv:List (List Str)):Prop where
  len:lv.length=5+p
  sz:∀l∈lv,l.length≤100
  nd:∀l∈lv,l.Nodup
  short:∀l∈lv,∀x∈l,x.length≤5
  mem:∀k l,lv[k]?=some l→∀x∈l,x∈xO p∧x.length=k
noncomputable def pos (x:Str)(l:List Str):Nat:=(idxOf x l).getD 0
theorem tT {x:Str}:∀{l:List Str},x∈l→∃n,idxOf x l=some n
  | a::r,h=>by
    dsimp only[idxOf];by_cases e:a=x
    · exact⟨0,by rw[if_pos e]⟩
    · rw[if_neg e];obtain⟨n,hn⟩:=tT (l:=r) ((qG h).resolve_left fun q=>e q.symm);exact⟨n+1,by rw[hn];rfl⟩
theorem cD {x:Str}{l:List Str}(h:x∈l):l[pos x l]?=some x∧∀i,i<pos x l→l[i]?≠some x:=by
  obtain⟨n,hn⟩:=tT h;have:pos x l=n:=by unfold pos;rw[hn];rfl
  rw[this];exact gB hn
theorem WR:∀{l:List Str},l.Nodup→l.map (fun x=>pos x l)=List.range l.length:=fun{l} nd=>by
  apply kT
  · simp
  · intro i h1 h2;simp only[List.length_map] at h1;obtain⟨h3,h4⟩:=cD (wF h1:l[i]∈l);simp only[List.getElem_map,List.getElem_range];obtain⟨h5,h6⟩:=List.getElem?_eq_some_iff.mp h3;rcases Nat.lt_trichotomy (pos l[i] l) i with hlt | he | hgt
    · exact absurd h6 (List.pairwise_iff_getElem.mp nd _ _ h5 h1 hlt)
    · exact he
    · exact absurd (List.getElem?_eq_getElem h1) (h4 i hgt)
theorem aC:∀a b:Str,Dat.str a=Dat.str b→a=b:=fun a b e=>by cases e;rfl
theorem ZQ:∀a b:Int,Dat.int a=Dat.int b→a=b:=fun a b e=>by cases e;rfl
noncomputable def gS:Int ⊕ Str→Dat
  | .inl i=>.int i
  | .inr x=>.str x
theorem BI:∀a b,gS a=gS b→a=b:=fun a b e=>by
  cases a<;>cases b<;>cases e<;>rfl
theorem PD:∀a,mB (gS a):=fun a=>by
  cases a
  · exact .int _
  · exact .str _
theorem W0 {p:Nat}(hp:p=0 ∨ p=1):∀x∈xO p,JoinOk ("":Str) (((zV p).cps.toList.filter fun c=>!decide (c∈x.cps.toList)).map fun c=>(⟨#[c]⟩:Str))=true ∧
    Txt.join ("":Str) (((zV p).cps.toList.filter fun c=>!decide (c∈x.cps.toList)).map fun c=>(⟨#[c]⟩:Str))=jX p x∧x.length≤4+p∧(jX p x).length≤4+p∧x.length≤5:=by
  rcases hp with rfl | rfl<;>decide +kernel
noncomputable def Ask (l:List Str)(x:Str)(d:Int ⊕ Str):Prop:=(x∈l∧d=.inl (pos x l:Int)) ∨ (x∉l∧d=.inr G6)
theorem oE {φ:Env→Prop}{sc:Scope}{fn:Bool}{Γ:xK}(ok:bX W){e₁ e₂:Expr}{l:List Str}{x:Str}{d:Int ⊕ Str}{p p₁ q:Pos}(ha:Ask l x d)(h1:Ev pw w W (k+2) sc fn Γ e₁ (.dat (wL l)))(h2:Ev pw w W (k+2) sc fn Γ e₂ (.dat (.str x)))
    (hk:sc.names.lookup ("_law_asked":Str)=some .globalImplicit)(hkd:sc.names.lookup ("indexOf":Str)=some .globalImplicit)
    (hs:∀env,starEach [.Name ("indexOf":Str) p₁,e₁,e₂] env=(false,eval (.Name ("indexOf":Str) p₁) env)::starEach [e₁,e₂] env)(hs1:∀env,starEach [e₁,e₂] env=(false,eval e₁ env)::starEach [e₂] env)(hs2:∀env,starEach [e₂] env=[(false,eval e₂ env)]) :
    eG w W φ (k+2) sc fn Γ (.Call (.Name ("_law_asked":Str) p) [.Name ("indexOf":Str) p₁,e₁,e₂] [] q) (.dat (gS d)):=by
  rcases ha with⟨hm,rfl⟩ | ⟨hm,rfl⟩
  · obtain⟨h3,h4⟩:=cD hm;exact KH (k:=k+1) (y:="") ok (uA (k:=k) aC (fun a=>.str a) h3 h4 ok) (uG h1) (uG h2) hk hkd (by decide) rfl (by exact rfl) hs hs1 hs2
  · exact cW (k:=k+1) ok (fun a fn=>QZ (k:=k) aC (fun a=>.str a) (fun i e=>hm (List.mem_of_getElem? e)) ok fn) (uG h1) (uG h2) hk hkd (by decide) rfl (by exact rfl) hs hs1 hs2
theorem U7 (T:uX W){ns cs:List Int}{p:Nat}(hp:p=0 ∨ p=1){lv ox:List (List Str)}(hl:kD p cs=lv)(ho:yC p cs=ox)(l1:QB p lv)(l2:QB p ox)
    (hpl:∀x∈xO p,(x∈lv.getD x.length []∧jX p x∉ox.getD (jX p x).length []) ∨ (x∉lv.getD x.length []∧jX p x∈ox.getD (jX p x).length []))
    (h:gU w W (uS c) (k+8) (xC 36).scope true (G2 ns cs p) ((xC 36).body.drop 14) (.ret (.dat (.bool true)))) :
    gU w W (uS c) (k+8) (xC 36).scope true (G2 ns cs p) ((xC 36).body.drop 13) (.ret (.dat (.bool true))):=by
  have ok:=T.ok;have hz2:sizeLine=16777216:=rfl;refine PQ (YV (Γ₁:=fun x=>("name",.val x)::G2 ns cs p) (z6 (h:=Dat.str) (l:=xO p) (qD rfl)) fun v hv=>?_) h;obtain⟨x,hx,rfl⟩:=qS hv;obtain⟨j1,j2,x1,x2,x5⟩:=W0 hp x hx;refine⟨xY (.inr ⟨rfl,rfl⟩),?_⟩;have key:∃d1 d2,Ask (lv.getD x.length []) x d1∧Ask (ox.getD (jX p x).length []) (jX p x) d2∧rF [d1,d2] (.inr G6) 2=1:=by
    rcases hpl x hx with⟨a,b⟩ | ⟨a,b⟩
    · exact⟨_,_,.inl ⟨a,rfl⟩,.inr ⟨b,rfl⟩,by exact rfl⟩
    · exact⟨_,_,.inr ⟨a,rfl⟩,.inl ⟨b,rfl⟩,by exact rfl⟩
  obtain⟨d1,d2,ha1,ha2,hcn⟩:=key;have x3:(jX p x).length≤5:=by rcases hp with rfl | rfl<;>(first | exact(qW x2) | omega)
  refine PF (Γ':=("places",.val (.dat (.list ([d1,d2].map gS))))::("other",.val (.dat (.str (jX p x))))::("name",.val (.dat (.str x)))::G2 ns cs p) (aR (ZV (xJ (x:=.dat (.str (jX p x))) ?_ (.inl rfl))) (aR (nK (YW (ds:=[gS d1,gS d2]) (j5 (oE (k:=k+6) ok ha1 ?_ (qD rfl) rfl rfl (fun Z=>rfl) (fun Z=>rfl) (fun Z=>rfl)) (j5 (oE (k:=k+6) ok ha2 ?_ (qD rfl) rfl rfl (fun Z=>rfl) (fun Z=>rfl) (fun Z=>rfl)) d6))) (.inl rfl)) (aR ?_ (aS wX)))) fun y b hy=>?_
  · simp only[← j2];have e:((((zV p).cps.toList.filter fun c=>!decide (c∈x.cps.toList)).map fun c=>(⟨#[c]⟩:Str)).map Dat.str)=(zV p).cps.toList.flatMap fun c=>if decide (c∈x.cps.toList)=true then[] else[oS c]:=by
      simp only[List.map_map];generalize (zV p).cps.toList=l
      induction l with
      | nil=>rfl
      | cons a r ih =>
        simp only[List.flatMap_cons,← ih,List.filter_cons];by_cases hc:a∈x.cps.toList<;>simp[hc,oS]
    refine ZY tX ?_ j1;simp only[e];refine vJ _ (by exact rfl) (Z1 (qD rfl) rfl (by rcases hp with rfl | rfl<;>decide +kernel)) (fun a ha=>?_) ?_
    · refine⟨_,!decide (a∈x.cps.toList),xY (.inl rfl),xX rfl,dY (zR (qD rfl) (qD rfl) rH x8),fun hb=>?_,fun hb=>?_⟩
      · have:decide (a∈x.cps.toList)=false:=by simpa using hb
        simp only[this];exact x9 (qD rfl)
      · have:decide (a∈x.cps.toList)=true:=by simpa using hb
        rw[this];rfl
    · simp only[← e,List.length_map,List.length_map];refine qB (pH _ _) ?_;rcases hp with rfl | rfl<;>decide +kernel
  · exact jG (qD rfl) (yI (zA ok (by exact .head _) rfl (by decide +kernel)) (qE (qD rfl) qN) (vW (by exact(qB x5 (by exact qA rfl))))) (kO (by exact(xM _)) (by exact(lX x5 (by decide))) (by simp only[Int.toNat_natCast];exact(by rw[hl];exact dU (ds:=[]) (by have:=l1.len;exact(kN [x.length,lv.length,p] [] (.l (.v 0) (.p (.n 4) (.v 2))) (.e (.v 1) (.p (.n 5) (.v 2))) [1,-1] (.t (.v 0) (.v 1)) 1 rfl x1 this)):((kD p cs).map wL)[x.length]?=some (wL (lv.getD x.length [])))))
  · exact jG (qD rfl) (yI (zA ok (by exact .head _) rfl (by decide +kernel)) (qE (qD rfl) qN) (vW (by exact(qB x3 (by exact qA rfl))))) (kO (by exact(xM _)) (by exact(lX x3 (by decide))) (by simp only[Int.toNat_natCast];exact(by rw[ho];exact dU (ds:=[]) (by have:=l2.len;exact(kN [(jX p x).length,ox.length,p] [] (.l (.v 0) (.p (.n 4) (.v 2))) (.e (.v 1) (.p (.n 5) (.v 2))) [1,-1] (.t (.v 0) (.v 1)) 1 rfl x2 this)):((yC p cs).map wL)[(jX p x).length]?=some (wL (ox.getD (jX p x).length [])))))
  · have:=m0 (w:=w) (W:=W) (k:=k+7) (l:=[d1,d2]) (e:=.inr G6) BI PD;simp only[show rF [d1,d2] (.inr G6) [d1,d2].length=1 from hcn] at this;exact ZW (b:=false) (bQ (zR (zW ok this (qE (qD rfl) (qE tX qN))) qX VQ x8)) (fun h=>nomatch h) fun Z=>aS wX
  · exact xX (z:="places") rfl y b (xX (z:="other") rfl y b (xX (z:="name") rfl y b hy))
end Mine
namespace Mine
variable {w:World}{W:Wd}{k:Nat}{c:Nat}
theorem fX {α β:Type}{f g:α→List β}:∀{l:List α},(∀x∈l,f x=g x)→l.flatMap f=l.flatMap g
  | [],_=>rfl
  | a::r,h=>by rw[List.flatMap_cons,List.flatMap_cons,h a (.head _),fX fun x hx=>h x (.tail _ hx)]
theorem WQ {p:Nat}(hp:p=0 ∨ p=1):(∀s∈xD p,(xD p)[(xD p).idxOf s]?=some s∧∀i,i<(xD p).idxOf s→(xD p)[i]?≠some s) ∧
    (xD p).map (fun s=>(((xD p).idxOf s:Nat):Int))=(List.range (xD p).length).map fun j:Nat=>if((4+p:Nat):Int)-(j:Int)<(j:Int) then((4+p:Nat):Int)-(j:Int) else(j:Int):=by
  rcases hp with rfl | rfl<;>decide +kernel
noncomputable def tF (p:Nat)(cs:List Int):List Dat:=((kD p cs++yC p cs).flatMap fun l=>l.flatMap fun x=>[Dat.int (pos x l:Int)])++(xD p).flatMap fun s=>[Dat.int (((xD p).idxOf s:Nat):Int)]
theorem U6 (T:uX W){ns cs:List Int}{p:Nat}(hp:p=0 ∨ p=1)(l1:QB p (kD p cs))(l2:QB p (yC p cs))
    (h:gU w W (uS c) (k+8) (xC 36).scope true (("ahead",.val (.dat (.list (tF p cs))))::G2 ns cs p) ((xC 36).body.drop 16) (.ret (.dat (.bool true)))) :
    gU w W (uS c) (k+8) (xC 36).scope true (G2 ns cs p) ((xC 36).body.drop 14) (.ret (.dat (.bool true))):=by
  have ok:=T.ok;have hz2:sizeLine=16777216:=rfl;have hL:(kD p cs++yC p cs).length≤12:=by simp only[List.length_append,l1.len,l2.len];rcases hp with rfl | rfl<;>exact qA rfl
  have hmem:∀l∈kD p cs++yC p cs,l.length≤100∧l.Nodup:=fun l hl=>by
    rcases qP hl with h | h
    · exact⟨l1.sz l h,l1.nd l h⟩
    · exact⟨l2.sz l h,l2.nd l h⟩
  have hs6:(xD p).length≤6:=by rcases hp with rfl | rfl<;>exact qA rfl
  obtain⟨si,se⟩:=WQ hp;have hlo:∀{Γ:xK} {a b q},Γ.lookup ("levels":Str)=some (.val (.dat (LV (kD p cs))))→Γ.lookup ("others":Str)=some (.val (.dat (LV (yC p cs))))→Ev pw w W (k+8) (xC 36).scope true Γ (.BinOp (.Name "levels" a) .Add (.Name "others" b) q) (.dat (.list ((kD p cs++yC p cs).map wL))):=fun h1 h2=>by
    simp only[List.map_append];exact xF (qD h1) (qD h2) (zU (by simp only[List.length_map];rw[List.length_append] at hL;exact(qB hL (by exact qA rfl))))
  have a1:((kD p cs++yC p cs).flatMap fun l=>l.flatMap fun x=>[Dat.int (pos x l:Int)]).length≤1200:=by
    refine qB (mE (n:=100) fun l hl=>?_) (by exact(qB (yV _ hL) (by exact qA rfl)));simp only[xG,List.length_map];exact(hmem l hl).1
  have a2:((xD p).flatMap fun s=>[Dat.int (((xD p).idxOf s:Nat):Int)]).length≤6:=by simp only[xG,List.length_map];exact hs6
  refine pX (xJ (x:=.dat (.list (tF p cs))) (xF (aW (l:=kD p cs++yC p cs) (g:=fun l=>V.dat (wL l)) (fun l=>l.flatMap fun x=>[Dat.int (pos x l:Int)]) (by exact rfl) (z6 (h:=wL) (hlo rfl rfl)) (fun l hl=>?_) (by exact(qB a1 (by exact qA rfl))))
    (vJ (fun s=>[Dat.int (((xD p).idxOf s:Nat):Int)]) (by exact rfl) (z6 (h:=Dat.int) (l:=xD p) (qD rfl)) (fun s hs=>?_) (by exact(qB a2 (by exact qA rfl)))) (zU (by exact(qB (w0 a1 a2) (by exact qA rfl))))) (.inl rfl)) ?_
  · refine⟨_,true,xY (.inl rfl),xX rfl,wH,fun Z=>uH (l:=l) (g:=fun x=>V.dat (.str x)) (f:=fun x=>[Dat.int (pos x l:Int)]) (z6 (h:=Dat.str) (qD rfl)) (fun x hx=>?_),fun h=>nomatch h⟩;obtain⟨h3,h4⟩:=cD hx;exact⟨_,true,xY (.inl rfl),xX rfl,wH,fun Z=>x9 (zW ok (uA (k:=k+7) aC (fun a=>.str a) h3 h4 ok) (qE (qD rfl) (qE (qD rfl) qN))),fun h=>nomatch h⟩
  · obtain⟨h3,h4⟩:=si s hs;exact⟨_,true,xY (.inl rfl),xX rfl,wH,fun Z=>x9 (zW ok (uA (k:=k+7) ZQ (fun a=>.int a) h3 h4 ok) (qE (qD rfl) (qE (qD rfl) qN))),fun h=>nomatch h⟩
  have b1:((kD p cs++yC p cs).flatMap fun l=>(List.range l.length).flatMap fun j:Nat=>[Dat.int (j:Int)]).length≤1200:=by
    refine qB (mE (n:=100) fun l hl=>?_) (by exact(zT [_] [] (.l (.v 0) (.n 12)) [100] (.l (.w (.v 0) 100) (.n 1200)) 1 rfl hL));simp only[xG,List.length_map,List.length_range];exact(hmem l hl).1
  have b2:((List.range (xD p).length).flatMap fun j:Nat=>[Dat.int (if((4+p:Nat):Int)-(j:Int)<(j:Int) then((4+p:Nat):Int)-(j:Int) else(j:Int))]).length≤6:=by simp only[xG,List.length_map,List.length_range];exact hs6
  refine oQ (bQ (zR (qD rfl) (xF (aW (l:=kD p cs++yC p cs) (g:=fun l=>V.dat (wL l)) (fun l=>(List.range l.length).flatMap fun j:Nat=>[Dat.int (j:Int)]) (by exact rfl) (z6 (h:=wL) (hlo rfl rfl)) (fun l hl=>?_) (by exact(qB b1 (by exact qA rfl))))
    (vJ (l:=List.range (xD p).length) (g:=fun j:Nat=>V.dat (.int (j:Int))) (fun j:Nat=>[Dat.int (if((4+p:Nat):Int)-(j:Int)<(j:Int) then((4+p:Nat):Int)-(j:Int) else(j:Int))]) (by exact rfl) (gF (zA ok (by exact .tail _ (.head _)) rfl (by decide +kernel)) ?_ rfl (by exact(qB hs6 (by exact qA rfl)))) (fun j hj=>?_) (by exact(qB b2 (by exact qA rfl)))) (zU (by exact(qB (w0 b1 b2) (by exact qA rfl))))) (vF (c:=true) ?_ ?_ ?_) x8)) h
  · refine⟨_,true,xY (.inl rfl),xX rfl,wH,fun Z=>uH (l:=List.range l.length) (g:=fun j:Nat=>V.dat (.int (j:Int))) (f:=fun j:Nat=>[Dat.int (j:Int)]) (gF (zA ok (by exact .tail _ (.head _)) rfl (by decide +kernel)) ?_ rfl (by have:=(hmem l hl).1;exact(qB this (by exact qA rfl)))) (fun j hj=>?_),fun h=>nomatch h⟩
    · have:=w7 (prog:=pw) (w:=w) (W:=W) (k:=k+8) (ds:=l.map Dat.str) (by have:=(hmem l hl).1;simp;exact(qB this (by exact qA rfl)));rw[List.length_map] at this;exact yI (zA ok (by exact .head _) rfl (by decide +kernel)) (qE (qD rfl) qN) this
    · exact⟨_,true,xY (.inl rfl),xX rfl,wH,fun Z=>x9 (qD rfl),fun h=>nomatch h⟩
  · have:=w7 (prog:=pw) (w:=w) (W:=W) (k:=k+8) (ds:=(xD p).map Dat.int) (by simp;exact(qB hs6 (by exact qA rfl)));rw[List.length_map] at this;exact yI (zA ok (by exact .head _) rfl (by decide +kernel)) (qE (qD rfl) qN) this
  · refine⟨_,true,xY (.inl rfl),xX rfl,wH,fun Z=>x9 (yI (zA ok (by decide) rfl (by decide +kernel)) (qE (qD rfl) (qE (xF ?_ (qD rfl) j7) qN)) BV),fun h=>nomatch h⟩;have:=vW (prog:=pw) (w:=w) (W:=W) (k:=k+8) (x:=zV p) (by rcases hp with rfl | rfl<;>exact qA rfl);rw[show(zV p).length=4+p by rcases hp with rfl | rfl<;>exact rfl] at this;exact yI (zA ok (by exact .head _) rfl (by decide +kernel)) (qE (qD rfl) qN) this
  · refine⟨fun Z=>?_,fun Z=>rfl⟩;unfold tF;congr 1
    · refine fX fun l hl=>?_;simp only[xG,xG,← WR (hmem l hl).2,List.map_map];rfl
    · simp only[xG,xG];have:=congrArg (List.map Dat.int) se;rw[List.map_map,List.map_map] at this;exact this
  · intro d hd;unfold tF at hd;rcases qP hd with h | h
    · obtain⟨l,_,h⟩:=List.mem_flatMap.mp h;obtain⟨x,_,h⟩:=List.mem_flatMap.mp h;cases qF h;rfl
    · obtain⟨x,_,h⟩:=List.mem_flatMap.mp h;cases qF h;rfl
  · intro d hd;rcases qP hd with h | h
    · obtain⟨l,_,h⟩:=List.mem_flatMap.mp h;obtain⟨x,_,h⟩:=List.mem_flatMap.mp h;cases qF h;rfl
    · obtain⟨x,_,h⟩:=List.mem_flatMap.mp h;cases qF h;rfl
end Mine
namespace Mine
theorem YN (b:Array UInt8)(i q:Nat)(v:UInt8)(hi:i<b.size):(b.setIfInBounds i v).getD q 0=if q=i then v else b.getD q 0:=by
  simp only[Array.getD_eq_getD_getElem?,Array.getD_eq_getD_getElem?,Array.getElem?_setIfInBounds];by_cases h:i=q
  · subst h;rw[if_pos rfl,if_pos rfl,if_pos hi];rfl
  · rw[if_neg h,if_neg fun e=>h e.symm]
theorem ZE (x:Array UInt8)(c i d:Nat)(hd:i*c=d)(q:Nat):∀(l:List Nat) (b:Array UInt8),(∀j∈l,j<c)→d+c≤b.size →
    (eW x b c i l).getD q 0=if d≤q∧q<d+c∧d+c-1-q∈l then x.getD (d+(d+c-1-q)) 0 else b.getD q 0
  | [],b,_,_=>by rw[if_neg (by simp)];rfl
  | j::l,b,hl,hb=>by
    have hj:=hl j (.head _);rw[(by subst hd;rfl:eW x b c i (j::l)=eW x (b.setIfInBounds (d+c-1-j) (x.getD (d+j) 0)) c i l),ZE x c i d hd q l _ (fun j hj=>hl j (.tail _ hj)) (by simpa using hb),YN _ _ _ _ (by exact(bW [d+c-1-j,b.size,d,c,d+c-1] [] (.l (.p (.v 2) (.v 3)) (.v 1)) (.l (.v 0) (.v 4)) (.e (.p (.v 4) (.n 1)) (.p (.v 2) (.v 3))) [1,1,1] (.t (.v 0) (.v 1)) 1 rfl hb (Nat.sub_le _ _) (Nat.sub_add_cancel (zT [d,c,j] [] (.t (.v 2) (.v 1)) [1] (.l (.n 1) (.p (.v 0) (.v 1))) 1 rfl hj))))];by_cases h1:d≤q∧q<d+c∧d+c-1-q∈l
    · rw[if_pos h1,if_pos ⟨h1.1,h1.2.1,.tail _ h1.2.2⟩]
    · rw[if_neg h1];by_cases h2:q=d+c-1-j
      · have h3:d+c-1-q=j:=by exact(V9 [_,_,_,_,_] [] (.e (.v 2) (.v 3)) (.l (.v 4) (.p (.v 0) (.v 2))) (.e (.p (.v 0) (.v 2)) (.v 4)) (.l (.v 4) (.p (.v 3) (.v 1))) (.e (.p (.v 3) (.v 1)) (.v 4)) [-1,0,1,1,0] [1,1,0,0,1] (.e (.v 0) (.v 1)) 1 1 rfl h2 (jR _ _) (qQ (kN [_,_,_] [] (.e (.v 0) (.v 2)) (.l (.v 2) (.v 1)) [1,1] (.l (.v 0) (.v 1)) 1 rfl h2 (V4 _ _))) (jR _ _) (qQ (kN [_,_,_,_] [] (.t (.v 0) (.v 2)) (.l (.p (.v 3) (.v 2)) (.p (.v 1) (.n 1))) [1,1] (.l (.v 0) (.v 1)) 1 rfl hj (jR _ _))))
        rw[if_pos h2,if_pos ⟨by exact(ZP [_,_,_,_,_,_] [] (.t (.v 2) (.v 3)) (.e (.v 1) (.v 4)) (.l (.v 5) (.p (.v 4) (.v 2))) (.l (.p (.v 0) (.v 3)) (.p (.v 5) (.n 1))) [1,-1,1,1] (.l (.v 0) (.v 1)) 1 rfl hj h2 (jR _ _) (jR _ _)),by exact(kN [q,d,c,d+c-1,d+c-1-q] [] (.e (.p (.v 3) (.n 1)) (.p (.v 1) (.v 2))) (.e (.p (.v 4) (.v 0)) (.v 3)) [1,1] (.t (.v 0) (.p (.v 1) (.v 2))) 1 rfl (Nat.sub_add_cancel (zT [d,c,j] [] (.t (.v 2) (.v 1)) [1] (.l (.n 1) (.p (.v 0) (.v 1))) 1 rfl hj)) (Nat.sub_add_cancel (kN [q,d+c-1,d+c-1-j] [] (.e (.v 0) (.v 2)) (.l (.v 2) (.v 1)) [1,1] (.l (.v 0) (.v 1)) 1 rfl h2 (Nat.sub_le _ _)))),by simp only[h3];exact .head _⟩,h3]
      · rw[if_neg h2,if_neg];rintro⟨h3,h4,h5⟩;rcases qG h5 with h6 | h6
        · omega
        · exact h1 ⟨h3,h4,h6⟩
theorem eV (x:Array UInt8)(c:Nat)(hc:0<c)(q:Nat):∀(l:List Nat) (b:Array UInt8),(∀i∈l,i*c+c≤b.size) →
    (dG x b c l).getD q 0=if q/c∈l then x.getD (q/c*c+(c-1-q%c)) 0 else b.getD q 0
  | [],b,_=>by rw[if_neg (by simp)];rfl
  | i::l,b,hl=>by
    have hi:=hl i (.head _);have e:dG x b c (i::l)=dG x (eW x b c i (List.range c)) c l:=rfl;rw[e,eV x c hc q l _ (fun i hi=>by simp only[bG];exact hl i (.tail _ hi)),ZE x c i _ rfl q (List.range c) b (fun j hj=>List.mem_range.mp hj) hi];have hq:=yG q c;have hm:=eE q hc;by_cases h1:q/c∈l
    · rw[if_pos h1,if_pos (.tail _ h1)]
    · rw[if_neg h1];by_cases h2:q/c=i
      · rw[Nat.mul_comm,h2] at hq;have h4:i*c+c-1-q=c-1-q%c:=by exact(nq9 [_,_,_,_,_,_,_,_] [] (.e (.p (.v 2) (.v 3)) (.v 4)) (.l (.v 5) (.p (.v 0) (.v 4))) (.e (.p (.v 0) (.v 4)) (.v 5)) (.l (.p (.v 2) (.v 6)) (.p (.v 5) (.n 1))) (.e (.p (.v 5) (.n 1)) (.p (.v 2) (.v 6))) (.l (.v 7) (.p (.v 1) (.v 3))) (.e (.p (.v 1) (.v 3)) (.v 7)) (.l (.v 6) (.p (.v 7) (.n 1))) (.e (.p (.v 7) (.n 1)) (.v 6)) [1,0,1,0,1,1,0,1,0] [-1,1,0,1,0,0,1,0,1] (.e (.v 0) (.v 1)) 1 1 rfl hq (jR _ _) (qQ (bW [_,_,_,_,_] [] (.e (.p (.v 2) (.v 3)) (.v 0)) (.t (.v 3) (.v 4)) (.l (.p (.v 2) (.v 4)) (.p (.v 1) (.n 1))) [-1,1,1] (.l (.v 0) (.v 1)) 1 rfl hq hm (jR _ _))) (jR _ _) (qQ (zT [_,_,_] [] (.t (.v 2) (.v 1)) [1] (.l (.n 1) (.p (.v 0) (.v 1))) 1 rfl hm)) (jR _ _) (qQ (kN [_,_,_] [] (.t (.v 0) (.v 2)) (.l (.v 2) (.p (.v 1) (.n 1))) [1,1] (.l (.v 0) (.v 1)) 1 rfl hm (jR _ _))) (jR _ _) (qQ (zT [_,_] [] (.t (.v 1) (.v 0)) [1] (.l (.n 1) (.v 0)) 1 rfl hm)))
        rw[if_pos ⟨by exact(Q5 (Nat.le_of_eq hq)),by exact(kN [_,_,_,_] [] (.e (.p (.v 1) (.v 3)) (.v 0)) (.t (.v 3) (.v 2)) [-1,1] (.t (.v 0) (.p (.v 1) (.v 2))) 1 rfl hq hm),List.mem_range.mpr (by exact(bW [_,_,_,_] [] (.e (.v 0) (.v 2)) (.l (.v 2) (.v 3)) (.e (.p (.v 3) (.n 1)) (.v 1)) [1,1,1] (.t (.v 0) (.v 1)) 1 rfl h4 (Nat.sub_le _ _) (Nat.sub_add_cancel (zT [_,_] [] (.t (.v 1) (.v 0)) [1] (.l (.n 1) (.v 0)) 1 rfl hm))))⟩,if_pos (by simp only[h2];exact .head _),h2,h4]
      · rw[if_neg,if_neg]
        · intro h;rcases qG h with h | h
          · exact h2 h
          · exact h1 h
        · rintro⟨h3,h4,_⟩;exact h2 (HC h3 (by simp only[Nat.succ_mul];exact h4))
theorem JC {x:Array UInt8}{m c q:Nat}(hx:x.size=m*c)(hc:0<c)(hq:q<m*c):(yN x c).getD q 0=x.getD (q/c*c+(c-1-q%c)) 0:=by
  unfold yN;rw[(by rw[hx];exact Nat.mul_div_cancel _ hc:x.size/c=m),eV x c hc q _ _ (fun i hi=>?_),if_pos]
  · exact List.mem_range.mpr ((FE hc).mpr hq)
  · have hi:=List.mem_range.mp hi;simp only[Array.size_replicate,hx,← Nat.succ_mul];exact yV _ hi
theorem o4 {l:List Int}(h:∀n∈l,0≤n∧n<256)(q:Nat):(((byteArr l).getD q 0).toNat:Int)=l.getD q 0:=by
  have e:byteArr l=(l.map fun n=>UInt8.ofNat n.toNat).toArray:=by unfold byteArr;rfl
  simp only[e,Array.getD_eq_getD_getElem?,List.getElem?_toArray,List.getElem?_map,List.getD_eq_getElem?_getD];cases e:l[q]? with
  | none=>rfl
  | some n =>
    obtain⟨h1,h2⟩:=h n (List.mem_of_getElem? e);show((UInt8.ofNat n.toNat).toNat:Int)=n;rw[UInt8.toNat_ofNat'];grind
theorem bV (l:List Int):(byteArr l).size=l.length:=by unfold byteArr;simp
theorem rL {l:List Int}{m c:Nat}(h:∀n∈l,0≤n∧n<256)(hl:l.length=m*c)(hc:0<c):p0 (yN (byteArr l) c)=(List.range (m*c)).map fun q=>l.getD (q/c*c+(c-1-q%c)) 0:=by
  have hx:(byteArr l).size=m*c:=by rw[bV,hl]
  simp only[nU,(by unfold yN;rw[p6,Array.size_replicate,hx]:(yN (byteArr l) c).size=m*c)];apply zN;intro q hq;rw[JC hx hc (List.mem_range.mp hq),o4 h]
theorem JB {l:List Int}(h:∀n∈l,0≤n∧n<256)(h0:0<l.length):p0 (yN (byteArr l) l.length)=l.reverse:=by
  rw[rL (m:=1) h (by exact(QA [_] [] [] [] (.e (.v 0) (.m 1 (.v 0))) 1 1 rfl)) h0];apply kT
  · simp
  · intro i h1 h2;simp at h1;simp only[List.getElem_map,List.getElem_range,List.getElem_reverse];rw[Nat.div_eq_of_lt h1,Nat.mod_eq_of_lt h1,List.getD_eq_getElem?_getD,Nat.zero_mul,Nat.zero_add,List.getElem?_eq_getElem (by exact(kN [_,_,_] [] (.l (.v 0) (.v 2)) (.e (.p (.v 2) (.n 1)) (.v 1)) [1,1] (.t (.v 0) (.v 1)) 1 rfl (Nat.sub_le _ _) (Nat.sub_add_cancel (zT [_,_] [] (.t (.v 1) (.v 0)) [1] (.l (.n 1) (.v 0)) 1 rfl h1))))];rfl
theorem QO {a b d:List Int}{c:Nat}(h:∀n∈a++b++d,0≤n∧n<256)(ha:a.length=c)(hb:b.length=c)(hd:d.length=c)(hc:0<c):p0 (yN (byteArr (a++b++d)) c)=a.reverse++b.reverse++d.reverse:=by
  simp only[rL (m:=3) h (by simp;exact(GA [_,_,_,_] [] (.e (.v 0) (.v 3)) (.e (.v 1) (.v 3)) (.e (.v 2) (.v 3)) [1,1,1] [-1,-1,-1] (.e (.p (.v 0) (.p (.v 1) (.v 2))) (.m 3 (.v 3))) 1 1 rfl ha hb hd)) hc];apply kT
  · simp;exact(GA [_,_,_,_] [] (.e (.v 1) (.v 0)) (.e (.v 2) (.v 0)) (.e (.v 3) (.v 0)) [-1,-1,-1] [1,1,1] (.e (.m 3 (.v 0)) (.p (.v 1) (.p (.v 2) (.v 3)))) 1 1 rfl ha hb hd)
  · intro i h1 h2;simp at h1;simp only[List.getElem_map,List.getElem_range];simp only[List.getD_eq_getElem?_getD];by_cases i1:i<c
    · rw[Nat.div_eq_of_lt i1,Nat.mod_eq_of_lt i1,Nat.zero_mul,Nat.zero_add,List.append_assoc,List.getElem?_append_left (by exact(bW [_,_,_,_] [] (.e (.v 1) (.v 2)) (.l (.v 0) (.v 3)) (.e (.p (.v 3) (.n 1)) (.v 2)) [-1,1,1] (.t (.v 0) (.v 1)) 1 rfl ha (Nat.sub_le _ _) (Nat.sub_add_cancel (zT [_,_] [] (.t (.v 1) (.v 0)) [1] (.l (.n 1) (.v 0)) 1 rfl i1)))),List.getElem?_eq_getElem (by omega)];rw[List.getElem_append_left (by simp;exact(Nat.lt_of_lt_of_le i1 (Nat.le_add_right_of_le (Nat.le_of_eq ha.symm)))),List.getElem_append_left (by simp;exact(Nat.lt_of_lt_of_le i1 (Nat.le_of_eq ha.symm))),List.getElem_reverse];simp only[Option.getD_some,ha]
    · by_cases i2:i<2*c
      · have e1:i/c=1:=by rw[Nat.div_eq_of_lt_le]<;>(first | lia | omega)
        rw[e1,(by rw[Nat.mod_eq_sub_mod (by exact(Nat.le_of_not_lt i1)),Nat.mod_eq_of_lt (by exact(kN [_,_,_] [] (.t (.v 2) (.m 2 (.v 1))) (.e (.p (.v 0) (.v 1)) (.v 2)) [1,1] (.t (.v 0) (.v 1)) 1 rfl i2 (Nat.sub_add_cancel (Nat.not_lt.mp i1))))]:i%c=i-c),Nat.one_mul,List.append_assoc,List.getElem?_append_right (by exact(Nat.le_add_right_of_le (Nat.le_of_eq ha))),List.getElem?_append_left (by exact(F9 [_,_,_,_,_,_] [] (.e (.v 2) (.v 3)) (.e (.v 1) (.v 3)) (.e (.p (.v 0) (.v 2)) (.p (.v 3) (.v 4))) (.l (.v 4) (.v 5)) (.e (.p (.v 5) (.n 1)) (.v 3)) [-1,-1,1,1,1] (.t (.v 0) (.v 1)) 1 rfl ha hb (Nat.sub_add_cancel (zT [_,_,_] [] (.e (.v 0) (.v 1)) [1] (.l (.v 0) (.p (.v 1) (.v 2))) 1 rfl ha)) (Nat.sub_le _ _) (Nat.sub_add_cancel (zT [_] [] (.t (.n 0) (.v 0)) [1] (.l (.n 1) (.v 0)) 1 rfl hc)))),List.getElem?_eq_getElem (by omega)];rw[List.getElem_append_left (by simp;exact(bW [_,_,_,_] [] (.e (.v 1) (.v 3)) (.e (.v 2) (.v 3)) (.t (.v 0) (.m 2 (.v 3))) [-1,-1,1] (.t (.v 0) (.p (.v 1) (.v 2))) 1 rfl ha hb i2)),List.getElem_append_right (by simp;exact(Nat.le_trans (Nat.le_of_eq ha) (Nat.le_of_not_lt i1))),List.getElem_reverse];simp only[Option.getD_some,List.length_reverse,ha,hb];congr 1;exact FQ
      · have e1:i/c=2:=by rw[Nat.div_eq_of_lt_le]<;>(first | exact(wV i2) | omega)
        rw[e1,(by rw[Nat.mod_eq_sub_mod (by exact(Nat.le_of_not_lt i1)),Nat.mod_eq_sub_mod (by exact(kN [_,_,_] [] (.l (.m 2 (.v 0)) (.v 2)) (.l (.v 2) (.p (.v 1) (.v 0))) [1,1] (.l (.v 0) (.v 1)) 1 rfl (Nat.not_lt.mp i2) (jR _ _))),Nat.mod_eq_of_lt (by exact(bW [_,_,_,_] [] (.t (.v 2) (.m 3 (.v 1))) (.e (.p (.v 0) (.v 1)) (.v 3)) (.e (.p (.v 3) (.v 1)) (.v 2)) [1,1,1] (.t (.v 0) (.v 1)) 1 rfl h1 (Nat.sub_add_cancel (kN [_,_,_] [] (.l (.m 2 (.v 0)) (.v 2)) (.l (.v 2) (.p (.v 1) (.v 0))) [1,1] (.l (.v 0) (.v 1)) 1 rfl (Nat.not_lt.mp i2) (jR _ _))) (Nat.sub_add_cancel (zT [_,_] [] (.l (.m 2 (.v 0)) (.v 1)) [1] (.l (.v 0) (.v 1)) 2 rfl (Nat.not_lt.mp i2)))))];grind:i%c=i-2*c),List.getElem?_append_right (by simp;exact(kN [_,_,_,_] [] (.e (.v 0) (.v 2)) (.e (.v 1) (.v 2)) [1,1] (.l (.p (.v 0) (.v 1)) (.p (.m 2 (.v 2)) (.v 3))) 1 rfl ha hb)),List.getElem?_eq_getElem (by simp;exact(nl6 [_,_,_,_,_,_,_] [] (.e (.v 2) (.v 3)) (.e (.v 4) (.v 3)) (.e (.v 1) (.v 3)) (.e (.p (.v 0) (.p (.v 2) (.v 4))) (.p (.m 2 (.v 3)) (.v 5))) (.l (.v 5) (.v 6)) (.e (.p (.v 6) (.n 1)) (.v 3)) [-1,-1,-1,1,1,1] (.t (.v 0) (.v 1)) 1 rfl ha hb hd (Nat.sub_add_cancel (kN [_,_,_,_] [] (.e (.v 0) (.v 2)) (.e (.v 1) (.v 2)) [1,1] (.l (.p (.v 0) (.v 1)) (.p (.m 2 (.v 2)) (.v 3))) 1 rfl ha hb)) (Nat.sub_le _ _) (Nat.sub_add_cancel (zT [_] [] (.t (.n 0) (.v 0)) [1] (.l (.n 1) (.v 0)) 1 rfl hc))))];rw[List.getElem_append_right (by simp;exact(bW [_,_,_,_] [] (.e (.v 0) (.v 3)) (.e (.v 1) (.v 3)) (.l (.m 2 (.v 3)) (.v 2)) [1,1,1] (.l (.p (.v 0) (.v 1)) (.v 2)) 1 rfl ha hb (Nat.not_lt.mp i2))),List.getElem_reverse];simp only[Option.getD_some,List.length_append,List.length_reverse,ha,hb,hd];congr 1;lia
end Mine
namespace Mine
noncomputable def wU (p:Nat)(lv:List (List Str)):List Int:=(List.range (5+p)).map fun j=>((lv.getD j []).length:Int)
noncomputable def conv (prev:Nat):List Nat→List Nat→List Int
  | h::hs,r::rs=>((h+r+prev:Nat):Int)::conv r hs rs
  | _,_=>[(prev:Int)]
noncomputable abbrev ni (l:List Nat):List Int:=l.map fun d:Nat=>(d:Int)
theorem aZ (n:Nat):∀(hs rs:List Nat) (prev:Nat),hs.length=rs.length→dv n (conv prev hs rs)=dv n (ni hs)+BB n*(gG n rs:Int)+prev
  | [],[],prev,_=>by show(prev:Int)+2^n*0=0+BB n*((0:Nat):Int)+prev;simp
  | h::hs,r::rs,prev,e=>by
    show((h+r+prev:Nat):Int)+2^n*dv n (conv r hs rs)=((h:Int)+2^n*dv n (ni hs))+BB n*((r+2^n*gG n rs:Nat):Int)+prev;rw[aZ n hs rs r (by simpa using e)];show _=_+(2^n+1)*_+_;show _+2^n*(_+(2^n+1)*_+_)=_;push_cast;generalize (2:Int)^n=x;generalize dv n (ni hs)=y;generalize (gG n rs:Int)=z;grind
  | [],_::_,_,e=>by simp at e
  | _::_,[],_,e=>by simp at e
theorem c9 (n:Nat):∀(l:List Int),(∀d∈l,0≤d∧d<128)→0≤dv n l∧dv n l<2^((n+1)*l.length+7)
  | [],_=>by dsimp only[dv];simp
  | d::r,h=>by
    obtain⟨h1,h2⟩:=h d (.head _);obtain⟨h3,h4⟩:=c9 n r fun d hd=>h d (.tail _ hd);have ha:(1:Int)≤2^n:=by have:(0:Int)<2^n:=Int.pow_pos (by decide);exact this
    have hb:(128:Int)≤2^((n+1)*r.length+7):=by
      have:(2:Nat)^7≤2^((n+1)*r.length+7):=xZ (by exact qA rfl) (by exact(vH _ _));exact_mod_cast this
    have e:(2:Int)^((n+1)*(d::r).length+7)=2*(2^n*2^((n+1)*r.length+7)):=by
      simp only[List.length_cons,← Int.pow_add,← Int.pow_succ'];congr 1;rw[Nat.mul_add];exact(QA [_,_] [] [] [] (.e (.p (.p (.v 0) (.w (.p (.v 1) (.n 1)) 1)) (.n 7)) (.p (.p (.v 1) (.p (.v 0) (.n 7))) (.n 1))) 1 1 rfl)
    dsimp only[dv];simp only[e];exact⟨(kN [] [_,_] (.L (.n 0) (.z 0)) (.L (.n 0) (.z 1)) [1,1] (.L (.n 0) (.p (.z 0) (.z 1))) 1 rfl h1 (gM (by exact(t9 ha)) h3:0≤2^n*dv n r)),(F9 [] [_,_,_,_,_] (.T (.z 0) (.n 128)) (.L (.n 1) (.z 3)) (.L (.z 1) (.z 4)) (.E (.z 4) (.s (.z 2) (.z 3))) (.L (.m 1 (.n 128)) (.z 2)) [1,1,1,1,1] (.T (.p (.z 0) (.z 1)) (.m 2 (.z 2))) 1 rfl h2 ha (Int.mul_le_mul_of_nonneg_left (by exact(zT [] [_,_] (.T (.z 0) (.z 1)) [1] (.L (.z 0) (.s (.z 1) (.n 1))) 1 rfl h4)) (by exact(t9 ha)):2^n*dv n r≤2^n*(2^((n+1)*r.length+7)-1)) (by rw[Int.mul_sub,Int.mul_one]:(2:Int)^n*(2^((n+1)*r.length+7)-1)=2^n*2^((n+1)*r.length+7)-2^n) (Int.mul_le_mul ha hb (by decide) (by exact(t9 ha)):1*128≤(2:Int)^n*2^((n+1)*r.length+7)))⟩
set_option tactic.hygienic true in
theorem PT {x b:Nat}(h:x<2^b):xL x≤b:=by
  unfold xL;split
  · exact(wJ _)
  · rename_i h0
    have:=(fH h0).mpr h;exact this
theorem X2 (n:Nat):xL (2^n+1)=n+1 ∨ (n=0∧xL (2^n+1)=2):=by
  cases n with
  | zero=>exact .inr ⟨rfl,by exact rfl⟩
  | succ n =>
    left;have h0:(2:Nat)^(n+1)+1≠0:=by exact(xE (uY _))
    have h1:2^(n+1)+1<2^(n+2):=by
      have:2^(n+2)=2*2^(n+1):=by rw[Nat.pow_succ,Nat.mul_comm]
      have:2≤2^(n+1):=by simp only[Nat.pow_succ];have:=Nat.one_le_two_pow (n:=n);exact(zT [_] [] (.l (.n 1) (.v 0)) [2] (.l (.n 2) (.w (.v 0) 2)) 1 rfl this)
      exact(kN [_,_] [] (.e (.v 1) (.m 2 (.v 0))) (.l (.n 2) (.v 0)) [-1,1] (.t (.p (.v 0) (.n 1)) (.v 1)) 1 rfl ‹_› this)
    unfold xL;rw[if_neg h0];exact(kK ((fH h0).mpr h1) (z5 ((Nat.le_log2 h0).mpr (by exact(qR _ _)):n+1≤(2^(n+1)+1).log2)))
theorem aY {wd:Nat}{a b:List Int}(ha:∀d∈a,0≤d∧d<128)(hb:∀d∈b,0≤d∧d<128)(la:a.length≤6)(lb:b.length≤6)(h0:0<wd)(hw:wd≤42) :
    jT (xL (2^wd+1)) (dv wd a-dv wd b).natAbs≤14∧(dv wd a-dv wd b).natAbs<2^1000:=by
  have up:∀l:List Int,l.length≤6→(2:Int)^((wd+1)*l.length+7)≤2^((wd+1)*6+7):=fun l hl=>by
    have:(2:Nat)^((wd+1)*l.length+7)≤2^((wd+1)*6+7):=xZ (by exact qA rfl) (by have:=wI (wd+1) hl;exact(w0 this (by exact qA rfl)));exact_mod_cast this
  obtain⟨a1,a2⟩:=c9 wd a ha;obtain⟨b1,b2⟩:=c9 wd b hb;have a3:=up a la;have b3:=up b lb;have hlt:(dv wd a-dv wd b).natAbs<2^((wd+1)*6+7):=by
    have:((dv wd a-dv wd b).natAbs:Int)<2^((wd+1)*6+7):=by omega
    exact_mod_cast this
  refine⟨?_,qK hlt (xZ (by exact qA rfl) (by exact(zT [_] [] (.l (.v 0) (.n 42)) [6] (.l (.p (.w (.p (.v 0) (.n 1)) 6) (.n 7)) (.n 1000)) 1 rfl hw)))⟩;have h1:=PT hlt;rcases X2 wd with h2 | ⟨h2,_⟩
  · rw[h2];unfold jT;refine yM ((FE (by exact(uY _))).mpr ?_);grind
  · exact(WZ _ _ h0 (qL h2))
noncomputable def k9 (p a0 a1 mid b1 b0:Nat):List Nat:=[a0,a1]++List.replicate p mid++[b1,b0]
structure K4 (p:Nat)(lv ox:List (List Str))(rs rs':List Nat)(a0 a1 mid b1 b0:Nat):Prop where
  low:cJ (lv.getD 0 []) (lv.getD 1 []) (lv.getD 2 [])=[(a0:Int),(a1:Int)]
  high:cJ (ox.getD 0 []) (ox.getD 1 []) (ox.getD 2 [])=[(b0:Int),(b1:Int)]
  rk:vQ lv=some rs
  rk':vQ ox=some rs'
  lr:rs.length=4+p
  lr':rs'.length=4+p
  br:∀d∈rs,d<8
  br':∀d∈rs',d<8
  eq:wU p lv=conv 0 (k9 p a0 a1 mid b1 b0) rs
  eq':wU p ox=conv 0 (k9 p a0 a1 mid b1 b0).reverse rs'
  few:((xD p).zip (wU p lv).reverse).map (fun q=>q.1-q.2)=wU p ox
  bh:∀d∈k9 p a0 a1 mid b1 b0,d<8
section
variable {p:Nat}{lv ox:List (List Str)}{rs rs':List Nat}{a0 a1 mid b1 b0:Nat}
theorem pV:(k9 p a0 a1 mid b1 b0).length=4+p:=by unfold k9;simp;exact(gO (yB _ _))
theorem K4.told (D:K4 p lv ox rs rs' a0 a1 mid b1 b0)(wd:Nat):dv wd (wU p lv)-dv wd (ni (k9 p a0 a1 mid b1 b0))=BB wd*(gG wd rs:Int):=by
  rw[D.eq,aZ wd _ _ _ (by rw[pV,D.lr])];simp;exact(QA [] [dv wd (ni (k9 p a0 a1 mid b1 b0)),BB wd*↑(gG wd rs)] [] [] (.E (.s (.p (.z 0) (.z 1)) (.z 0)) (.z 1)) 1 1 rfl)
theorem Z2 (n:Nat):∀l:List Int,dv n (l++[0])=dv n l
  | []=>by exact rfl
  | d::r=>congrArg (d+2^n*·) (Z2 n r)
theorem K4.told' (D:K4 p lv ox rs rs' a0 a1 mid b1 b0)(wd:Nat):dv wd (wU p ox)-dv wd (ni (k9 p a0 a1 mid b1 b0).reverse++[0])=BB wd*(gG wd rs':Int):=by
  rw[Z2,D.eq',aZ wd _ _ _ (by rw[List.length_reverse,pV,D.lr'])];simp;exact(QA [] [_,_] [] [] (.E (.s (.p (.z 0) (.z 1)) (.z 0)) (.z 1)) 1 1 rfl)
theorem K4.middle (D:K4 p lv ox rs rs' a0 a1 mid b1 b0)(hp:p=1){wd:Nat}(hw:3≤wd):(dv wd (wU p lv)-dv wd (ni (k9 p a0 a1 0 b1 b0))).fmod (BB wd)=mid:=by
  have h:=D.told wd;have hm:mid<8:=D.bh mid (by subst hp;unfold k9;exact .tail _ (.tail _ (.head _)));have hx:(8:Int)≤2^wd:=by
    have:(2:Nat)^3≤2^wd:=xZ (by exact qA rfl) hw;exact_mod_cast this
  subst hp;have e:dv wd (wU 1 lv)-dv wd (ni (k9 1 a0 a1 0 b1 b0))=mid+BB wd*((gG wd rs:Int)+(2^wd-1)*mid):=by
    simp only[k9,ni,List.replicate,List.cons_append,List.nil_append,List.map_cons,List.map_nil,FZ,VC,BB] at h ⊢;clear hx hm D;generalize (2:Int)^wd=x at h ⊢;grind
  rw[e,Int.fmod_eq_emod_of_nonneg _ (Int.le_of_lt (h9 wd)),Int.add_mul_emod_self_left,Int.emod_eq_of_lt (by exact(Int.natCast_nonneg _))];show(mid:Int)<2^wd+1;exact(kN [_] [_] (.t (.v 0) (.n 8)) (.L (.n 8) (.z 0)) [1,1] (.T (.c (.v 0)) (.p (.z 0) (.n 1))) 1 rfl hm hx)
end
end Mine
namespace Mine
theorem mI {rf size:Nat}(f:Nat→Bool):∀(l:List s7) (k:jQ) (o:List Nat) (n:Nat),PR rf size l k o n=true →
    ∃kk,((l.filter fun t=>f t.1).map (·.2.1)).foldlM aD k=some kk∧Rk (((l.filter fun t=>!f t.1).map (·.2.2.1)).reverse++o)+rf+(n+(l.filter fun t=>f t.1).length)=size+kk.length∧kk.length<8∧Rk (((l.filter fun t=>!f t.1).map (·.2.2.1)).reverse++o)<8
  | [],k,o,n,h=>by
    change (_&&_)=true at h;simp only[Bool.and_eq_true,beq_iff_eq,decide_eq_true_eq] at h;exact⟨k,rfl,by simpa using h.1.1,h.1.2,by simpa using h.2⟩
  | t::r,k,o,n,h=>by
    change (_&&_)=true at h;simp only[Bool.and_eq_true] at h;obtain⟨h1,h2⟩:=h;cases hf:f t.1 with
    | false =>
      refine zS fun nG=>?_;obtain⟨kk,e1,e2,e3,e4⟩:=mI f r _ _ _ h1;refine nG ?_;refine⟨kk,?_,?_,e3,?_⟩
      · rw[List.filter_cons_of_neg (by simp[hf])];exact e1
      · rw[List.filter_cons_of_pos (by simp[hf]),List.filter_cons_of_neg (by simp[hf]),List.map_cons,List.reverse_cons,List.append_assoc];exact e2
      · rw[List.filter_cons_of_pos (by simp[hf]),List.map_cons,List.reverse_cons,List.append_assoc];exact e4
    | true =>
      cases hs:aD k t.2.1 with
      | none=>rw[hs] at h2;cases h2
      | some k' =>
        rw[hs] at h2;obtain⟨kk,e1,e2,e3,e4⟩:=mI f r _ _ _ h2;refine⟨kk,?_,?_,e3,?_⟩
        · rw[List.filter_cons_of_pos (by assumption),List.map_cons,List.foldlM_cons,hs];exact e1
        · rw[List.filter_cons_of_neg (by simp[hf]),List.filter_cons_of_pos (by assumption),List.length_cons];exact(rY [Rk ((List.map (fun x=>x.snd.snd.fst) (List.filter (fun t=>!f t.fst) r)).reverse++o),rf,n,(List.filter (fun t=>f t.fst) r).length,size,List.length kk] [] (.e (.p (.p (.v 0) (.v 1)) (.p (.p (.v 2) (.n 1)) (.v 3))) (.p (.v 4) (.v 5))) [1] [-1] (.e (.p (.p (.v 0) (.v 1)) (.p (.v 2) (.p (.v 3) (.n 1)))) (.p (.v 4) (.v 5))) 1 1 rfl e2)
        · rw[List.filter_cons_of_neg (by simp[hf])];exact e4
theorem sL (f:Nat→Bool):∀(l:List s7) (k:jQ) (k1 n:Nat),oV l k k1 n=true→∃kk,((l.filter fun t=>f t.1).map (·.2.1)).foldlM aD k=some kk∧k1+kk.length≤n∧n≤k1+kk.length+7
  | [],k,k1,n,h=>by
    change (_&&_)=true at h;simp only[Bool.and_eq_true,decide_eq_true_eq] at h;exact⟨k,rfl,h.1,h.2⟩
  | t::r,k,k1,n,h=>by
    change (_&&_)=true at h;simp only[Bool.and_eq_true] at h;obtain⟨h1,h2⟩:=h;cases hf:f t.1 with
    | false=>rw[List.filter_cons_of_neg (by simp[hf])];exact sL f r _ _ _ h1
    | true =>
      cases hs:aD k t.2.1 with
      | none=>rw[hs] at h2;cases h2
      | some k' =>
        rw[hs] at h2;obtain⟨kk,e1,e2⟩:=sL f r _ _ _ h2;exact⟨kk,by rw[List.filter_cons_of_pos (by assumption),List.map_cons,List.foldlM_cons,hs];exact e1,e2⟩
theorem sM (T:List s7)(f:Nat→Bool):∀(l:List s7) (k:jQ) (E:List Nat) (n:Nat),Z9 T l k E n=true →
    ∃kk,((l.filter fun t=>f t.1).map (·.2.1)).foldlM aD k=some kk∧oV (T.filter fun t=>t.2.2.2.all fun e=>(((l.filter fun t=>f t.1).map (·.1)).reverse++E).contains e) [] kk.length (n+(l.filter fun t=>f t.1).length)=true
  | [],k,E,n,h=>⟨k,rfl,h⟩
  | t::r,k,E,n,h=>by
    change (_&&_)=true at h;simp only[Bool.and_eq_true] at h;obtain⟨h1,h2⟩:=h;cases hf:f t.1 with
    | false=>rw[List.filter_cons_of_neg (by simp[hf])];exact sM T f r _ _ _ h1
    | true =>
      cases hs:aD k t.2.1 with
      | none=>rw[hs] at h2;cases h2
      | some k' =>
        rw[hs] at h2;obtain⟨kk,e1,e2⟩:=sM T f r _ _ _ h2;refine⟨kk,by rw[List.filter_cons_of_pos (by assumption),List.map_cons,List.foldlM_cons,hs];exact e1,?_⟩;rw[List.filter_cons_of_pos (by assumption),List.map_cons,List.reverse_cons,List.length_cons,List.append_assoc,← Nat.add_assoc,Nat.add_right_comm];exact e2
theorem sI (f:Nat→Bool){v:Nat}:∀(l:List (s7×Str)) (k:jQ) (ps:List Str),oU v l k ps=true→∃kk ps',((l.filter fun t=>f t.1.1).map (·.1.2.1)).foldlM aD k=some kk∧((l.filter fun t=>f t.1.1).map (·.2)).foldl jE ps=ps' ∧
    v=(max 1 ps'.length-1)+kk.length+(if v=0 then 0 else 1)∧(ps'.length=0↔v=0)∧ps'.length≤5
  | [],k,ps,h=>by
    change (_&&_)=true at h;simp only[Bool.and_eq_true,beq_iff_eq,decide_eq_true_eq] at h;refine⟨k,ps,rfl,rfl,h.1.1,?_,h.2⟩;rw[← beq_iff_eq (a:=ps.length),← beq_iff_eq (a:=v),h.1.2]
  | t::r,k,ps,h=>by
    change (_&&_)=true at h;simp only[Bool.and_eq_true] at h;obtain⟨h1,h2⟩:=h;cases hf:f t.1.1 with
    | false=>rw[List.filter_cons_of_neg (by simp[hf])];exact sI f r _ _ h1
    | true =>
      cases hs:aD k t.1.2.1 with
      | none=>rw[hs] at h2;cases h2
      | some k' =>
        rw[hs] at h2;obtain⟨kk,ps',e1,e2,e3⟩:=sI f r _ _ h2;rw[List.filter_cons_of_pos (by assumption)];exact⟨kk,ps',by simp only[List.map_cons,List.foldlM_cons,hs];exact e1,by simp only[List.map_cons,List.foldl_cons];exact e2,e3⟩
theorem sJ (T:List (s7×Str))(f:Nat→Bool):∀(l:List s7) (V:List Nat),sK T l V=true →
    oU (V++(l.filter fun t=>f t.1).map (·.1)).length (T.filter fun t=>t.1.2.2.2.all fun e=>(V++(l.filter fun t=>f t.1).map (·.1)).contains e) [] ((V++(l.filter fun t=>f t.1).map (·.1)).map nm)=true
  | [],V,h=>by rw[List.filter_nil,List.map_nil,List.append_nil];exact h
  | t::r,V,h=>by
    change (_&&_)=true at h;simp only[Bool.and_eq_true] at h;obtain⟨h1,h2⟩:=h;cases hf:f t.1 with
    | false=>rw[List.filter_cons_of_neg (by simp[hf])];exact sJ T f r _ h1
    | true =>
      have:=sJ T f r _ h2;rw[List.append_assoc] at this;rw[List.filter_cons_of_pos (by assumption),List.map_cons];exact this
theorem UR:∀p,p<2→∀j,j<4+p→∀t∈TB p (j+1),sE ((TB p j).map fun t=>nm t.1) (nm t.1)=some t.2.1:=by decide +kernel
theorem GP:∀p,p<2→∀j,j≤4+p→(TB p (4+p-j)).map (fun t=>(t.1,t.2.1))=((TB p j).map fun t=>(t.1^^^gR p,t.2.2.1)).reverse:=by decide +kernel
theorem JA:∀p,p<2→∀j,j<4+p→∀t∈TB p (j+1),∀e∈t.2.2.2,e&&&t.1=e∧e<2^(4+p)∧e∈(TB p j).map (·.1):=by decide +kernel
theorem pR:∀p,p<2→∀j,j≤4+p→∀t∈TB p j,t.1<2^(4+p)∧t.1^^^gR p<2^(4+p)∧(t.1^^^gR p)^^^gR p=t.1:=by decide +kernel
theorem eU:∀p,p<2→∀j,j≤4+p→((TB p j).map fun t=>nm t.1).Nodup:=by decide +kernel
theorem ZD:∀p,p<2→∀j,j≤4+p→∀t∈TB p j,nm t.1∈xO p∧(nm t.1).length=j∧(nm t.1).length≤5:=by decide +kernel
theorem QK:∀p,p<2→∀j,j<4+p→∀t∈TB p (j+1),∀i,i<(nm t.1).length→∃e∈t.2.2.2,vP (nm t.1) i=nm e:=by decide +kernel
theorem UP:∀p,p<2→∀m,m<2^(4+p)→∀m',m'<2^(4+p)→m'&&&m=m'→(m^^^gR p)&&&(m'^^^gR p)=m^^^gR p:=by decide +kernel
theorem UQ:∀p,p<2→∀j,j≤4+p→(TB p j).length≤10:=by decide +kernel
end Mine
namespace Mine
noncomputable def SS (p:Nat)(F:Nat→Bool)(j:Nat):List s7:=(TB p j).filter fun t=>F t.1
noncomputable def SN (p:Nat)(F:Nat→Bool)(j:Nat):List Str:=(SS p F j).map fun t=>nm t.1
noncomputable def LL (p:Nat)(F:Nat→Bool):List (List Str):=(List.range (5+p)).map (SN p F)
noncomputable def RR (p:Nat)(F:Nat→Bool)(j:Nat):Nat:=Rk ((SS p F j).map (·.2.1))
noncomputable def GG (p:Nat)(F:Nat→Bool)(m:Nat):Bool:=!F (m^^^gR p)
noncomputable def gP (p:Nat)(F:Nat→Bool):Prop:=∀m,m<2^(4+p)→F m=true→∀m',m'<2^(4+p)→m'&&&m=m'→F m'=true
section
variable {p:Nat}{F:Nat→Bool}
theorem nQ (hp:p<2)(h:gP p F):gP p (GG p F):=fun m hm hG m' hm' hs=>by
  unfold GG at hG ⊢;have hx:∀p,p<2→∀m,m<2^(4+p)→m^^^gR p<2^(4+p):=by decide +kernel
  cases hf:F (m'^^^gR p) with
  | false=>rfl
  | true =>
    have:=h _ (hx p hp m' hm') hf _ (hx p hp m hm) (UP p hp m hm m' hm' hs);rw[this] at hG;cases hG
theorem pJ {j:Nat}{t:s7}:t∈SS p F j↔t∈TB p j∧F t.1=true:=List.mem_filter
theorem rR {cs:List Nat}{kk:jQ}(h:cs.foldlM aD []=some kk):Rk cs=kk.length:=by dsimp only[Rk];rw[h]
theorem rkA (hp:p<2){j:Nat}(hj:j≤4+p):∃kk,((SS p F j).map (·.2.1)).foldlM aD []=some kk∧RR p F j=kk.length∧RR p F j<8:=by
  refine zS fun nG=>?_;obtain⟨kk,e1,e2,e3,e4⟩:=mI F _ _ _ _ (oW p hp j hj);refine nG ?_;exact⟨kk,e1,rR e1,by rw[show RR p F j=kk.length from rR e1];exact e3⟩
theorem yT (hp:p<2){j:Nat}(hj:j≤4+p):RR p (GG p F) (4+p-j)+RF p j+(SS p F j).length=(TB p j).length+RR p F j∧(SS p (GG p F) (4+p-j)).length+(SS p F j).length=(TB p j).length:=by
  refine zS fun nG=>?_;obtain⟨kk,e1,e2,e3,e4⟩:=mI F _ _ _ _ (oW p hp j hj);refine nG ?_;have key:(SS p (GG p F) (4+p-j)).map (fun t=>(t.1,t.2.1))=(((TB p j).filter fun t=>!F t.1).map fun t=>(t.1^^^gR p,t.2.2.1)).reverse:=by
    unfold SS;simp only[(by simp only[List.filter_map];rfl:((TB p (4+p-j)).filter fun t=>GG p F t.1).map (fun t=>(t.1,t.2.1))=((TB p (4+p-j)).map (fun t=>(t.1,t.2.1))).filter fun q=>GG p F q.1),(GP p hp j hj),List.filter_reverse,List.filter_map];congr 2;refine List.filter_congr fun t ht=>?_;show GG p F (t.1^^^gR p)=_;unfold GG;rw[(pR p hp j hj t ht).2.2]
  have k1:(SS p (GG p F) (4+p-j)).map (·.2.1)=(((TB p j).filter fun t=>!F t.1).map (·.2.2.1)).reverse:=by
    have:=congrArg (List.map Prod.snd) key;rw[List.map_map,List.map_reverse,List.map_map] at this;exact this
  have k2:(SS p (GG p F) (4+p-j)).length=((TB p j).filter fun t=>!F t.1).length:=by
    have:=congrArg List.length key;simpa using this
  refine⟨?_,?_⟩
  · have hk:RR p F j=kk.length:=rR e1;simp only[hk];unfold RR;rw[k1,← List.append_nil (List.reverse _)];simp only[Nat.zero_add] at e2;exact e2
  · rw[k2];unfold SS;have:∀l:List s7,(l.filter fun t=>!F t.1).length+(l.filter fun t=>F t.1).length=l.length:=by
      intro l
      induction l with
      | nil=>rfl
      | cons a r ih =>
        cases hf:F a.1
        · rw[List.filter_cons_of_pos (by simp[hf]),List.filter_cons_of_neg (by simp[hf])];simp only[List.length_cons];exact(rY [_,_,_] [] (.e (.p (.v 0) (.v 1)) (.v 2)) [1] [-1] (.e (.p (.p (.v 0) (.n 1)) (.v 1)) (.p (.v 2) (.n 1))) 1 1 rfl ih)
        · rw[List.filter_cons_of_neg (by simp[hf]),List.filter_cons_of_pos (by assumption)];simp only[List.length_cons];exact(rY [_,_,_] [] (.e (.p (.v 0) (.v 1)) (.v 2)) [1] [-1] (.e (.p (.v 0) (.p (.v 1) (.n 1))) (.p (.v 2) (.n 1))) 1 1 rfl ih)
    exact this _
theorem lA {full:List Str}:∀(rows:List s7) (k:jQ),(∀t∈rows,sE full (nm t.1)=some t.2.1)→(rows.map fun t=>nm t.1).foldlM (yP full) k=(rows.map (·.2.1)).foldlM aD k
  | [],k,_=>rfl
  | t::r,k,h=>by
    simp only[List.map_cons,List.map_cons,List.foldlM_cons,List.foldlM_cons];rw[(by unfold yP;rw[h t (.head _)];rfl:yP full k (nm t.1)=aD k t.2.1)];cases aD k t.2.1 with
    | none=>rfl
    | some k'=>exact lA r k' fun t ht=>h t (.tail _ ht)
theorem vS (hp:p<2)(hF:gP p F){j:Nat}(hj:j<4+p):∃kp,jY (SN p F j) (SN p F (j+1))=some kp∧kp.length=RR p F (j+1):=by
  refine zS fun nG=>?_;obtain⟨kk,e1,e2,_⟩:=rkA (F:=F) hp (show j+1≤4+p by exact hj);refine nG ?_;have hfull:jY ((TB p j).map fun t=>nm t.1) (SN p F (j+1))=some kk:=by
    unfold jY SN;rw[lA _ _ fun t ht=>UR p hp j hj t (pJ.mp ht).1];exact e1
  have hcl:∀x∈SN p F (j+1),∀i,i<x.length→∃n,idxOf (vP x i) (SN p F j)=some n:=fun x hx i hi=>by
    refine zS fun nG=>?_;obtain⟨t,ht,rfl⟩:=qS hx;obtain⟨ht1,ht2⟩:=pJ.mp ht;obtain⟨e,he,hw⟩:=QK p hp j hj t ht1 i hi;obtain⟨f1,f2,f3⟩:=JA p hp j hj t ht1 e he;obtain⟨t',ht',rfl⟩:=qS f3;refine nG ?_;rw[hw];exact tT (List.mem_map.mpr ⟨t',pJ.mpr ⟨ht',hF t.1 (pR p hp (j+1) (by exact hj) t ht1).1 ht2 t'.1 f2 f1⟩,rfl⟩:nm t'.1∈SN p F j)
  obtain⟨kp,h1,h2⟩:=W5 (by unfold SN SS;exact List.filter_sublist.map _:(SN p F j).Sublist ((TB p j).map fun t=>nm t.1)) (eU p hp j (by exact(qU hj))) hcl hfull;exact⟨kp,h1,by rw[h2,e2]⟩
theorem GO:∀p,p<2→∀t∈TB p 1,t.2.1=1:=by decide +kernel
theorem GU:∀n,n<6→Rk (List.replicate n 1)=if n=0 then 0 else 1:=by decide +kernel
theorem QL:∀p,p<2→(TB p 1).length<6:=by decide +kernel
theorem B1 (hp:p<2):RR p F 1=if(SS p F 1).length=0 then 0 else 1:=by
  have h1:(SS p F 1).map (·.2.1)=List.replicate (SS p F 1).length 1:=by
    apply kT
    · simp
    · intro i a b;simp only[List.length_map] at a;simp only[List.getElem_map,List.getElem_replicate];exact GO p hp _ (pJ.mp (wF a)).1
  unfold RR;rw[h1,GU _ (Nat.lt_of_le_of_lt (List.length_filter_le _ _) (QL p hp):(SS p F 1).length<6)]
theorem uF {α:Type}{f g:α→Bool}:∀{l:List α},(∀t∈l,f t=true→g t=true)→(l.filter g).filter f=l.filter f
  | [],_=>rfl
  | a::r,h=>by
    have ih:=uF (f:=f) (g:=g) (l:=r) fun t ht=>h t (.tail _ ht);cases hf:f a with
    | true=>rw[List.filter_cons_of_pos (h a (.head _) hf),List.filter_cons_of_pos hf,List.filter_cons_of_pos hf,ih]
    | false =>
      rw[List.filter_cons_of_neg (p:=f) (by simp[hf])];cases hg:g a with
      | true=>rw[List.filter_cons_of_pos hg,List.filter_cons_of_neg (by simp[hf]),ih]
      | false=>rw[List.filter_cons_of_neg (by simp[hg]),ih]
theorem lF (hp:p<2)(hF:gP p F){j:Nat}(hj:j<4+p){t:s7}(ht:t∈TB p (j+1))(hf:F t.1=true):∀e∈t.2.2.2,e∈(SS p F j).map (·.1):=fun e he=>by
  obtain⟨f1,f2,f3⟩:=JA p hp j hj t ht e he;obtain⟨t',ht',rfl⟩:=qS f3;exact List.mem_map.mpr ⟨t',pJ.mpr ⟨ht',hF t.1 (pR p hp (j+1) (by exact hj) t ht).1 hf t'.1 f2 f1⟩,rfl⟩
theorem VS (hp:p<2):sK ((TB p 2).map fun t=>(t,nm t.1)) (TB p 1) []=true:=B9 (P:=fun p=>sK ((TB p 2).map fun t=>(t,nm t.1)) (TB p 1) []=true) BU BT p hp
theorem aM (hp:p<2)(hF:gP p F):∃a0 a1:Nat,cJ (SN p F 0) (SN p F 1) (SN p F 2)=[(a0:Int),(a1:Int)]∧(SS p F 0).length=a0+RR p F 1∧(SS p F 1).length=a1+RR p F 2+RR p F 1∧a0<8∧a1<8:=by
  have h:=sJ ((TB p 2).map fun t=>(t,nm t.1)) F _ _ (VS hp);simp only[List.nil_append] at h;obtain⟨kk,ps,e1,e2,e3,e4,e5⟩:=sI F _ _ _ h;have hflt:(((TB p 2).map fun t=>(t,nm t.1)).filter fun t=>t.1.2.2.2.all fun e=>((SS p F 1).map (·.1)).contains e).filter (fun t=>F t.1.1)=(SS p F 2).map fun t=>(t,nm t.1):=by
    rw[uF,List.filter_map]
    · rfl
    · intro t ht hf;obtain⟨t',ht',rfl⟩:=qS ht;simp only[List.all_eq_true,List.contains_iff_mem];exact lF hp hF (j:=1) (by exact(qK (qO (qH _)) (xA (by exact qA rfl)))) ht' hf
  have e1':((SS p F 2).map (·.2.1)).foldlM aD []=some kk:=by
    have:=e1;unfold SS at hflt;rw[hflt,List.map_map] at this;exact this
  have e2':wB (SN p F 1) (SN p F 2)=ps:=by
    have:=e2;unfold SS at hflt;rw[hflt,List.map_map,List.map_map] at this;exact this
  have hr2:RR p F 2=kk.length:=rR e1';have hr1:=B1 (F:=F) hp;have hl:((TB p 1).filter fun t=>F t.1).length=(SS p F 1).length:=rfl;rw[List.length_map,hl] at e3 e4;have hc0:(SS p F 1).length≠0→(SS p F 0).length=1:=fun hne=>by
    obtain⟨t,ht⟩:=List.exists_mem_of_length_pos (wP hne);obtain⟨ht1,ht2⟩:=pJ.mp ht;have h0:F 0=true:=hF t.1 (pR p hp 1 (by exact(xA (by exact qA rfl))) t ht1).1 ht2 0 (uM _) (by simp);have e:∀m,(([(0,0,m,[])]:List s7).filter fun t=>F t.1).length=1:=fun m=>by rw[List.filter_cons,if_pos h0];rfl
    exact B9 (P:=fun p=>(SS p F 0).length=1) (e _) (e _) p hp
  have hc1:(SS p F 0).length≤1:=by
    refine qB (pH _ _) ?_;exact B9 (P:=fun p=>(TB p 0).length≤1) (qH _) (qH _) p hp
  have hpe:wB (SN p F 1) (SN p F 2)=[]↔(SS p F 1).length=0:=by simp only[e2',← List.length_eq_zero_iff];exact e4
  unfold cJ;by_cases hz:(SS p F 1).length=0
  · rw[if_pos hz] at hr1 e3;have hps:ps.length=0:=e4.mpr hz;refine⟨(SS p F 0).length,0,?_,by exact(rY [(SS p F 0).length,RR p F 1] [] (.e (.v 1) (.n 0)) [0] [1] (.e (.v 0) (.p (.v 0) (.v 1))) 1 1 rfl hr1),by exact(ZO [(SS p F 1).length,RR p F 2,RR p F 1,max 1 ps.length-1,List.length kk] [] (.e (.v 0) (.p (.p (.v 3) (.v 4)) (.n 0))) (.e (.v 1) (.v 4)) (.e (.v 2) (.n 0)) (.e (.v 0) (.n 0)) [0,0,0,1] [-1,1,1,0] (.e (.v 0) (.p (.p (.n 0) (.v 1)) (.v 2))) 1 1 rfl e3 hr2 hr1 hz),by exact(qV hc1 (by exact qA rfl)),by exact qA rfl⟩;rw[if_pos (hpe.mpr hz),e2',hps];simp only[SN,List.length_map];rfl
  · rw[if_neg hz] at hr1 e3;have hps:ps.length≠0:=fun q=>hz (e4.mp q);refine⟨0,ps.length-1,?_,by have:=hc0 hz;exact(jN this (jN hr1.symm (gO (yB _ _)))),by exact(nq9 [(SS p F 1).length,ps.length-1,RR p F 2,RR p F 1,max 1 ps.length-1,List.length kk,ps.length,max 1 ps.length] [] (.e (.v 0) (.p (.p (.v 4) (.v 5)) (.n 1))) (.e (.v 2) (.v 5)) (.e (.v 3) (.n 1)) (.l (.v 6) (.p (.v 1) (.n 1))) (.e (.p (.v 1) (.n 1)) (.v 6)) (.l (.v 7) (.p (.v 4) (.n 1))) (.e (.p (.v 4) (.n 1)) (.v 7)) (.l (.v 6) (.v 7)) (.e (.v 7) (.v 6)) [1,-1,-1,1,0,0,1,0,1] [-1,1,1,0,1,1,0,1,0] (.e (.v 0) (.p (.p (.v 1) (.v 2)) (.v 3))) 1 1 rfl e3 hr2 hr1 (jR _ _) (qQ (zT [ps.length] [] (.t (.n 0) (.v 0)) [1] (.l (.n 1) (.v 0)) 1 rfl (wP hps))) (jR _ _) (qQ (zT [max 1 ps.length] [] (.l (.n 1) (.v 0)) [1] (.l (.n 1) (.v 0)) 1 rfl (Nat.le_max_left _ _))) (Nat.le_max_right _ _) (Nat.max_eq_right (zT [ps.length] [] (.t (.n 0) (.v 0)) [1] (.l (.n 1) (.v 0)) 1 rfl (wP hps)))),by exact(cI [] [] [] (.t (.n 0) (.n 8)) 1 rfl),by exact(kN [_,_] [] (.l (.v 1) (.n 5)) (.l (.v 0) (.v 1)) [1,1] (.t (.v 0) (.n 8)) 1 rfl e5 (V4 _ _))⟩;rw[if_neg (fun q=>hz (hpe.mp q)),e2'];congr 2;lia
theorem U3 (hF:gP 1 F):RR 1 F 2+RR 1 F 3≤(SS 1 F 2).length∧(SS 1 F 2).length≤RR 1 F 2+RR 1 F 3+7:=by
  refine zS fun nG=>?_;obtain⟨k1,e1,e2⟩:=sM (TB 1 3) F _ _ _ _ VT;obtain⟨k2,e3,e4,e5⟩:=sL F _ _ _ _ e2;refine nG ?_;rw[uF] at e3
  · have h1:RR 1 F 2=k1.length:=rR e1;have h2:RR 1 F 3=k2.length:=rR e3;rw[(rfl:((TB 1 2).filter fun t=>F t.1).length=(SS 1 F 2).length)] at e4 e5;exact⟨(bW [RR 1 F 2,RR 1 F 3,(SS 1 F 2).length,List.length k1,List.length k2] [] (.l (.p (.v 3) (.v 4)) (.p (.n 0) (.v 2))) (.e (.v 0) (.v 3)) (.e (.v 1) (.v 4)) [1,1,1] (.l (.p (.v 0) (.v 1)) (.v 2)) 1 rfl e4 h1 h2),(bW [(SS 1 F 2).length,RR 1 F 2,RR 1 F 3,List.length k1,List.length k2] [] (.l (.p (.n 0) (.v 0)) (.p (.p (.v 3) (.v 4)) (.n 7))) (.e (.v 1) (.v 3)) (.e (.v 2) (.v 4)) [1,-1,-1] (.l (.v 0) (.p (.p (.v 1) (.v 2)) (.n 7))) 1 rfl e5 h1 h2)⟩
  · intro t ht hf;simp only[List.all_eq_true,List.contains_iff_mem,List.append_nil,List.mem_reverse];exact lF (by exact qA rfl) hF (j:=2) (by exact qA rfl) ht hf
end
end Mine
namespace Mine
variable {w:World}{W:Wd}{k:Nat}{c:Nat}
noncomputable def pU (lv:List (List Str)):List Int:=lv.flatMap fun l=>l.map fun x=>(x.length:Int)
theorem lO {l:List Int}{e:Int}:∀n,n≤l.length→rF l e n=((l.take n).count e:Int)
  | 0,_=>rfl
  | n+1,h=>by
    dsimp only[rF];simp only[lO n (by exact(Nat.le_of_lt h)),List.take_add_one,List.getElem?_eq_getElem (h:n<l.length),List.count_append];show _=(((l.take n).count e+List.count e [l[n]]:Nat):Int);simp only[List.count_singleton];by_cases he:l[n]=e
    · subst he;simp
    · rw[if_neg (by simpa using he),if_neg (by simpa using he)];exact rfl
theorem sA:∀(lv:List (List Str)) (off j:Nat),(∀k l,lv[k]?=some l→∀x∈l,x.length=k+off)→(pU lv).count (j:Int)=if off≤j then(lv.getD (j-off) []).length else 0
  | [],off,j,_=>by simp[pU]
  | a::r,off,j,h=>by
    have e:pU (a::r)=(a.map fun x=>(x.length:Int))++pU r:=rfl;simp only[e,List.count_append,(sA r (off+1) j fun k l hk x hx=>by have:=h (k+1) l (by simpa using hk) x hx;exact(Eq.trans this (Nat.add_right_comm _ _ _)))];have ha:(a.map fun x=>(x.length:Int)).count (j:Int)=if off=j then a.length else 0:=by
      have e2:(a.map fun x=>(x.length:Int))=List.replicate a.length (off:Int):=by
        apply kT
        · simp
        · intro i h1 h2;simp only[List.length_map] at h1;simp[(fun x hx=>by have:=h 0 a rfl x hx;exact(Eq.trans this (Nat.add_comm _ _)):∀x∈a,x.length=off) _ (List.getElem_mem h1)]
      simp only[e2,List.count_replicate];by_cases hj:off=j
      · subst hj;simp
      · rw[if_neg hj,if_neg];simpa using fun e:(off:Int)=(j:Int)=>hj (by exact_mod_cast e)
    simp only[ha];by_cases h1:off=j
    · subst h1;rw[if_pos rfl,if_neg (by exact(Nat.not_le_of_lt (Nat.lt_succ_of_le (Nat.le_refl _)))),if_pos (Nat.le_refl _),Nat.sub_self];exact rfl
    · by_cases h2:off≤j
      · rw[if_neg h1,if_pos (by lia),if_pos h2,show j-off=(j-(off+1))+1 by lia];simp
      · rw[if_neg h1,if_neg (by exact(Nat.not_le_of_lt (Nat.lt_succ_of_le (Nat.le_of_lt (Nat.lt_of_not_le h2))))),if_neg h2]
theorem QB.count {p:Nat}{lv:List (List Str)}(L:QB p lv)(j:Nat):rF (pU lv) (j:Int) (pU lv).length=((lv.getD j []).length:Int):=by
  simp only[lO _ (Nat.le_refl _),List.take_length,sA lv 0 j fun k l hk x hx=>(L.mem k l hk x hx).2];rfl
noncomputable def uV (cs:List Int):Nat:=(3+(cs.sum.fdiv 32).fmod 40).toNat
theorem P2 (cs:List Int):3+(cs.sum.fdiv 32).fmod 40=(uV cs:Int)∧3≤uV cs∧uV cs≤42:=by
  have h1:=zJ (cs.sum.fdiv 32) (show(0:Int)<40 by decide);unfold uV;exact⟨(nH [(3+(cs.sum.fdiv 32).fmod 40).toNat] [(cs.sum.fdiv 32).fmod 40] (.L (.p (.n 3) (.z 0)) (.c (.v 0))) (.E (.c (.v 0)) (.p (.n 3) (.z 0))) [1,0] [0,1] (.E (.p (.n 3) (.z 0)) (.c (.v 0))) 1 1 rfl (zI _) (zO (zT [] [(cs.sum.fdiv 32).fmod 40] (.L (.n 0) (.z 0)) [1] (.L (.n 0) (.p (.n 3) (.z 0))) 1 rfl h1))),⟨(kN [(3+(cs.sum.fdiv 32).fmod 40).toNat] [(cs.sum.fdiv 32).fmod 40] (.L (.n 0) (.z 0)) (.L (.p (.n 3) (.z 0)) (.c (.v 0))) [1,1] (.l (.n 3) (.v 0)) 1 rfl h1 (zI _)),(kN [(3+(cs.sum.fdiv 32).fmod 40).toNat] [(cs.sum.fdiv 32).fmod 40] (.T (.z 0) (.n 40)) (.E (.c (.v 0)) (.p (.n 3) (.z 0))) [1,1] (.l (.v 0) (.n 42)) 1 rfl (wQ (cs.sum.fdiv 32) (show(0:Int)<40 by decide)) (zO (zT [] [(cs.sum.fdiv 32).fmod 40] (.L (.n 0) (.z 0)) [1] (.L (.n 0) (.p (.n 3) (.z 0))) 1 rfl h1)))⟩⟩
noncomputable def aF (cs:List Int)(part:Int):Int:=1-2*(cs.sum.fdiv part).fmod 2
theorem bH (cs:List Int)(part:Int):bC (aF cs part):=by
  have h1:=zJ (cs.sum.fdiv part) (show(0:Int)<2 by decide);have h2:=wQ (cs.sum.fdiv part) (show(0:Int)<2 by decide);unfold aF bC;omega
noncomputable def vC (p:Nat)(cs:List Int):List Int:=(cs.take (xD p).length).map fun x=>255-x.fmod 256
noncomputable def dP (p:Nat)(cs:List Int)(a0 a1 b1 b0:Nat):Int:=(dv (uV cs) (wU p (kD p cs))-dv (uV cs) (ni (k9 p a0 a1 0 b1 b0))).fmod (BB (uV cs))
noncomputable def G3 (ns cs:List Int)(p:Nat):xK:=("ahead",.val (.dat (.list (tF p cs))))::G2 ns cs p
noncomputable def G4 (ns cs:List Int)(p:Nat)(a0 a1 b1 b0:Nat):xK:=("signs",.val (.dat (il ([2,4,8,16].map (aF cs)))))::("width",.val (.dat (.int (uV cs)))) ::
  ("low",.val (.dat (il (ni [a0,a1]))))::("high",.val (.dat (il (ni [b0,b1]))))::("counts",.val (.dat (il (wU p (kD p cs)))))::("lengths",.val (.dat (il (pU (kD p cs)))))::G3 ns cs p
theorem iP (lv:List (List Str)):(pU lv).map Dat.int=lv.flatMap fun l=>l.flatMap fun x=>[Dat.int (x.length:Int)]:=by
  unfold pU;rw[List.map_flatMap];refine fX fun l Z=>?_;simp only[xG,List.map_map];rfl
theorem d9 {sc:Scope}{fn:Bool}{Γ:xK}(ok:bX W){α:Type}{l:List α}{h:α→Dat}{y:Str}{a b q:Pos}(hy:Γ.lookup y=some (.val (.dat (.list (l.map h)))))(hz:l.length≤10000)(hk:List.lookup ("len":Str) sc.names=some .globalImplicit)
    (hd:autoParam ((y==("__debug__":Str))=false) au2)(hn:autoParam ((y==("__classdict__":Str))=false) au2) :
    Ev pw w W k sc fn Γ (.Call (.Name "len" a) [.Name y b] [] q) (.dat (.int (l.length:Int))):=by
  have hz2:sizeLine=16777216:=rfl;have:=w7 (prog:=pw) (w:=w) (W:=W) (k:=k) (ds:=l.map h) (by rw[List.length_map];exact(qB hz (by exact qA rfl)));simp only[List.length_map] at this;exact yI (zA ok (by exact .head _) hk (by decide +kernel)) (qE (qD hy hd hn) qN) this
theorem U5 (T:uX W){ns cs:List Int}{p:Nat}(hp:p=0 ∨ p=1)(l1:QB p (kD p cs))(l2:QB p (yC p cs)){rs rs':List Nat}{a0 a1 mid b1 b0:Nat}(D:K4 p (kD p cs) (yC p cs) rs rs' a0 a1 mid b1 b0)
    (h:gU w W (uS c) (k+23) (xC 36).scope true (G4 ns cs p a0 a1 b1 b0) ((xC 36).body.drop 21) (.ret (.dat (.bool true)))) :
    gU w W (uS c) (k+23) (xC 36).scope true (G3 ns cs p) ((xC 36).body.drop 16) (.ret (.dat (.bool true))):=by
  have ok:=T.ok;have hz2:sizeLine=16777216:=rfl;have hlen:(xD p).length=5+p:=by rcases hp with rfl | rfl<;>exact rfl
  have hll:(pU (kD p cs)).length≤600:=by
    refine qB (mE (n:=100) fun l hl=>?_) (by exact(qB (yV _ (by rw[l1.len];rcases hp with rfl | rfl<;>exact qA rfl:(kD p cs).length≤6)) (by exact qA rfl)));rw[List.length_map];exact l1.sz l hl
  refine pX (Γ':=("lengths",.val (.dat (il (pU (kD p cs)))))::G3 ns cs p) (xJ (x:=.dat (il (pU (kD p cs)))) ?_ (.inr ⟨rfl,rfl⟩) (fun env he=>fL rfl env he)) ?_
  · show Ev _ _ _ _ _ _ _ _ (.dat (.list _));simp only[iP];refine aW (l:=kD p cs) (g:=fun l=>V.dat (wL l)) _ (by exact rfl) (z6 (h:=wL) (qD rfl)) (fun l hl=>?_) (by simp only[← iP,List.length_map];exact(qB hll (by exact qA rfl)));refine⟨_,true,xY (.inl rfl),xX rfl,wH,fun Z=>uH (l:=l) (g:=fun x=>V.dat (.str x)) (f:=fun x=>[Dat.int (x.length:Int)]) (z6 (h:=Dat.str) (qD rfl)) (fun x hx=>?_),fun h=>nomatch h⟩;exact⟨_,true,xY (.inl rfl),xX rfl,wH,fun Z=>x9 (yI (zA ok (by exact .head _) rfl (by decide +kernel)) (qE (qD rfl) qN) (vW (by have:=l1.short l hl x hx;exact(qB this (by exact qA rfl))))),fun h=>nomatch h⟩
  refine pX (Γ':=("counts",.val (.dat (il (wU p (kD p cs)))))::("lengths",.val (.dat (il (pU (kD p cs)))))::G3 ns cs p) (kG (by exact rfl) (gF (n:=5+p) (zA ok (by exact .tail _ (.head _)) rfl (by decide +kernel)) (by simp only[← hlen];exact d9 ok rfl (by exact(kN [_,_] [] (.l (.v 1) (.n 1)) (.e (.v 0) (.p (.n 5) (.v 1))) [1,1] (.l (.v 0) (.n 10000)) 1 rfl (FP hp) hlen)) rfl) rfl (by exact(zT [_] [] (.l (.v 0) (.n 1)) [1] (.l (.p (.n 5) (.v 0)) (.n 1000000)) 1 rfl (FP hp)))) ?_ rfl (by exact rfl)) ?_
  · have e:(wU p (kD p cs)).map Dat.int=[]++(List.range (5+p)).flatMap fun j:Nat=>[Dat.int (((kD p cs).getD j []).length:Int)]:=by
      simp only[xG];unfold wU;simp only[List.map_map];rfl
    simp only[e];refine UE (by rw[xG];simp;exact(zT [_] [] (.l (.v 0) (.n 1)) [1] (.l (.p (.n 5) (.v 0)) (.n 16777216)) 1 rfl (FP hp))) fun j hj=>?_;refine⟨_,true,xY (.inl rfl),xX rfl,wH,fun Z=>x9 ?_,fun h=>nomatch h⟩;simp only[← l1.count j];exact zW ok (m0 (k:=k+22) ZQ fun a=>.int a) (qE (qD rfl) (qE (qD rfl) qN))
  have lows:∀{lv:List (List Str)} {u v:Nat},QB p lv→cJ (lv.getD 0 []) (lv.getD 1 []) (lv.getD 2 [])=[(u:Int),(v:Int)]→jM w W (k+23) 32 [.dat (LV lv)] (.dat (il (ni [u,v]))):=fun{lv u v} L e=>by
    obtain⟨x0,x1,x2,r,rfl⟩:∃x0 x1 x2 r,lv=x0::x1::x2::r:=by
      have:=L.len
      match lv,this with
      | [],h=>simp at h;exact(WZ _ _ (qO (qL h.symm)) (xA (by exact qA rfl)))
      | [_],h=>simp at h;exact(WZ _ _ (qO (qL h.symm)) (xA (by exact qA rfl)))
      | [_,_],h=>simp at h;exact(WZ _ _ (qO (qL h.symm)) (xA (by exact qA rfl)))
      | x0::x1::x2::r,_=>exact⟨_,_,_,_,rfl⟩
    have hz:∀{l},l∈x0::x1::x2::r→l.length≤1000:=fun h=>by have:=L.sz _ h;exact(qB this (by exact qA rfl))
    have:=UW (w:=w) (W:=W) (k:=k+22) (l0:=x0) (l1:=x1) (l2:=x2) (rest:=r) ok (fun q hq=>?_) (fun q hq=>?_) (hz (.head _)) (hz (.tail _ (.head _))) (hz (.tail _ (.tail _ (.head _)))) ?_
    · simp only[show cJ x0 x1 x2=ni [u,v] from e] at this;exact this
    · have:=(iN hp q (L.mem 1 x1 rfl q hq).1).1;intro ch hch;have:=Array.all_eq_true_iff_forall_mem.mp this ch (by simpa using hch);simpa using this
    · have h1:=(L.mem 2 x2 rfl q hq).2;exact(And.intro (qL h1.symm) (qB (qL h1) (by exact qA rfl)))
    · unfold zG;have h3:∀(l:List Str),(∀x∈l,x.length≤5)→(l.map fun s=>s.length).sum≤5*l.length:=by
        intro l
        induction l with
        | nil=>decide
        | cons a r ih =>
          intro h;simp only[List.map_cons,List.sum_cons,List.length_cons];exact(kN [_,_,_] [] (.l (.v 0) (.n 5)) (.l (.v 1) (.m 5 (.v 2))) [1,1] (.l (.p (.v 0) (.v 1)) (.m 5 (.p (.v 2) (.n 1)))) 1 rfl (h a (.head _)) (ih fun x hx=>h x (.tail _ hx)))
      have:=h3 x1 fun x hx=>L.short x1 (.tail _ (.head _)) x hx;exact(qB this (qB (wI _ (L.sz x1 (.tail _ (.head _)))) (by exact qA rfl)))
  refine pX (aU (d:=il (ni [a0,a1])) (e:=il (ni [b0,b1])) (yR (ds:=[il (ni [a0,a1]),il (ni [b0,b1])]) (qE (zW ok (lows l1 D.low) (qE (qD rfl) qN)) (qE (zW ok (lows l2 D.high) (qE (qD rfl) qN)) qN))) (.inl rfl) (.inl rfl) (fun Z Z=>rfl) (fun env he=>?_)) ?_
  · have e:env={env with scope:=(xC 36).scope}:=by rw[← he]
    rw[e];rfl
  obtain⟨w1,w2,w3⟩:=P2 cs;refine pX (xJ (x:=.dat (.int (uV cs))) (by
    simp only[← w1];exact xF qX (xF (xF (qD rfl) qX (vV (by decide) (uC (by exact qA rfl)))) qX (yU (by decide))) kB) (.inl rfl)) ?_
  refine pX (Γ':=G4 ns cs p a0 a1 b1 b0) (kG (by exact rfl) (lM (ds:=([2,4,8,16]:List Int).map Dat.int) (yR (ds:=[.int 2,.int 4,.int 8,.int 16]) (qE qX (qE qX (qE qX (qE qX qN))))) rfl) ?_ rfl (by exact rfl)) h;simp only[(by simp only[xG,List.map_map];rfl:([2,4,8,16].map (aF cs)).map Dat.int=[]++([2,4,8,16]:List Int).flatMap fun q=>[Dat.int (aF cs q)]),List.map_map];refine UE (by rw[xG];show 0+4≤sizeLine;exact qA rfl) fun q hq=>?_;have hq':q=2 ∨ q=4 ∨ q=8 ∨ q=16:=by simpa using hq
  exact⟨_,true,xY (.inl rfl),xX rfl,wH,fun Z=>x9 (xF qX (xF qX (xF (xF (qD rfl) (qD rfl) (vV (by rcases hq' with rfl | rfl | rfl | rfl<;>decide) (uC (by rcases hq' with rfl | rfl | rfl | rfl<;>exact qA rfl)))) qX (yU (by decide))) (j8 (yZ (by exact qA rfl)))) j7),fun h=>nomatch h⟩
end Mine
namespace Mine
variable {w:World}{W:Wd}{k:Nat}{c:Nat}
theorem eP {α β:Type}:∀{l:List α} {a b:List β},l.length=a.length→l.zip (a++b)=l.zip a
  | [],a,b,h=>by exact rfl
  | x::l,y::a,b,h=>by rw[List.cons_append,List.zip_cons_cons,List.zip_cons_cons,eP (by simpa using h)]
  | x::l,[],b,h=>by simp at h
theorem Z6 {p:Nat}{lv:List (List Str)}(h:lv.length=5+p):wU p lv=lv.map fun l=>(l.length:Int):=by
  unfold wU;apply kT
  · simp[h]
  · intro i h1 h2;simp at h1;simp[List.getD_eq_getElem?_getD,h1,h]
theorem Z7 (p:Nat)(lv:List (List Str)):(wU p lv).length=5+p:=by unfold wU;simp
theorem VP {p:Nat}{lv:List (List Str)}(L:QB p lv):∀d∈wU p lv,0≤d∧d<128:=fun d hd=>by
  rw[Z6 L.len] at hd;obtain⟨l,hl,rfl⟩:=qS hd;have:=L.sz l hl;exact(And.intro (xM _) (lX this (by decide)))
theorem P5 {l:List Nat}(h:∀d∈l,d<8):∀d∈ni l,0≤d∧d<128:=fun d hd=>by
  obtain⟨x,hx,rfl⟩:=qS hd;have:=h x hx;exact(And.intro (xM _) (eO this (by decide)))
noncomputable def gZ (p:Nat)(cs:List Int)(a0 a1 mid b1 b0:Nat):List Int:=(wU p (kD p cs)).reverse++(vC p cs).reverse++(ni (k9 p a0 a1 mid b1 b0).reverse++[0])
theorem U4 (T:uX W){ns cs:List Int}{p:Nat}(hp:p=0 ∨ p=1)(hT:cs.sum.fmod 2=p)(h7:cs.length=7)(l1:QB p (kD p cs))(l2:QB p (yC p cs)){rs rs':List Nat}{a0 a1 mid b1 b0:Nat}(D:K4 p (kD p cs) (yC p cs) rs rs' a0 a1 mid b1 b0) :
    gU w W (uS c) (k+23) (xC 36).scope true (G4 ns cs p a0 a1 b1 b0) ((xC 36).body.drop 21) (.ret (.dat (.bool true))):=by
  have ok:=T.ok;have hz2:sizeLine=16777216:=rfl;have hlen:(xD p).length=5+p:=by rcases hp with rfl | rfl<;>exact rfl
  have hp1:p≤1:=by exact(FP hp)
  obtain⟨w1,w2,w3⟩:=P2 cs;have lc:=Z7 p (kD p cs);have lo:=Z7 p (yC p cs);have bc:=VP l1;have bo:=VP l2;have hb8:=D.bh;have hb:=P5 D.bh;have lh:(ni (k9 p a0 a1 mid b1 b0)).length=4+p:=by simp only[List.length_map];exact pV
  have lh0:(ni (k9 p a0 a1 0 b1 b0)).length=4+p:=by simp only[List.length_map];exact pV
  have hb0:∀d∈ni (k9 p a0 a1 0 b1 b0),0≤d∧d<128:=P5 fun d hd=>by
    unfold k9 at hd hb8;simp only[List.mem_append,List.mem_cons,List.mem_replicate,List.not_mem_nil,or_false] at hd hb8;rcases hd with(hd | hd) | hd
    · exact hb8 d (.inl (.inl hd))
    · exact(qV (qL hd.2) (by exact qA rfl))
    · exact hb8 d (.inr hd)
  have ms:∀{l:List Int},(∀d∈l,0≤d∧d<128)→∀d∈l,d.natAbs<2^7:=fun h d hd=>by have:=h d hd;lia
  have hm:∀{Γ:xK},Γ.lookup ("total":Str)=some (.val (.dat (.int cs.sum)))→∀{a b d n},Ev pw w W (k+23) (xC 36).scope true Γ (.BinOp (.Name "total" a) .Mod (.Constant (.int (Int.ofNat 2)) n b) d) (.dat (.int p)):=fun hl=>by
    intro a b d n;simp only[← hT];exact xF (qD hl) qX (yU (by decide))
  have hhol:∀{Γ:xK} {e:Expr} {z:Nat},Ev pw w W (k+23) (xC 36).scope true Γ e (.dat (.int z))→Γ.lookup ("total":Str)=some (.val (.dat (.int cs.sum)))→Γ.lookup ("low":Str)=some (.val (.dat (il (ni [a0,a1]))))→Γ.lookup ("high":Str)=some (.val (.dat (il (ni [b0,b1]))))→(∀env,starEach [e] env=[(false,eval e env)]) →
      ∀{q1 q2 q3 q4 q5 q6 q7 q8 q9 r1 r2 r3 r4 r5 r6 n1 n2 n3},Ev pw w W (k+23) (xC 36).scope true Γ (.BinOp (.BinOp (.Name "low" q1) .Add (.BinOp (.List [e] q2) .Mult (.BinOp (.Name "total" q3) .Mod (.Constant (.int (Int.ofNat 2)) n1 q4) q5) q6) q7) .Add
        (.List [.Subscript (.Name "high" q8) (.Constant (.int (Int.ofNat 1)) n2 q9) r1,.Subscript (.Name "high" r2) (.Constant (.int (Int.ofNat 0)) n3 r3) r4] r5) r6) (.dat (il (ni (k9 p a0 a1 z b1 b0)))):=fun{Γ e z} he ht hlo hhi hs=>by
    intro q1 q2 q3 q4 q5 q6 q7 q8 q9 r1 r2 r3 r4 r5 r6 n1 n2 n3;have e1:il (ni (k9 p a0 a1 z b1 b0))=.list (((ni [a0,a1]).map Dat.int++(List.replicate (p:Int).toNat [Dat.int (z:Int)]).flatten)++[.int (b1:Int),.int (b0:Int)]):=by
      rcases hp with rfl | rfl<;>rfl
    simp only[e1];refine xF (xF (qD hlo) (xF (wS (ds:=[Dat.int (z:Int)]) (qE he qN (fun env=>by rw[hs];rfl))) (hm ht) (uK (by exact(xM _)) (by simp only[List.length_cons,List.length_nil];exact(qB (wI _ hp1) (by exact qA rfl))) (by exact(lX hp1 (by decide))))) (zU ?_)) (wS (ds:=[.int (b1:Int),.int (b0:Int)]) (qE (jG (qD hhi) qX (kO (by decide) (by decide) rfl)) (qE (jG (qD hhi) qX (kO (by decide) (by decide) rfl)) qN))) (zU ?_)
    · rcases hp with rfl | rfl<;>(show _≤sizeLine)<;>simp<;>exact qA rfl
    · rcases hp with rfl | rfl<;>(show _≤sizeLine)<;>simp<;>exact qA rfl
  have sgn:∀{Γ:xK} (i:Nat) (q:Int),Γ.lookup ("signs":Str)=some (.val (.dat (il ([2,4,8,16].map (aF cs)))))→(([2,4,8,16].map (aF cs)).map Dat.int)[i]?=some (Dat.int (aF cs q))→i<4→∀{p1 p2 p3 n},Ev pw w W (k+23) (xC 36).scope true Γ (.Subscript (.Name "signs" p1) (.Constant (.int (Int.ofNat i)) n p2) p3) (.dat (.int (aF cs q))):=fun i q hl hi h4=>by
    intro p1 p2 p3 n;exact jG (qD hl) qX (kO (show(0:Int)≤Int.ofNat i by exact xM i) (by show((i:Nat):Int)<_;exact(eO h4 (by decide))) hi)
  obtain⟨f1,f2⟩:=aY bc hb0 (by exact(qB (qL lc) (qB (qZ hp1 _) (by exact qA rfl)))) (by exact(qB (qL lh0) (qB (qZ hp1 _) (by exact qA rfl)))) (show 0<uV cs by exact(qV (zM (qH _)) w2)) w3
  refine pX (xJ (x:=.dat (.int (dP p cs a0 a1 b1 b0))) (jG (zW ok (nC (k:=k+2) T (cs:=wU p (kD p cs)) (hs:=ni (k9 p a0 a1 0 b1 b0)) (wd:=uV cs) (M:=7) (bH cs 8) (bH cs 16) (by exact(qB w3 (by exact qA rfl))) (by exact qA rfl) (by exact(qB (qL lc) (qB (qZ hp1 _) (by exact qA rfl)))) (by exact(qB (qL lh0) (qB (qZ hp1 _) (by exact qA rfl)))) (ms bc) (ms hb0) f1 f2)
    (qE (qD rfl) (qE (hhol (z:=0) qX rfl rfl rfl (fun Z=>rfl)) (qE (qD rfl) (qE (sgn 2 8 rfl rfl (by exact qA rfl)) (qE (sgn 3 16 rfl rfl (by exact qA rfl)) qN)))))) qX (lC (by decide) (by decide) rfl)) (.inl rfl)) ?_
  refine oQ (bQ (zR (qD rfl) qX hH (by
    show PW pw w W _ (.dat (.bool (decide (dP p cs a0 a1 b1 b0<0)))) false;rw[(decide_eq_false (Int.not_lt.mpr (Int.fmod_nonneg_of_pos _ (h9 _))):decide (dP p cs a0 a1 b1 b0<0)=false)];exact x8))) ?_
  refine pX (xJ (x:=.dat (il (ni (k9 p a0 a1 mid b1 b0)))) ?_ (.inl rfl)) ?_
  · rcases hp with rfl | rfl
    · have hz:dP 0 cs a0 a1 b1 b0=((dP 0 cs a0 a1 b1 b0).toNat:Int):=by
        have:0≤dP 0 cs a0 a1 b1 b0:=zJ _ (h9 _);exact(gO (FK this))
      show Ev _ _ _ _ _ _ _ _ (.dat (il (ni (k9 0 a0 a1 (dP 0 cs a0 a1 b1 b0).toNat b1 b0))));exact hhol (by simp only[← hz];exact qD rfl) rfl rfl rfl (fun Z=>rfl)
    · have hz:dP 1 cs a0 a1 b1 b0=(mid:Int):=D.middle rfl w2;exact hhol (by simp only[← hz];exact qD rfl) rfl rfl rfl (fun Z=>rfl)
  have hoc:(vC p cs).length=5+p:=by unfold vC;simp;exact(GA [_,_,_] [] (.e (.v 2) (.p (.n 5) (.v 1))) (.l (.v 0) (.v 2)) (.e (.v 0) (.v 2)) [1,1,0] [-1,0,-1] (.e (.v 0) (.p (.n 5) (.v 1))) 1 1 rfl hlen (kJ _ _) (KZ (bW [_,_,_] [] (.e (.v 1) (.n 7)) (.e (.v 0) (.p (.n 5) (.v 2))) (.l (.v 2) (.n 1)) [-1,1,1] (.l (.v 0) (.v 1)) 1 rfl h7 hlen hp1)))
  have hob:∀d∈vC p cs,0≤d∧d<256:=fun d hd=>by
    obtain⟨x,_,rfl⟩:=qS hd;exact⟨(zT [] [x.fmod 256] (.T (.z 0) (.n 256)) [1] (.L (.n 0) (.s (.n 255) (.z 0))) 1 rfl (wQ x (show(0:Int)<256 by decide))),(zT [] [x.fmod 256] (.L (.n 0) (.z 0)) [1] (.T (.s (.n 255) (.z 0)) (.n 256)) 1 rfl (zJ x (show(0:Int)<256 by decide)))⟩
  refine pX (Γ':=("octets",.val (.dat (il (vC p cs))))::_) (kG (by exact rfl) (z6 (h:=Dat.int) (d7 (n:=(xD p).length) (qD rfl) (kH (d9 ok rfl (by exact(qB (qL hlen) (qB (qZ hp1 _) (by exact qA rfl)))) rfl)) (by exact(qB (qL h7) (by exact qA rfl))))) ?_ rfl (by exact rfl)) ?_
  · have e:(vC p cs).map Dat.int=[]++(cs.take (xD p).length).flatMap fun x=>[Dat.int (255-x.fmod 256)]:=by
      rw[xG];unfold vC;simp only[List.map_map];rfl
    simp only[e];refine UE (by rw[xG];simp;exact(iM (qB (qL h7) (by exact qA rfl)))) fun x hx=>?_;exact⟨_,true,xY (.inl rfl),xX rfl,wH,fun Z=>x9 (xF qX (xF (qD rfl) qX (yU (by decide))) j7),fun h=>nomatch h⟩
  have hmir:p0 (yN (byteArr ((wU p (kD p cs))++vC p cs++(0::ni (k9 p a0 a1 mid b1 b0)))) (5+p))=gZ p cs a0 a1 mid b1 b0:=by
    rw[QO (fun n hn=>?_) lc hoc (by simp only[List.length_cons,lh];exact(Nat.add_right_comm _ _ _)) (by exact(Nat.lt_of_lt_of_le (Nat.lt_succ_of_le (Nat.le_refl _)) (Nat.le_add_right_of_le (by exact Nat.le_of_ble_eq_true rfl)))),List.reverse_cons]
    · unfold gZ ni;rw[List.map_reverse]
    · simp only[List.mem_append,List.mem_cons] at hn;rcases hn with(h | h) | h | h
      · have:=bc n h;exact(And.intro this.1 (Int.lt_of_lt_of_le this.2 (by decide)))
      · exact hob n h
      · exact⟨(zT [] [_] (.E (.z 0) (.n 0)) [-1] (.L (.n 0) (.z 0)) 1 rfl h),(zT [] [_] (.E (.z 0) (.n 0)) [1] (.T (.z 0) (.n 256)) 1 rfl h)⟩
      · have:=hb n h;exact⟨this.1,(zT [] [_] (.T (.z 0) (.n 128)) [1] (.T (.z 0) (.n 256)) 1 rfl this.2)⟩
  have hbl:((wU p (kD p cs))++vC p cs++(0::ni (k9 p a0 a1 mid b1 b0))).length=3*(5+p):=by
    simp only[List.length_append,List.length_cons];exact(GA [(wU p (kD p cs)).length,(vC p cs).length,(ni (k9 p a0 a1 mid b1 b0)).length,p] [] (.e (.v 0) (.p (.n 5) (.v 3))) (.e (.v 2) (.p (.n 4) (.v 3))) (.e (.v 1) (.p (.n 5) (.v 3))) [1,1,1] [-1,-1,-1] (.e (.p (.p (.v 0) (.v 1)) (.p (.v 2) (.n 1))) (.m 3 (.p (.n 5) (.v 3)))) 1 1 rfl lc lh hoc)
  refine F2 (Γ':=("mirrored",.val (.dat (il (gZ p cs a0 a1 mid b1 b0))))::_) (nL (KI (T:="list") (zA ok (by decide) rfl (by decide +kernel)) (Y8 ok (nD (k:=k+22) (x:=byteArr ((wU p (kD p cs))++vC p cs++(0::ni (k9 p a0 a1 mid b1 b0)))) (m:=3) (c:=5+p) ok (by rw[bV,hbl]) (by exact(cI [_] [] [] (.t (.n 0) (.p (.n 5) (.v 0))) 1 rfl)) (by exact(qB (wI _ (qZ hp1 _)) (by exact qA rfl))) (by exact(qB (qZ hp1 _) (by exact qA rfl)))) (qE ?_ (qE ?_ qN)))
    (by
      have:=eA (w:=w) (W:=W) (k:=k+23) (prog:=pw) (x:=yN (byteArr ((wU p (kD p cs))++vC p cs++(0::ni (k9 p a0 a1 mid b1 b0)))) (5+p)) (by simp only[rK,bV,hbl];exact(qB (wI _ (qZ hp1 _)) (by exact qA rfl)));simp only[hmir] at this;exact this)) (.inl rfl)) ?_
  · refine yI (zA ok (by decide) rfl (by decide +kernel)) (qE ?_ qN) (WA (fun n hn=>?_) (by exact(kN [_,_] [] (.l (.v 1) (.n 1)) (.e (.v 0) (.m 3 (.p (.n 5) (.v 1)))) [3,1] (.l (.v 0) (.n 16777216)) 1 rfl hp1 hbl)))
    · have e:((wU p (kD p cs))++vC p cs++(0::ni (k9 p a0 a1 mid b1 b0))).map Dat.int=((((wU p (kD p cs)).map Dat.int++(vC p cs).map Dat.int)++[Dat.int 0])++(ni (k9 p a0 a1 mid b1 b0)).map Dat.int):=by
        simp
      simp only[e];refine xF (xF (xF (qD rfl) (qD rfl) (zU ?_)) (wS (ds:=[Dat.int 0]) (qE qX qN)) (zU ?_)) (qD rfl) (zU ?_)
      · simp only[List.length_map,List.length_map];exact(bW [_,_,_] [] (.l (.v 2) (.n 1)) (.e (.v 0) (.p (.n 5) (.v 2))) (.e (.v 1) (.p (.n 5) (.v 2))) [2,1,1] (.l (.p (.v 0) (.v 1)) (.n 16777216)) 1 rfl hp1 lc hoc)
      · simp only[List.length_append,List.length_map,List.length_map];show _+1≤_;exact(bW [_,_,_] [] (.l (.v 2) (.n 1)) (.e (.v 0) (.p (.n 5) (.v 2))) (.e (.v 1) (.p (.n 5) (.v 2))) [2,1,1] (.l (.p (.p (.v 0) (.v 1)) (.n 1)) (.n 16777216)) 1 rfl hp1 lc hoc)
      · rw[List.length_append,List.length_append,List.length_map,List.length_map,List.length_map (as:=ni _)];show _+1+_≤_;exact(ZP [(wU p (kD p cs)).length,(vC p cs).length,(ni (k9 p a0 a1 mid b1 b0)).length,p] [] (.l (.v 3) (.n 1)) (.e (.v 0) (.p (.n 5) (.v 3))) (.e (.v 2) (.p (.n 4) (.v 3))) (.e (.v 1) (.p (.n 5) (.v 3))) [3,1,1,1] (.l (.p (.p (.p (.v 0) (.v 1)) (.n 1)) (.v 2)) (.n 16777216)) 1 rfl hp1 lc lh hoc)
    · simp only[List.mem_append,List.mem_cons] at hn;rcases hn with(h | h) | h | h
      · have:=bc n h;omega
      · exact hob n h
      · exact⟨(zT [] [_] (.E (.z 0) (.n 0)) [-1] (.L (.n 0) (.z 0)) 1 rfl h),(zT [] [_] (.E (.z 0) (.n 0)) [1] (.T (.z 0) (.n 256)) 1 rfl h)⟩
      · have:=hb n h;omega
  · simp only[← hlen];exact d9 ok rfl (by exact(kN [_,_] [] (.e (.v 0) (.p (.n 5) (.v 1))) (.l (.v 1) (.n 1)) [1,1] (.l (.v 0) (.n 10000)) 1 rfl hlen hp1)) rfl
  have hml:(gZ p cs a0 a1 mid b1 b0).length=3*(5+p):=by
    unfold gZ;simp only[List.length_append,List.length_append,List.length_append,List.length_reverse,List.length_reverse,List.length_map,List.length_reverse,pV];simp only[List.length_cons,List.length_nil];exact(nH [_,_,_] [] (.e (.v 0) (.p (.n 5) (.v 2))) (.e (.v 1) (.p (.n 5) (.v 2))) [1,1] [-1,-1] (.e (.p (.p (.v 0) (.v 1)) (.p (.p (.n 4) (.v 2)) (.p (.n 0) (.n 1)))) (.m 3 (.p (.n 5) (.v 2)))) 1 1 rfl lc hoc)
  have hzip:(xD p).zip (gZ p cs a0 a1 mid b1 b0)=(xD p).zip (wU p (kD p cs)).reverse:=by
    unfold gZ;rw[List.append_assoc];exact eP (by simp only[List.length_reverse];exact(jN hlen lc.symm))
  refine pX (Γ':=("fewer",.val (.dat (il (wU p (yC p cs)))))::_) (kG (by exact rfl) (tB (l:=xD p) (r:=gZ p cs a0 a1 mid b1 b0) (f:=Dat.int) (g:=Dat.int) (zA ok (by decide) rfl (by decide +kernel)) (qD rfl) (qD rfl)) ?_ rfl (by exact rfl)) ?_
  · have e:(wU p (yC p cs)).map Dat.int=[]++((xD p).zip (gZ p cs a0 a1 mid b1 b0)).flatMap fun q=>[Dat.int (q.1-q.2)]:=by
      simp only[xG,hzip,← D.few,List.map_map];rfl
    simp only[e];refine UE (by rw[xG];simp;exact(bW [_,_,_] [] (.e (.v 1) (.p (.n 5) (.v 2))) (.l (.v 2) (.n 1)) (.l (.v 0) (.v 1)) [1,1,1] (.l (.v 0) (.n 16777216)) 1 rfl hlen hp1 (kJ _ _))) fun q hq=>?_;exact⟨_,true,kQ (.inl rfl) (.inl rfl),fU rfl rfl,wH,fun Z=>x9 (zW ok JH (qE (qD rfl) (qE (qD rfl) qN))),fun h=>nomatch h⟩
  have hox:(yC p cs).map (fun l=>Dat.int (l.length:Int))=(wU p (yC p cs)).map Dat.int:=by simp only[Z6 l2.len,List.map_map];rfl
  have hlo6:(yC p cs).length≤6:=by rw[l2.len];exact(qB (qZ hp1 _) (by exact qA rfl))
  have hmid:pT ((gZ p cs a0 a1 mid b1 b0).map Dat.int) (some ((5+p:Nat):Int)) (some (-((5+p:Nat):Int))) none=(vC p cs).reverse.map Dat.int:=by
    rw[JW (by omega) (by simp only[List.length_map];exact(zT [_,_] [] (.e (.v 1) (.m 3 (.p (.n 5) (.v 0)))) [-1] (.l (.p (.n 5) (.v 0)) (.v 1)) 1 rfl hml)),← List.map_drop,← List.map_take,List.length_map,hml];congr 1;unfold gZ;rw[List.append_assoc,List.drop_left' (by rw[List.length_reverse];omega),List.take_left' (by rw[List.length_reverse];exact(V9 [_,_,_,_] [] (.e (.v 0) (.p (.n 5) (.v 2))) (.l (.v 3) (.p (.v 1) (.p (.n 5) (.v 2)))) (.e (.p (.v 1) (.p (.n 5) (.v 2))) (.v 3)) (.l (.m 3 (.p (.n 5) (.v 2))) (.p (.v 3) (.p (.n 5) (.v 2)))) (.e (.p (.v 3) (.p (.n 5) (.v 2))) (.m 3 (.p (.n 5) (.v 2)))) [1,1,0,1,0] [-1,0,1,0,1] (.e (.v 0) (.v 1)) 1 1 rfl hoc (jR _ _) (Nat.sub_add_cancel (zT [_,_] [] (.l (.m 3 (.p (.n 5) (.v 0))) (.p (.v 1) (.p (.n 5) (.v 0)))) [1] (.l (.p (.n 5) (.v 0)) (.v 1)) 1 rfl (jR _ _))) (jR _ _) (Nat.sub_add_cancel (cI [_] [] [] (.l (.p (.n 5) (.v 0)) (.m 3 (.p (.n 5) (.v 0)))) 1 rfl))))]
  have hlenE:∀{Γ:xK} {a b d:Pos},Γ.lookup ("sizes":Str)=some (.val (.dat (il (xD p))))→Ev pw w W (k+23) (xC 36).scope true Γ (.Call (.Name "len" a) [.Name "sizes" b] [] d) (.dat (.int ((5+p:Nat):Int))):=fun hl=>by
    rw[← hlen];exact d9 ok hl (by omega) rfl
  have kqi:∀{l:List Int},∀d∈l.map Dat.int,kqdOk 8 d=true:=fun{l} d hd=>by
    obtain⟨x,_,rfl⟩:=qS hd;rfl
  refine oQ (bQ (yH (j0 (a:=false) (zR (qD rfl) (vJ (l:=yC p cs) (g:=fun l=>V.dat (wL l)) (fun l=>[Dat.int (l.length:Int)]) (by exact rfl) (z6 (h:=wL) (qD rfl)) (fun l hl=>?_) (by simp only[xG,List.length_map];exact(qB hlo6 (by exact qA rfl)))) (vF (c:=true) ?_ kqi ?_) x8)
    fun Z=>j0 (a:=false) (zR (z:=.dat (.bool (!true))) (vA (qD rfl) (kH (hlenE rfl)) (kH (fE (hlenE rfl) fK)) (by rw[List.length_map];exact(kN [_,_] [] (.l (.v 1) (.n 1)) (.e (.v 0) (.m 3 (.p (.n 5) (.v 1)))) [3,1] (.l (.v 0) (.n 16777216)) 1 rfl hp1 hml))) (rD (qD rfl) gE gE (fE qX fK) (by decide) (by rw[List.length_map];exact(qB (qL hoc) (qB (qZ hp1 _) (by exact qA rfl))))) ?_ x8) fun Z=>fY))) ?_
  · exact⟨_,true,xY (.inl rfl),xX rfl,wH,fun Z=>x9 (d9 ok rfl (by have:=l2.sz l hl;exact(qB this (by exact qA rfl))) rfl),fun h=>nomatch h⟩
  · rw[xG,hox];exact⟨fun Z=>rfl,fun Z=>rfl⟩
  · rw[xG,hox];exact kqi
  · simp only[hmid,JV,← List.map_reverse];exact vF (c:=true) ⟨fun Z=>rfl,fun Z=>rfl⟩ kqi kqi
  have lsz:∀{lv:List (List Str)},QB p lv→∀l∈lv,l.length≤1000∧∀x∈l,x.length≤8:=fun L l hl=>⟨by have:=L.sz l hl;exact(qB this (by exact qA rfl)),fun x hx=>by have:=L.short l hl x hx;exact(qB this (by exact qA rfl))⟩;have bh':∀d∈ni (k9 p a0 a1 mid b1 b0).reverse++[0],0≤d∧d<128:=fun d hd=>by
    rcases qP hd with h | h
    · exact hb d (by rw[ni,List.map_reverse] at h;exact List.mem_reverse.mp h)
    · rw[List.mem_singleton.mp h];decide
  have lh':(ni (k9 p a0 a1 mid b1 b0).reverse++[0]).length=5+p:=by simp only[List.length_append,List.length_map,List.length_reverse,pV];simp only[List.length_cons,List.length_nil];exact(vL _ _ _)
  have pw3:∀{l:List Nat},(∀d∈l,d<8)→∀d∈l,d<2^uV cs:=fun h d hd=>qK (h d hd) (qB (show 8≤2^3 by exact qA rfl) (xZ (by exact qA rfl) w2));obtain⟨g1,g2⟩:=aY bo bh' (by exact(qB (qL lo) (qB (qZ hp1 _) (by exact qA rfl)))) (by exact(qB (qL lh') (qB (qZ hp1 _) (by exact qA rfl)))) (show 0<uV cs by exact(qV (zM (qH _)) w2)) w3;obtain⟨e1,e2⟩:=aY bc hb (by exact(qB (qL lc) (qB (qZ hp1 _) (by exact qA rfl)))) (by exact(qB (qL lh) (qB (qZ hp1 _) (by exact qA rfl)))) (show 0<uV cs by exact(qV (zM (qH _)) w2)) w3;have hdr:(gZ p cs a0 a1 mid b1 b0).drop (2*(5+p))=ni (k9 p a0 a1 mid b1 b0).reverse++[0]:=by
    unfold gZ;rw[List.drop_left' (by simp only[List.length_append,List.length_reverse,List.length_reverse];exact(nH [_,_,_] [] (.e (.v 0) (.p (.n 5) (.v 2))) (.e (.v 1) (.p (.n 5) (.v 2))) [1,1] [-1,-1] (.e (.p (.v 0) (.v 1)) (.m 2 (.p (.n 5) (.v 2)))) 1 1 rfl lc hoc))]
  refine pX (xJ (x:=.dat (.bool true)) (zW ok (ZI (k:=k+1) T (cs:=wU p (yC p cs)) (hs:=ni (k9 p a0 a1 mid b1 b0).reverse++[0]) (rs:=rs') (wd:=uV cs) (M:=7) (bH cs 4) (bH cs 2) (by exact(qV (zM (qH _)) w2)) (by exact(zT [uV cs] [] (.l (.v 0) (.n 42)) [1] (.l (.v 0) (.n 60)) 1 rfl w3)) (by exact qA rfl) (by exact(qB (qL lo) (qB (qZ hp1 _) (by exact qA rfl)))) (by exact(kN [_,_] [] (.l (.v 1) (.n 1)) (.e (.v 0) (.p (.n 5) (.v 1))) [1,1] (.l (.v 0) (.n 14)) 1 rfl hp1 lh')) (by rw[D.lr'];exact(zT [_] [] (.l (.v 0) (.n 1)) [1] (.l (.p (.n 4) (.v 0)) (.n 14)) 1 rfl hp1)) (ms bo) (ms bh') (pw3 D.br') (D.told' _) g1 g2)
    (qE (qD rfl) (qE ?_ (qE (zW ok (e8 (k:=k+21) ok D.rk' (lsz l2) (by exact(zT [_] [] (.l (.v 0) (.n 6)) [1] (.l (.v 0) (.n 1000)) 1 rfl hlo6))) (qE (qD rfl) qN)) (qE (qD rfl) (qE (sgn 1 4 rfl rfl (by exact qA rfl)) (qE (sgn 0 2 rfl rfl (by exact qA rfl)) qN))))))) (.inl rfl)) ?_
  · simp only[← hdr];refine mG (n:=2*(5+p)) (qD rfl) (kH ?_) (by exact(kN [_,_] [] (.l (.v 1) (.n 1)) (.e (.v 0) (.m 3 (.p (.n 5) (.v 1)))) [3,1] (.l (.v 0) (.n 16777216)) 1 rfl hp1 hml));have:=xF (W:=W) (w:=w) (prog:=pw) (k:=k+23) (sc:=(xC 36).scope) (fn:=true) (op:=.Mult) (z:=.dat (.int ((2*(5+p):Nat):Int))) (pos:=⟨224,37,224,51⟩) (qX (i:=2) (n:=0) (pos:=⟨224,37,224,38⟩)) (hlenE (a:=⟨224,41,224,44⟩) (b:=⟨224,45,224,50⟩) (d:=⟨224,41,224,51⟩) (Γ:=("fewer",.val (.dat (il (wU p (yC p cs)))))::("mirrored",.val (.dat (il (gZ p cs a0 a1 mid b1 b0))))::("octets",.val (.dat (il (vC p cs))))::("holes",.val (.dat (il (ni (k9 p a0 a1 mid b1 b0)))))::("middle",.val (.dat (.int (dP p cs a0 a1 b1 b0))))::G4 ns cs p a0 a1 b1 b0) rfl) (by simp only[show((2*(5+p):Nat):Int)=2*((5+p:Nat):Int) by push_cast;rfl];exact j8 (yZ (by exact qA rfl)));exact this
  exact BR (xN (XN (x:=.dat (.bool true)) (c:=true) (qD rfl) x8 (fun Z=>zW ok (ZI (k:=k+1) T (cs:=wU p (kD p cs)) (hs:=ni (k9 p a0 a1 mid b1 b0)) (rs:=rs) (wd:=uV cs) (M:=7) (bH cs 2) (bH cs 4) (by exact(zT [uV cs] [] (.l (.n 3) (.v 0)) [1] (.t (.n 0) (.v 0)) 1 rfl w2)) (by omega) (by exact qA rfl) (by exact(kN [_,_] [] (.l (.v 1) (.n 1)) (.e (.v 0) (.p (.n 5) (.v 1))) [1,1] (.l (.v 0) (.n 14)) 1 rfl hp1 lc)) (by exact(kN [(ni (k9 p a0 a1 mid b1 b0)).length,p] [] (.l (.v 1) (.n 1)) (.e (.v 0) (.p (.n 4) (.v 1))) [1,1] (.l (.v 0) (.n 14)) 1 rfl hp1 lh)) (by rw[D.lr];omega) (ms bc) (ms hb) (pw3 D.br) (D.told _) e1 e2)
    (qE (qD rfl) (qE (qD rfl) (qE (zW ok (e8 (k:=k+21) ok D.rk (lsz l1) (by have:=l1.len;exact(kN [_,_] [] (.l (.v 1) (.n 1)) (.e (.v 0) (.p (.n 5) (.v 1))) [1,1] (.l (.v 0) (.n 1000)) 1 rfl hp1 this))) (qE (qD rfl) qN)) (qE (qD rfl) (qE (sgn 0 2 rfl rfl (by exact qA rfl)) (qE (sgn 1 4 rfl rfl (by exact qA rfl)) qN))))))) fun h=>nomatch h))
end Mine
namespace Mine
section
variable {p:Nat}{F:Nat→Bool}
theorem U0 {l0 l1 l2 l3 l4:List Str}{k0 k1 k2 k3:jQ}(h0:jY l0 l1=some k0)(h1:jY l1 l2=some k1)(h2:jY l2 l3=some k2)(h3:jY l3 l4=some k3):vQ [l0,l1,l2,l3,l4]=some [k0.length,k1.length,k2.length,k3.length]:=by
  simp[vQ,pS,h0,h1,h2,h3]
theorem UZ {l0 l1 l2 l3 l4 l5:List Str}{k0 k1 k2 k3 k4:jQ}(h0:jY l0 l1=some k0)(h1:jY l1 l2=some k1)(h2:jY l2 l3=some k2)(h3:jY l3 l4=some k3)(h4:jY l4 l5=some k4):vQ [l0,l1,l2,l3,l4,l5]=some [k0.length,k1.length,k2.length,k3.length,k4.length]:=by
  simp[vQ,pS,h0,h1,h2,h3,h4]
theorem JR (hF:gP 0 F):vQ (LL 0 F)=some [RR 0 F 1,RR 0 F 2,RR 0 F 3,RR 0 F 4]:=by
  refine zS fun nG=>?_;obtain⟨k0,e0,f0⟩:=vS (by exact qA rfl) hF (show 0<4+0 by exact qA rfl);obtain⟨k1,e1,f1⟩:=vS (by exact qA rfl) hF (show 1<4+0 by exact qA rfl);obtain⟨k2,e2,f2⟩:=vS (by exact qA rfl) hF (show 2<4+0 by exact qA rfl);obtain⟨k3,e3,f3⟩:=vS (by exact qA rfl) hF (show 3<4+0 by exact qA rfl);refine nG ?_;simp only[← f0,← f1,← f2,← f3];exact U0 e0 e1 e2 e3
theorem JQ (hF:gP 1 F):vQ (LL 1 F)=some [RR 1 F 1,RR 1 F 2,RR 1 F 3,RR 1 F 4,RR 1 F 5]:=by
  refine zS fun nG=>?_;obtain⟨k0,e0,f0⟩:=vS (by exact qA rfl) hF (show 0<4+1 by exact qA rfl);obtain⟨k1,e1,f1⟩:=vS (by exact qA rfl) hF (show 1<4+1 by exact qA rfl);obtain⟨k2,e2,f2⟩:=vS (by exact qA rfl) hF (show 2<4+1 by exact qA rfl);obtain⟨k3,e3,f3⟩:=vS (by exact qA rfl) hF (show 3<4+1 by exact qA rfl);obtain⟨k4,e4,f4⟩:=vS (by exact qA rfl) hF (show 4<4+1 by exact qA rfl);refine nG ?_;simp only[← f0,← f1,← f2,← f3,← f4];exact UZ e0 e1 e2 e3 e4
theorem v3 (j:Nat):(SN p F j).length=(SS p F j).length:=List.length_map ..
theorem PP:wU 0 (LL 0 F)=[((SS 0 F 0).length:Int),((SS 0 F 1).length:Int),((SS 0 F 2).length:Int),((SS 0 F 3).length:Int),((SS 0 F 4).length:Int)]:=by
  simp only[← v3,← v3,← v3,← v3,← v3];rfl
theorem PO:wU 1 (LL 1 F)=[((SS 1 F 0).length:Int),((SS 1 F 1).length:Int),((SS 1 F 2).length:Int),((SS 1 F 3).length:Int),((SS 1 F 4).length:Int),((SS 1 F 5).length:Int)]:=by
  simp only[← v3,← v3,← v3,← v3,← v3,← v3];rfl
theorem rf0:RF 0 0=0∧RF 0 1=1∧RF 0 2=3∧RF 0 3=3∧RF 0 4=1:=by decide +kernel
theorem rf1:RF 1 0=0∧RF 1 1=1∧RF 1 2=4∧RF 1 3=6∧RF 1 4=4∧RF 1 5=1:=by decide +kernel
theorem mK (hp:p<2):RR p F 0=0:=by
  have e:∀(g:s7→Bool) (m:Nat),Rk ((([(0,0,m,[])]:List s7).filter g).map (·.2.1))=0:=fun g m=>by rw[List.filter_cons];split<;>rfl
  exact B9 (P:=fun p=>RR p F 0=0) (e _ _) (e _ _) p hp
theorem duo0 (hF:gP 0 F):∃rs rs' a0 a1 mid b1 b0,K4 0 (LL 0 F) (LL 0 (GG 0 F)) rs rs' a0 a1 mid b1 b0:=by
  refine zS fun nG=>?_;have hG:=nQ (by exact qA rfl) hF;obtain⟨a0,a1,la,x0,x1,x2,x3⟩:=aM (by exact qA rfl) hF;obtain⟨b0,b1,lb,y0,y1,y2,y3⟩:=aM (by exact qA rfl) hG;obtain⟨d0,e0⟩:=yT (F:=F) (p:=0) (by exact qA rfl) (show 0≤4+0 by exact qA rfl);obtain⟨d1,e1⟩:=yT (F:=F) (p:=0) (by exact qA rfl) (show 1≤4+0 by exact qA rfl);obtain⟨d2,e2⟩:=yT (F:=F) (p:=0) (by exact qA rfl) (show 2≤4+0 by exact qA rfl);obtain⟨d3,e3⟩:=yT (F:=F) (p:=0) (by exact qA rfl) (show 3≤4+0 by exact qA rfl);obtain⟨d4,e4⟩:=yT (F:=F) (p:=0) (by exact qA rfl) (show 4≤4+0 by exact qA rfl);obtain⟨r0,r1,r2,r3,r4⟩:=rf0;have z:=mK (F:=F) (p:=0) (by exact qA rfl);have z':=mK (F:=GG 0 F) (p:=0) (by exact qA rfl);have t0:(TB 0 0).length=1:=rfl;have t1:(TB 0 1).length=4:=rfl;have t2:(TB 0 2).length=6:=rfl;have t3:(TB 0 3).length=4:=rfl;have t4:(TB 0 4).length=1:=rfl;refine nG ?_;simp only[Nat.reduceAdd,Nat.reduceSub] at d0 d1 d2 d3 d4 e0 e1 e2 e3 e4;have bR:∀(H:Nat→Bool) j,j≤4+0→RR 0 H j<8:=fun H j hj=>(rkA (by exact qA rfl) hj).choose_spec.2.2;refine⟨_,_,a0,a1,0,b1,b0,la,lb,JR hF,JR hG,rfl,rfl,?_,?_,?_,?_,?_,?_⟩
  · intro d hd;simp only[List.mem_cons,List.not_mem_nil,or_false] at hd;rcases hd with rfl | rfl | rfl | rfl<;>exact bR _ _ (by exact qA rfl)
  · intro d hd;simp only[List.mem_cons,List.not_mem_nil,or_false] at hd;rcases hd with rfl | rfl | rfl | rfl<;>exact bR _ _ (by exact qA rfl)
  · simp only[PP];show _=[_,_,_,_,_];congr 1
    · exact(GH x0)
    congr 1
    · exact(GH x1)
    congr 1
    · exact(ZO [(SS 0 F 2).length,b1,RR 0 F 3,RR 0 F 2,(SS 0 (GG 0 F) 1).length,RR 0 (GG 0 F) 2,RR 0 (GG 0 F) 1,(SS 0 F 3).length] [] (.e (.v 4) (.p (.p (.v 1) (.v 5)) (.v 6))) (.e (.p (.p (.v 5) (.n 3)) (.v 0)) (.p (.n 6) (.v 3))) (.e (.p (.p (.v 6) (.n 3)) (.v 7)) (.p (.n 4) (.v 2))) (.e (.p (.v 4) (.v 7)) (.n 4)) [1,1,1,-1] [-1,-1,-1,1] (.E (.c (.v 0)) (.c (.p (.p (.v 1) (.v 2)) (.v 3)))) 1 1 rfl y1 d2 d3 e3)
    congr 1
    · exact(V9 [(SS 0 F 3).length,b0,RR 0 F 4,RR 0 F 3,(SS 0 (GG 0 F) 0).length,RR 0 (GG 0 F) 1,RR 0 (GG 0 F) 0,(SS 0 F 4).length] [] (.e (.v 4) (.p (.v 1) (.v 5))) (.e (.p (.p (.v 5) (.n 3)) (.v 0)) (.p (.n 4) (.v 3))) (.e (.p (.p (.v 6) (.n 1)) (.v 7)) (.p (.n 1) (.v 2))) (.e (.p (.v 4) (.v 7)) (.n 1)) (.e (.v 6) (.n 0)) [1,1,1,-1,0] [-1,-1,-1,1,1] (.E (.c (.v 0)) (.c (.p (.p (.v 1) (.v 2)) (.v 3)))) 1 1 rfl y0 d3 d4 e4 z')
    congr 1;exact(nH [(SS 0 F 4).length,RR 0 F 4,RR 0 (GG 0 F) 0] [] (.e (.p (.p (.v 2) (.n 1)) (.v 0)) (.p (.n 1) (.v 1))) (.e (.v 2) (.n 0)) [1,0] [-1,1] (.E (.c (.v 0)) (.c (.v 1))) 1 1 rfl d4 z')
  · simp only[PP];show _=[_,_,_,_,_];congr 1
    · exact(GH y0)
    congr 1
    · exact(GH y1)
    congr 1
    · exact(ZO [(SS 0 (GG 0 F) 2).length,a1,RR 0 (GG 0 F) 3,RR 0 (GG 0 F) 2,(SS 0 F 1).length,RR 0 F 2,RR 0 F 1,(SS 0 F 2).length] [] (.e (.v 4) (.p (.p (.v 1) (.v 5)) (.v 6))) (.e (.p (.p (.v 2) (.n 1)) (.v 4)) (.p (.n 4) (.v 6))) (.e (.p (.p (.v 3) (.n 3)) (.v 7)) (.p (.n 6) (.v 5))) (.e (.p (.v 0) (.v 7)) (.n 6)) [1,-1,-1,1] [-1,1,1,-1] (.E (.c (.v 0)) (.c (.p (.p (.v 1) (.v 2)) (.v 3)))) 1 1 rfl x1 d1 d2 e2)
    congr 1
    · exact(V9 [(SS 0 (GG 0 F) 3).length,a0,RR 0 (GG 0 F) 4,RR 0 (GG 0 F) 3,(SS 0 F 0).length,RR 0 F 1,RR 0 F 0,(SS 0 F 1).length] [] (.e (.v 4) (.p (.v 1) (.v 5))) (.e (.p (.p (.v 2) (.n 0)) (.v 4)) (.p (.n 1) (.v 6))) (.e (.p (.p (.v 3) (.n 1)) (.v 7)) (.p (.n 4) (.v 5))) (.e (.p (.v 0) (.v 7)) (.n 4)) (.e (.v 6) (.n 0)) [1,-1,-1,1,0] [-1,1,1,-1,1] (.E (.c (.v 0)) (.c (.p (.p (.v 1) (.v 2)) (.v 3)))) 1 1 rfl x0 d0 d1 e1 z)
    congr 1;exact(GA [(SS 0 (GG 0 F) 4).length,RR 0 (GG 0 F) 4,(SS 0 F 0).length,RR 0 F 0] [] (.e (.p (.p (.v 1) (.n 0)) (.v 2)) (.p (.n 1) (.v 3))) (.e (.p (.v 0) (.v 2)) (.n 1)) (.e (.v 3) (.n 0)) [-1,1,0] [1,-1,1] (.E (.c (.v 0)) (.c (.v 1))) 1 1 rfl d0 e0 z)
  · simp only[PP,PP];simp only[xD,if_true,List.reverse_cons,List.reverse_nil,List.cons_append,List.nil_append,List.zip_cons_cons,List.zip_nil_left,List.map_cons,List.map_nil];congr 1
    · exact(dB e4)
    congr 1
    · exact(dB e3)
    congr 1
    · exact(dB e2)
    congr 1
    · exact(dB e1)
    congr 1;exact(dB e0)
  · intro d hd;simp only[k9,List.replicate,List.cons_append,List.nil_append,List.mem_cons,List.not_mem_nil,or_false] at hd;rcases hd with rfl | rfl | rfl | rfl<;>assumption
theorem duo1 (hF:gP 1 F):∃rs rs' a0 a1 mid b1 b0,K4 1 (LL 1 F) (LL 1 (GG 1 F)) rs rs' a0 a1 mid b1 b0:=by
  refine zS fun nG=>?_;have hG:=nQ (by exact qA rfl) hF;obtain⟨a0,a1,la,x0,x1,x2,x3⟩:=aM (by exact qA rfl) hF;obtain⟨b0,b1,lb,y0,y1,y2,y3⟩:=aM (by exact qA rfl) hG;obtain⟨m1,m2⟩:=U3 hF;obtain⟨d0,e0⟩:=yT (F:=F) (p:=1) (by exact qA rfl) (show 0≤4+1 by exact qA rfl);obtain⟨d1,e1⟩:=yT (F:=F) (p:=1) (by exact qA rfl) (show 1≤4+1 by exact qA rfl);obtain⟨d2,e2⟩:=yT (F:=F) (p:=1) (by exact qA rfl) (show 2≤4+1 by exact qA rfl);obtain⟨d3,e3⟩:=yT (F:=F) (p:=1) (by exact qA rfl) (show 3≤4+1 by exact qA rfl);obtain⟨d4,e4⟩:=yT (F:=F) (p:=1) (by exact qA rfl) (show 4≤4+1 by exact qA rfl);obtain⟨d5,e5⟩:=yT (F:=F) (p:=1) (by exact qA rfl) (show 5≤4+1 by exact qA rfl);obtain⟨r0,r1,r2,r3,r4,r5⟩:=rf1;have z:=mK (F:=F) (p:=1) (by exact qA rfl);have z':=mK (F:=GG 1 F) (p:=1) (by exact qA rfl);have t0:(TB 1 0).length=1:=rfl;have t1:(TB 1 1).length=5:=rfl;have t2:(TB 1 2).length=10:=rfl;have t3:(TB 1 3).length=10:=rfl;have t4:(TB 1 4).length=5:=rfl;have t5:(TB 1 5).length=1:=rfl;refine nG ?_;simp only[Nat.reduceAdd,Nat.reduceSub] at d0 d1 d2 d3 d4 d5 e0 e1 e2 e3 e4 e5;have bR:∀(H:Nat→Bool) j,j≤4+1→RR 1 H j<8:=fun H j hj=>(rkA (by exact qA rfl) hj).choose_spec.2.2;obtain⟨mid,hm⟩:∃mid,mid+RR 1 F 2+RR 1 F 3=(SS 1 F 2).length:=⟨(SS 1 F 2).length-RR 1 F 2-RR 1 F 3,by exact(ZO [(SS 1 F 2).length-RR 1 F 2-RR 1 F 3,RR 1 F 2,RR 1 F 3,(SS 1 F 2).length,(SS 1 F 2).length-RR 1 F 2] [] (.l (.v 4) (.p (.v 0) (.v 2))) (.e (.p (.v 0) (.v 2)) (.v 4)) (.l (.v 3) (.p (.v 4) (.v 1))) (.e (.p (.v 4) (.v 1)) (.v 3)) [0,1,0,1] [1,0,1,0] (.e (.p (.p (.v 0) (.v 1)) (.v 2)) (.v 3)) 1 1 rfl (jR _ _) (qQ (kN [RR 1 F 3,(SS 1 F 2).length-RR 1 F 2,RR 1 F 2,(SS 1 F 2).length] [] (.l (.p (.v 2) (.v 0)) (.v 3)) (.l (.v 3) (.p (.v 1) (.v 2))) [1,1] (.l (.v 0) (.v 1)) 1 rfl m1 (jR _ _))) (jR _ _) (qQ (zT [RR 1 F 2,(SS 1 F 2).length,RR 1 F 3] [] (.l (.p (.v 0) (.v 2)) (.v 1)) [1] (.l (.v 0) (.v 1)) 1 rfl m1)))⟩;have hm8:mid<8:=by exact(kN [mid,RR 1 (GG 1 F) 3,(SS 1 F 2).length,RR 1 F 2,RR 1 F 3] [] (.e (.p (.p (.v 1) (.n 4)) (.v 2)) (.p (.n 10) (.v 3))) (.e (.p (.p (.v 0) (.v 3)) (.v 4)) (.v 2)) [1,1] (.t (.v 0) (.n 8)) 1 rfl d2 hm)
  refine⟨_,_,a0,a1,mid,b1,b0,la,lb,JQ hF,JQ hG,rfl,rfl,?_,?_,?_,?_,?_,?_⟩
  · intro d hd;simp only[List.mem_cons,List.not_mem_nil,or_false] at hd;rcases hd with rfl | rfl | rfl | rfl | rfl<;>exact bR _ _ (by exact qA rfl)
  · intro d hd;simp only[List.mem_cons,List.not_mem_nil,or_false] at hd;rcases hd with rfl | rfl | rfl | rfl | rfl<;>exact bR _ _ (by exact qA rfl)
  · simp only[PO];show _=[_,_,_,_,_,_];congr 1
    · exact(GH x0)
    congr 1
    · exact(GH x1)
    congr 1
    · exact(GH (jN hm.symm (vL _ _ _)))
    congr 1
    · exact(ZO [(SS 1 F 3).length,b1,RR 1 F 4,RR 1 F 3,(SS 1 (GG 1 F) 1).length,RR 1 (GG 1 F) 2,RR 1 (GG 1 F) 1,(SS 1 F 4).length] [] (.e (.v 4) (.p (.p (.v 1) (.v 5)) (.v 6))) (.e (.p (.p (.v 5) (.n 6)) (.v 0)) (.p (.n 10) (.v 3))) (.e (.p (.p (.v 6) (.n 4)) (.v 7)) (.p (.n 5) (.v 2))) (.e (.p (.v 4) (.v 7)) (.n 5)) [1,1,1,-1] [-1,-1,-1,1] (.E (.c (.v 0)) (.c (.p (.p (.v 1) (.v 2)) (.v 3)))) 1 1 rfl y1 d3 d4 e4)
    congr 1
    · exact(V9 [(SS 1 F 4).length,b0,RR 1 F 5,RR 1 F 4,(SS 1 (GG 1 F) 0).length,RR 1 (GG 1 F) 1,RR 1 (GG 1 F) 0,(SS 1 F 5).length] [] (.e (.v 4) (.p (.v 1) (.v 5))) (.e (.p (.p (.v 5) (.n 4)) (.v 0)) (.p (.n 5) (.v 3))) (.e (.p (.p (.v 6) (.n 1)) (.v 7)) (.p (.n 1) (.v 2))) (.e (.p (.v 4) (.v 7)) (.n 1)) (.e (.v 6) (.n 0)) [1,1,1,-1,0] [-1,-1,-1,1,1] (.E (.c (.v 0)) (.c (.p (.p (.v 1) (.v 2)) (.v 3)))) 1 1 rfl y0 d4 d5 e5 z')
    congr 1;exact(nH [(SS 1 F 5).length,RR 1 F 5,RR 1 (GG 1 F) 0] [] (.e (.p (.p (.v 2) (.n 1)) (.v 0)) (.p (.n 1) (.v 1))) (.e (.v 2) (.n 0)) [1,0] [-1,1] (.E (.c (.v 0)) (.c (.v 1))) 1 1 rfl d5 z')
  · simp only[PO];show _=[_,_,_,_,_,_];congr 1
    · exact(GH y0)
    congr 1
    · exact(GH y1)
    congr 1
    · exact(ZO [(SS 1 (GG 1 F) 2).length,mid,RR 1 (GG 1 F) 3,RR 1 (GG 1 F) 2,(SS 1 F 2).length,RR 1 F 2,(SS 1 F 3).length,RR 1 F 3] [] (.e (.p (.p (.v 2) (.n 4)) (.v 4)) (.p (.n 10) (.v 5))) (.e (.p (.p (.v 3) (.n 6)) (.v 6)) (.p (.n 10) (.v 7))) (.e (.p (.v 0) (.v 6)) (.n 10)) (.e (.p (.p (.v 1) (.v 5)) (.v 7)) (.v 4)) [-1,-1,1,-1] [1,1,-1,1] (.E (.c (.v 0)) (.c (.p (.p (.v 1) (.v 2)) (.v 3)))) 1 1 rfl d2 d3 e3 hm)
    congr 1
    · exact(ZO [(SS 1 (GG 1 F) 3).length,a1,RR 1 (GG 1 F) 4,RR 1 (GG 1 F) 3,(SS 1 F 1).length,RR 1 F 2,RR 1 F 1,(SS 1 F 2).length] [] (.e (.v 4) (.p (.p (.v 1) (.v 5)) (.v 6))) (.e (.p (.p (.v 2) (.n 1)) (.v 4)) (.p (.n 5) (.v 6))) (.e (.p (.p (.v 3) (.n 4)) (.v 7)) (.p (.n 10) (.v 5))) (.e (.p (.v 0) (.v 7)) (.n 10)) [1,-1,-1,1] [-1,1,1,-1] (.E (.c (.v 0)) (.c (.p (.p (.v 1) (.v 2)) (.v 3)))) 1 1 rfl x1 d1 d2 e2)
    congr 1
    · exact(V9 [(SS 1 (GG 1 F) 4).length,a0,RR 1 (GG 1 F) 5,RR 1 (GG 1 F) 4,(SS 1 F 0).length,RR 1 F 1,RR 1 F 0,(SS 1 F 1).length] [] (.e (.v 4) (.p (.v 1) (.v 5))) (.e (.p (.p (.v 2) (.n 0)) (.v 4)) (.p (.n 1) (.v 6))) (.e (.p (.p (.v 3) (.n 1)) (.v 7)) (.p (.n 5) (.v 5))) (.e (.p (.v 0) (.v 7)) (.n 5)) (.e (.v 6) (.n 0)) [1,-1,-1,1,0] [-1,1,1,-1,1] (.E (.c (.v 0)) (.c (.p (.p (.v 1) (.v 2)) (.v 3)))) 1 1 rfl x0 d0 d1 e1 z)
    congr 1;exact(GA [(SS 1 (GG 1 F) 5).length,RR 1 (GG 1 F) 5,(SS 1 F 0).length,RR 1 F 0] [] (.e (.p (.p (.v 1) (.n 0)) (.v 2)) (.p (.n 1) (.v 3))) (.e (.p (.v 0) (.v 2)) (.n 1)) (.e (.v 3) (.n 0)) [-1,1,0] [1,-1,1] (.E (.c (.v 0)) (.c (.v 1))) 1 1 rfl d0 e0 z)
  · simp only[PO,PO];simp only[xD,Nat.one_ne_zero,if_false,List.reverse_cons,List.reverse_nil,List.cons_append,List.nil_append,List.zip_cons_cons,List.zip_nil_left,List.map_cons,List.map_nil];congr 1
    · exact(dB e5)
    congr 1
    · exact(dB e4)
    congr 1
    · exact(dB e3)
    congr 1
    · exact(dB e2)
    congr 1
    · exact(dB e1)
    congr 1;exact(dB e0)
  · intro d hd;simp only[k9,List.replicate,List.cons_append,List.nil_append,List.mem_cons,List.not_mem_nil,or_false] at hd;rcases hd with rfl | rfl | rfl | rfl | rfl<;>assumption
end
end Mine
namespace Mine
section
variable {p:Nat}{H:Nat→Bool}
theorem X6 {j:Nat}(hj:j<5+p):(LL p H)[j]?=some (SN p H j):=by
  unfold LL;simp only[List.getElem?_map,List.getElem?_range hj];rfl
theorem X5 {l:List Str}(h:l∈LL p H):∃j,j<5+p∧l=SN p H j:=by
  obtain⟨j,hj,rfl⟩:=qS h;exact⟨j,List.mem_range.mp hj,rfl⟩
theorem V3 (j:Nat):(SN p H j).Sublist ((TB p j).map fun t=>nm t.1):=by unfold SN SS;exact List.filter_sublist.map _
theorem J6 (hp:p<2):QB p (LL p H) where
  len:=by unfold LL;simp
  sz:=fun l hl=>by
    obtain⟨j,hj,rfl⟩:=X5 hl;have h1:=(V3 (p:=p) (H:=H) j).length_le;rw[List.length_map] at h1;exact(qB h1 (qB (UQ p hp j (by exact(zT [_,_] [] (.t (.v 0) (.p (.n 5) (.v 1))) [1] (.l (.v 0) (.p (.n 4) (.v 1))) 1 rfl hj))) (by exact qA rfl)))
  nd:=fun l hl=>by
    obtain⟨j,hj,rfl⟩:=X5 hl;exact(V3 j).nodup (eU p hp j (by lia))
  short:=fun l hl x hx=>by
    obtain⟨j,hj,rfl⟩:=X5 hl;obtain⟨t,ht,rfl⟩:=qS hx;exact(ZD p hp j (by exact(zT [_,_] [] (.t (.v 0) (.p (.n 5) (.v 1))) [1] (.l (.v 0) (.p (.n 4) (.v 1))) 1 rfl hj)) t (pJ.mp ht).1).2.2
  mem:=fun k l hl x hx=>by
    have hk:k<5+p:=by
      have:=(List.getElem?_eq_some_iff.mp hl).1;unfold LL at this;simpa using this
    rw[X6 hk] at hl;cases hl;obtain⟨t,ht,rfl⟩:=qS hx;obtain⟨h1,h2,_⟩:=ZD p hp k (by omega) t (pJ.mp ht).1;exact⟨h1,h2⟩
theorem U2:∀m,m<32→∀m',m'<32→nm m=nm m'→m=m':=by decide +kernel
theorem J4 (hp:p<2){j m:Nat}(hj:j≤4+p)(hm:m∈(TB p j).map (·.1)):nm m∈SN p H j↔H m=true:=by
  have hN:2^(4+p)≤32:=B9 (P:=fun p=>2^(4+p)≤32) (qA rfl) (qA rfl) p hp;obtain⟨t,ht,rfl⟩:=qS hm;constructor
  · intro h;obtain⟨t',ht',e⟩:=qS h;obtain⟨h1,h2⟩:=pJ.mp ht';have:=U2 _ (qK (pR p hp j hj t' h1).1 hN) _ (qK ((pR p hp j hj t ht).1) hN) e;rw[← this];exact h2
  · intro h;exact List.mem_map.mpr ⟨t,pJ.mpr ⟨ht,h⟩,rfl⟩
theorem W2:∀p,p<2→∀m∈kR p,(nm m).length≤4+p∧m∈(TB p (nm m).length).map (·.1)∧jX p (nm m)=nm (m^^^gR p)∧(m^^^gR p)∈(TB p (nm (m^^^gR p)).length).map (·.1)∧(nm (m^^^gR p)).length≤4+p∧(m^^^gR p)^^^gR p=m:=by decide +kernel
theorem BP (hp:p<2):∀x∈xO p,(x∈(LL p H).getD x.length []∧jX p x∉(LL p (GG p H)).getD (jX p x).length []) ∨ (x∉(LL p H).getD x.length []∧jX p x∈(LL p (GG p H)).getD (jX p x).length []):=fun x hx=>by
  refine zS fun nG=>?_;obtain⟨m,hm,rfl⟩:=qS hx;obtain⟨h1,h2,h3,h4,h5,h6⟩:=W2 p hp m hm;refine nG ?_;rw[h3,List.getD_eq_getElem?_getD,List.getD_eq_getElem?_getD,X6 (by exact(zT [(nm m).length,p] [] (.l (.v 0) (.p (.n 4) (.v 1))) [1] (.t (.v 0) (.p (.n 5) (.v 1))) 1 rfl h1)),X6 (by exact(zT [(nm (m^^^gR p)).length,p] [] (.l (.v 0) (.p (.n 4) (.v 1))) [1] (.t (.v 0) (.p (.n 5) (.v 1))) 1 rfl h5)),Option.getD_some,Option.getD_some,J4 hp h1 h2,J4 hp h5 h4];unfold GG;rw[h6];cases H m<;>decide
theorem QQ:∀p,p<2→((jH (xD p)).zip ((jH (xD p)).drop 1)).map (fun q=>(zY q.1 1 (q.2-q.1).toNat).map fun j=>(kR p).getD j.toNat 0)=(List.range (5+p)).map fun j=>(TB p j).map (·.1):=by decide +kernel
theorem ZG:∀p,p<2→∀q∈(jH (xD p)).zip ((jH (xD p)).drop 1),∀j∈zY q.1 1 (q.2-q.1).toNat,0≤j∧j.toNat<(kR p).length:=by decide +kernel
theorem cR {α β:Type}{l:List α}{f:α→β}{j:Nat}{d:α}{e:β}(h:j<l.length):(l.map f).getD j e=f (l.getD j d):=by
  simp only[List.getD_eq_getElem?_getD,List.getD_eq_getElem?_getD,List.getElem?_map,List.getElem?_eq_getElem h];rfl
theorem cM (hp:p<2){r:Int→Int}(hr:∀j:Int,0≤j→j.toNat<(kR p).length→r j=if H ((kR p).getD j.toNat 0)=true then 1 else 0):vE (xO p) r (xD p)=LL p H:=by
  have e1:vE (xO p) r (xD p)=(((jH (xD p)).zip ((jH (xD p)).drop 1)).map (fun q=>(zY q.1 1 (q.2-q.1).toNat).map fun j=>(kR p).getD j.toNat 0)).map fun l=>(l.filter H).map nm:=by
    unfold vE;simp only[List.map_map];refine zN fun q hq=>?_;show bK _ _ _ _=((((zY q.1 1 (q.2-q.1).toNat).map fun j=>(kR p).getD j.toNat 0)).filter H).map nm;unfold bK;simp only[List.filter_map,List.map_map];have hf:(zY q.1 1 (q.2-q.1).toNat).filter (fun j=>r j==1)=(zY q.1 1 (q.2-q.1).toNat).filter (H∘fun j=>(kR p).getD j.toNat 0):=by
      refine List.filter_congr fun j hj=>?_;obtain⟨h1,h2⟩:=ZG p hp q hq j hj;rw[hr j h1 h2];show _=H _;cases H ((kR p).getD j.toNat 0)<;>rfl
    simp only[hf];refine zN fun j hj=>?_;obtain⟨h1,h2⟩:=ZG p hp q hq j (List.mem_filter.mp hj).1;exact cR h2
  simp only[e1,QQ p hp];unfold LL;simp only[List.map_map];refine zN fun j Z=>?_;show(((TB p j).map (·.1)).filter H).map nm=SN p H j;simp only[List.filter_map,List.map_map];rfl
end
noncomputable def GN (p:Nat)(cs:List Int):List Nat:=(cs.take ((cs.getD 6 0).fmod 7).toNat).map fun x=>(kR p).getD (x.fmod ((xO p).length:Int)).toNat 0
noncomputable def FF (p:Nat)(cs:List Int)(m:Nat):Bool:=(GN p cs).any fun t=>m&&&t==m
section
variable {p:Nat}{cs:List Int}
theorem lW:gP p (FF p cs):=fun m Z h m' Z hs=>by
  unfold FF at h ⊢;rw[List.any_eq_true] at h ⊢;obtain⟨t,ht,e⟩:=h;refine⟨t,ht,?_⟩;rw[beq_iff_eq] at e ⊢
  calc m'&&&t=(m'&&&m)&&&t:=by rw[hs]
    _=m'&&&(m&&&t):=Nat.and_assoc ..
    _=m':=by rw[e,hs]
theorem GL:jW p cs=(GN p cs).map nm:=by
  unfold jW GN;simp only[List.map_map];refine zN fun x Z=>?_;show((kR p).map nm).getD _ Str.empty=nm ((kR p).getD _ 0);simp only[List.getD_eq_getElem?_getD,List.getD_eq_getElem?_getD,List.getElem?_map];cases(kR p)[(x.fmod _).toNat]?<;>rfl
theorem P3 (p:Nat)(cs:List Int):∀t∈GN p cs,t∈kR p:=fun t ht=>by
  obtain⟨x,_,rfl⟩:=qS ht;simp only[List.getD_eq_getElem?_getD];cases e:(kR p)[(x.fmod ((xO p).length:Int)).toNat]? with
  | none =>
    show 0∈kR p;unfold kR;split<;>exact .head _
  | some y=>exact List.mem_of_getElem? e
theorem mR:∀p,p<2→∀m∈kR p,∀t∈kR p,(nm m∈wM (nm t).cps.toList↔m&&&t=m):=by decide +kernel
theorem aI (hp:p<2):uQ (xO p) (jW p cs)=(kR p).map fun m=>if FF p cs m=true then 1 else 0:=by
  unfold uQ xO;rw[List.map_map];refine zN fun m hm=>?_;show(if nm m∈jD (jW p cs) then(1:Int) else 0)=_;have:nm m∈jD (jW p cs)↔FF p cs m=true:=by
    unfold jD FF;simp only[GL,List.mem_flatMap,List.any_eq_true];constructor
    · rintro⟨t',ht',h⟩;obtain⟨t,ht,rfl⟩:=qS ht';exact⟨t,ht,beq_iff_eq.mpr ((mR p hp m hm t (P3 p cs t ht)).mp h)⟩
    · rintro⟨t,ht,h⟩;exact⟨nm t,zE ht,(mR p hp m hm t (P3 p cs t ht)).mpr (beq_iff_eq.mp h)⟩
  by_cases h:FF p cs m=true
  · rw[if_pos h,if_pos (this.mpr h)]
  · rw[if_neg h,if_neg fun q=>h (this.mp q)]
theorem JP (hp:p<2):∀n∈uQ (xO p) (jW p cs),0≤n∧n<256:=fun n hn=>by
  rw[aI hp] at hn;obtain⟨m,_,rfl⟩:=qS hn;split<;>decide
theorem GZ:∀p,p<2→(kR p).reverse=(kR p).map fun m=>m^^^gR p:=by decide +kernel
theorem G5:∀p,p<2→0<(kR p).length:=by decide +kernel
theorem GV (hp:p<2):v7 p cs=(kR p).map fun m=>if GG p (FF p cs) m=true then 1 else 0:=by
  have hl:(uB p cs).size=(uQ (xO p) (jW p cs)).length:=bV _;have h0:0<(uQ (xO p) (jW p cs)).length:=by simp only[aI hp,List.length_map];exact G5 p hp
  unfold v7 v0;rw[hl];unfold uB;rw[JB (JP hp) h0,aI hp,← List.map_reverse,GZ p hp,List.map_map,List.map_map];refine zN fun m Z=>?_;show Builtin.bitXor (if FF p cs (m^^^gR p)=true then 1 else 0) 1=_;unfold GG;cases FF p cs (m^^^gR p)<;>decide +kernel
theorem J7 (hp:p<2):kD p cs=LL p (FF p cs):=cM hp fun j h0 hj=>by
  show(((uB p cs).getD j.toNat 0).toNat:Int)=_;unfold uB;rw[o4 (JP hp),aI hp];exact cR hj
theorem JX (hp:p<2):yC p cs=LL p (GG p (FF p cs)):=cM hp fun j h0 hj=>by
  show(v7 p cs).getD j.toNat 0=_;rw[GV hp];exact cR hj
theorem BQ (hp:p<2)(cs:List Int):∃rs rs' a0 a1 mid b1 b0,K4 p (kD p cs) (yC p cs) rs rs' a0 a1 mid b1 b0:=by
  rw[J7 hp,JX hp];exact B9 (P:=fun p=>∃rs rs' a0 a1 mid b1 b0,K4 p (LL p (FF p cs)) (LL p (GG p (FF p cs))) rs rs' a0 a1 mid b1 b0) (duo0 lW) (duo1 lW) p hp
end
end Mine
namespace Mine
variable {w:World}{W:Wd}{k:Nat}
theorem oX:∀(l:List (Int×Nat)) (a:List Int) (B:Int),(∀c∈a,0≤c∧c≤B)→∀c∈l.foldl jL a,0≤c∧c≤B+1000003*l.length
  | [],a,B,h,c,hc=>by have:=h c hc;simp;omega
  | q::l,a,B,h,c,hc=>by
    have:=oX l (jL a q) (B+1000003) (fun d hd=>by
      unfold jL at hd;rcases List.mem_or_eq_of_mem_set hd with hd | rfl
      · have:=h d hd;exact⟨this.1,(zT [] [_,_] (.L (.z 0) (.z 1)) [1] (.L (.z 0) (.p (.z 1) (.n 1000003))) 1 rfl this.2)⟩
      · rw[List.getD_eq_getElem?_getD];cases e:a[q.2%7]? with
        | none =>
          have hlt:=List.getElem?_eq_none_iff.mp e;rw[List.set_eq_of_length_le hlt] at hd;have h3:=h _ hd;rw[List.getD_eq_getElem?_getD,e] at h3;simp only[Option.getD_none] at h3 ⊢;exact⟨h3.1,(zT [] [q.fst.fmod 1000003,B] (.L (.p (.n 0) (.z 0)) (.z 1)) [1] (.L (.p (.n 0) (.z 0)) (.p (.z 1) (.n 1000003))) 1 rfl h3.2)⟩
        | some x =>
          have:=h x (List.mem_of_getElem? e);simp only[Option.getD_some];exact⟨(kN [] [x,q.fst.fmod 1000003] (.L (.n 0) (.z 1)) (.L (.n 0) (.z 0)) [1,1] (.L (.n 0) (.p (.z 0) (.z 1))) 1 rfl (zJ q.1 (show(0:Int)<1000003 by decide)) this.1),(kN [] [x,q.fst.fmod 1000003,B] (.T (.z 1) (.n 1000003)) (.L (.z 0) (.z 2)) [1,1] (.L (.p (.z 0) (.z 1)) (.p (.z 2) (.n 1000003))) 1 rfl (wQ q.1 (show(0:Int)<1000003 by decide)) this.2)⟩) c hc
    simp only[List.length_cons];exact⟨this.1,(zT [_] [_,_] (.L (.z 0) (.p (.p (.z 1) (.n 1000003)) (.m 1000003 (.c (.v 0))))) [1] (.L (.z 0) (.p (.z 1) (.m 1000003 (.c (.p (.v 0) (.n 1)))))) 1 rfl this.2)⟩
theorem JE {B:Int}:∀(l:List Int),(∀c∈l,0≤c∧c≤B)→0≤l.sum∧l.sum≤B*l.length
  | [],_=>by simp
  | a::r,h=>by
    have h1:=h a (.head _);have h2:=JE r fun c hc=>h c (.tail _ hc);simp only[List.sum_cons,List.length_cons];push_cast;simp only[Int.mul_add,Int.mul_one];exact⟨(kN [] [_,_] (.L (.n 0) (.z 0)) (.L (.n 0) (.z 1)) [1,1] (.L (.n 0) (.p (.z 0) (.z 1))) 1 rfl h1.1 h2.1),(kN [] [_,_,_,_] (.L (.z 0) (.z 3)) (.L (.z 1) (.z 2)) [1,1] (.L (.p (.z 0) (.z 1)) (.p (.z 2) (.z 3))) 1 rfl h1.2 h2.2)⟩
theorem KR (ns:List Int):(z8 ns).length=7∧∀i,i<(z8 ns).length→InLong ((z8 ns).getD i 0)∧InLong (((z8 ns).take (i+1)).sum):=by
  have hl:(z8 ns).length=7:=lP _ _;have hb:∀c∈z8 ns,0≤c∧c≤100000000:=fun c hc=>by
    have h1:=oX (ns.take 60).zipIdx [5,8,10,7,6,14,4] 14 (by decide) c hc;exact⟨h1.1,(kN [_] [_] (.L (.z 0) (.p (.n 14) (.m 1000003 (.c (.v 0))))) (.l (.v 0) (.n 60)) [1,1000003] (.L (.z 0) (.n 100000000)) 1 rfl h1.2 (by simp;exact(kJ _ _):(ns.take 60).zipIdx.length≤60))⟩
  refine⟨hl,fun i hi=>⟨?_,?_⟩⟩
  · rw[List.getD_eq_getElem?_getD,List.getElem?_eq_getElem hi];have:=hb _ (wF hi);simp only[Option.getD_some,InLong];exact⟨(zT [] [_] (.L (.n 0) (.z 0)) [1] (.L (.g (.n 9223372036854775808)) (.z 0)) 1 rfl this.1),(zT [] [_] (.L (.z 0) (.n 100000000)) [1] (.T (.z 0) (.n 9223372036854775808)) 1 rfl this.2)⟩
  · have h1:=JE (B:=100000000) ((z8 ns).take (i+1)) fun c hc=>hb c (sV hc);unfold InLong;exact⟨(zT [] [(List.take (i+1) (z8 ns)).sum] (.L (.n 0) (.z 0)) [1] (.L (.g (.n 9223372036854775808)) (.z 0)) 1 rfl h1.1),(kN [(List.take (i+1) (z8 ns)).length] [(List.take (i+1) (z8 ns)).sum] (.L (.z 0) (.m 100000000 (.c (.v 0)))) (.l (.v 0) (.n 7)) [1,100000000] (.T (.z 0) (.n 9223372036854775808)) 1 rfl h1.2 (by rw[List.length_take];exact(iM (qL hl)):((z8 ns).take (i+1)).length≤7))⟩
theorem UX (T:uX W){ns:List Int}(hn:ns.length≤1000):UH w W (k+24) [.dat (.list (ns.map Dat.int))] (.dat (.bool true)):=by
  refine zS fun nG=>?_;obtain⟨c,Pt,t36⟩:=T.t36;obtain⟨h7,hfit⟩:=KR ns;obtain⟨p,hT,hp⟩:∃p:Nat,(z8 ns).sum.fmod 2=p∧(p=0 ∨ p=1):=by
    have h1:=zJ (z8 ns).sum (show(0:Int)<2 by decide);have h2:=wQ (z8 ns).sum (show(0:Int)<2 by decide);exact⟨((z8 ns).sum.fmod 2).toNat,by exact(gO (FK h1)),by grind⟩
  have hp2:p<2:=by exact(qO (FP hp))
  obtain⟨rs,rs',a0,a1,mid,b1,b0,D⟩:=BQ hp2 (z8 ns);have l1:QB p (kD p (z8 ns)):=by rw[J7 hp2];exact J6 hp2
  have l2:QB p (yC p (z8 ns)):=by rw[JX hp2];exact J6 hp2
  refine nG ?_;have hei:∀x∈xO p,(x∈(kD p (z8 ns)).getD x.length []∧jX p x∉(yC p (z8 ns)).getD (jX p x).length []) ∨ (x∉(kD p (z8 ns)).getD x.length []∧jX p x∈(yC p (z8 ns)).getD (jX p x).length []):=by
    rw[J7 hp2,JX hp2];exact BP hp2
  exact BC (k:=k+23) t36 (U9 (k:=k+15) T rfl hn hp hT hfit (U8 (k:=k+15) T t36 hp h7 (U7 (k:=k+15) T hp rfl rfl l1 l2 hei (U6 (k:=k+15) T hp l1 l2 (U5 (k:=k) T hp l1 l2 D (U4 (k:=k) T hp hT h7 l1 l2 D))))))
end Mine
namespace Mine
theorem mM {M:Model}{A:Around}{Γ:Ctx}{t:Sem Fin}{R:Result→Shared→Prop}{s:Shared}(hin:Γ.In A)(hc:o9 Γ)
    (h:j3 M A t (fun fin s'=>∃f,fin=.done f∧R (.ok f) s') (fun e s'=>R (.error e) s') s)(p:Pos) :
    Sem.wp M Γ t (Sem.finPost M Γ R) (fun e Z s'=>R (.error e) s') p s:=by
  refine vO M Γ t (fun fin p' s' h'=>?_) (fun Z Z Z h'=>h') p s (h Γ p hin hc);obtain⟨f,rfl,hf⟩:=h';exact hf
theorem a9:o9 (⟨.builtin "claim.caller" {},none,none,[],none⟩:Ctx):=⟨by decide +kernel,fun Z h=>nomatch h⟩
theorem dF {prog:Program}{w:World}{t:Sem Fin}{s:Shared}{R:Result→Shared→Prop}(hreg:s.asleep)
    (h:j3 (model prog w) callerA t (fun fin s'=>∃f,fin=.done f∧(R (.ok f) s'∧leftWithCleanup s'.gens=false)) (fun e s'=>R (.error e) s'∧leftWithCleanup s'.gens=false) s) :
    ∃n r s' s'',runN (denote table) prog w n s ⟨t,.builtin "claim.caller" {},default,[]⟩=.halted (outcomeOf r) s' ∧
      schedN (denote table) prog w n (.single s ⟨t,.builtin "claim.caller" {},default,[]⟩)=.halted (outcomeOf r) s'∧s'.forget=s''.forget∧R r s'':=by
  refine zS fun nG=>?_;obtain⟨n,r,s₁,s₂,hs,hn,hfo,hR⟩:=wp_halts_full (M:=model prog w) (R:=R) hreg (mM (R:=fun r s'=>R r s'∧leftWithCleanup s'.gens=false) caller_in a9 h default);refine nG ?_;exact⟨n,r,s₂,s₁,hn,hs,hfo,hR⟩
end Mine
namespace Mine
theorem tE {c:ClaimW}{tree:List Value→Sem Fin}{w:World}{s:Shared}{free:Addr→Prop}{gens:Prop}{kept:Heap→Prop}(hz:s.asleep)(hgens:s.gens=#[])
    (hspec:∀args,c.pre args=true→WData.layableAll args=true →
      ∀ord:List DictEntry→List DictEntry,(∀l,(ord l).Perm l) →
      ∃vs s₁,layAllW c.records (classAt s.heap) w.params ord args s=some (vs,s₁) ∧
        j3 (model c.prog w) callerA (tree vs) (fun fin s'=>∃f,fin=.done f∧(c.Ends s args vs s₁ (.ok f) s'∧s'.os=s.os∧AllBare s'.gens∧kept s'.heap))
          (fun e s'=>c.Ends s args vs s₁ (.error e) s'∧s'.os=s.os∧AllBare s'.gens∧kept s'.heap) s₁) :
    c.CallFrom (fun vs=>⟨tree vs,.builtin "claim.caller" {},default,[]⟩) w free gens kept s:=by
  intro args hpre hlay ord hord;refine zS fun nG=>?_;obtain⟨vs,s₁,hlaid,hcode⟩:=hspec args hpre hlay ord hord;have hal:=layAllW_rest _ _ _ hlaid
  obtain⟨k,r,s',s'',jZ,hsched,hfo,hcase,hos,hkp⟩:=dF (prog:=c.prog) (w:=w) (t:=tree vs) (s:=s₁)
    (R:=fun r s'=>c.Ends s args vs s₁ r s'∧s'.os=s.os∧kept s'.heap)
    (Shared.asleep_of_life hal.2.2.2 hz)
    (jI hcode (by
      rintro fin s' ⟨f,e,h1,h2,h3,h4⟩;exact⟨f,e,⟨h1,h2,h4⟩,leftWithCleanup_false_of_bare h3⟩) (by
      rintro e s' ⟨h1,h2,h3,h4⟩;exact⟨⟨h1,h2,h4⟩,leftWithCleanup_false_of_bare h3⟩))
  obtain⟨eh,_,_,eo,_⟩:=Shared.forget_eq hfo;have hcase:=ClaimW.Ends.congr eh hcase;refine nG ?_;rw[← eo] at hos;refine⟨vs,s₁,hlaid,k,_,s',hsched,?_,(fun Z i x hx=>by rw[hgens] at hx;simp at hx),(by first | exact eh▸hkp | (rw[eh] at hkp;exact hkp) | (rw[← eh] at hkp;exact hkp):kept s'.heap),by rw[((runN_life _ _ _ jZ).trans hal.2.2.2:s'.heap.life=s.heap.life)],Shared.rest_eq hos⟩;rcases hcase with⟨v,rfl,d1,d2,d3,d4,d5⟩ | ⟨e,ob,cls,rfl,d1,d2,d3,d4,d5⟩
  · exact .inl ⟨v,rfl,d1,d2,d3,fun b o y Z=>d4 b o y,d5⟩
  · exact .inr ⟨e,ob,cls,rfl,d1,d2,d3,d4,fun b o y Z=>d5 b o y⟩
end Mine
namespace Mine
theorem Q1 {r:RowW}{run:Value→List Value→Sem Value}{tree:List Value→Sem Fin}{q:Program}{loose defs kps:List Str}{writes:Bool}{Xt:Shared→Bool}{XP:(Str→Option Value)→Heap→Prop}{α:Type}{Yf:Shared→α}{Ya:World→α}{N:Nat}
    (left:LeftO r.prog q loose Xt Yf Ya N)(hX:∀s,Xt s=true→XP (s.heap.nsMap mainGlobals) s.heap)(hXk:∀mg h h',XP mg h→(∀b o,h.get? b=some o→h'.get? b=some o)→XP mg h')
    (hRf:∀s,Xt s=true→RecFacts r.records s.heap)(hwr:(!writes||r.records.isEmpty)=true)(ok:(chainsOk q&&opensWell r.prog&&(frees r&&r.within.isEmpty))=true)(hb:r.prog.bare)(hw:r.promised)
    (ht:∀vs (w:World) (s:Shared) mg f (Q:Fin→Shared→Prop) (E:Value→Shared→Prop),s.heap.Ns mainGlobals mg→mg r.name=some f→j3 (model r.prog w) callerA (run f vs) (fun v s'=>Q (.done (.ret v)) s') E s→j3 (model r.prog w) callerA (tree vs) Q E s)
    (pin:∀w s,s.heap.isNs mainGlobals=true→Ground q loose [] XP w s (s.heap.nsMap mainGlobals) (s.heap.nsMap builtinsNs) s.heap→∀n∈defs,isTheDefsW r.prog s.heap n)
    (call:∀(w:World) (s₀ s₁:Shared) (mg mb:Str→Option Value),Ground q loose r.records XP w s₀ mg mb s₁.heap→Yf s₀=Ya w→∀(args:List WData) (vs:List Value) (as:List Addr),
      r.claim.pre args=true→WData.layableAll args=true→Laid r.records w s₀ s₁ args vs as→sysModules<s₀.heap.objs.size→∃f,mg r.name=some f ∧
        j3 (model r.prog w) callerA (run f vs) (fun v s'=>GoodWG r.claim (classAt s₀.heap) (ExcName.means s₀.heap) args s₁ (.ok (.ret v)) s')
          (fun e s'=>GoodWG r.claim (classAt s₀.heap) (ExcName.means s₀.heap) args s₁ (.error e) s') s₁):r.claim.HoldsOpenBy (fun vs=>⟨tree vs,.builtin "claim.caller" {},default,[]⟩) defs kps writes:=by
  refine zS fun nG=>?_;obtain⟨ok,k5⟩:=Bool.and_eq_true_iff.mp ok;obtain⟨hch,o1⟩:=Bool.and_eq_true_iff.mp ok;obtain⟨k5,k6⟩:=Bool.and_eq_true_iff.mp k5;obtain⟨hsame,hu,ha,hap,hm⟩:=frees_parts k5;refine nG ?_;refine⟨⟨hb,o1,by show r.makers.map _=[];rw[hm];rfl⟩,hw.witness,fun w=>⟨(left.behind hX hch w).1,fun s' hs'=>?_⟩⟩;refine zS fun nG=>?_;obtain⟨s₀,hf,hg0,s,hT,hz,hgens,hg,G00,y⟩:=(left.behind (XP:=fun mg h=>XP mg h∧RecFacts r.records h) (fun s hs=>⟨hX s hs,hRf s hs⟩) hch w).2 s' hs';have G0:Ground q loose [] XP w s (s.heap.nsMap mainGlobals) (s.heap.nsMap builtinsNs) s.heap:=⟨G00.T,G00.B,G00.D,G00.TE,G00.TD,G00.W,G00.X.1,G00.cls,G00.has,G00.apart,G00.once,G00.K⟩;have RF:=G00.X.2;have hT':=hT;refine nG ?_;refine⟨s₀,hf,hg0,s,hT,pin w s hg G0,RF.1,RF.2.1,?_⟩;have hgens:s.gens=#[]:=Array.eq_empty_of_size_eq_zero (beq_iff_eq.mp hgens);have G:Ground q loose r.records XP w s _ _ s.heap:=RF.ground G0;refine tE (c:=r.claim) hz hgens fun args hpre hlay ord hord=>?_;refine zS fun nG=>?_;obtain⟨⟨vs,s₁⟩,hlaid⟩:=Option.isSome_iff_exists.mp (layAllW_isSome (P:=w.params) (ord:=ord) G.has args r.args s (pre_splitW hpre).1);have keeps:=layAllW_keeps _ _ _ hlaid;have hal:=layAllW_rest _ _ _ hlaid;obtain⟨as,hrd,hin,hold⟩:=reads_layAllW hord _ _ _ hlaid hlay s₁.heap (fun Z Z e=>e);have L:Laid r.records w s s₁ args vs as:=⟨⟨ord,hord,hlaid⟩,hrd,hin,hold,keeps,hal.1.trans hgens,hal.2.2.1⟩;have G₁:=G.keeps hXk keeps;obtain⟨f,hf,h⟩:=call w s s₁ _ _ G₁ y args vs as hpre hlay L G.low;have hi:=ident_freeW hu ha hap;have hwi:r.claim.within=[]:=List.isEmpty_iff.mp k6;refine nG ?_;exact⟨vs,s₁,hlaid,ht vs w s₁ _ f _ _ G₁.T.g hf (jI h (fun v s' g=>⟨_,rfl,have z:=g.laid (c:=r.claim) hsame hwi hi L;⟨z.1,z.2.1,z.2.2,fun q=>⟨namesKept_of hT' hg kps keeps g.2.1.old,noTable hwr q⟩⟩⟩) fun e s' g=>have z:=g.laid (c:=r.claim) hsame hwi hi L;⟨z.1,z.2.1,z.2.2,fun q=>⟨namesKept_of hT' hg kps keeps g.2.1.old,noTable hwr q⟩⟩)⟩
noncomputable abbrev V0 (q:Program)(loose:List Str)(XP:(Str→Option Value)→Heap→Prop){α:Type}(Yf:Shared→α)(Ya:World→α)(r:RowW)(d:DefRec)(kwd:List (Str×Expr))(run:Value→List Value→Sem Value):Prop :=
  ∀(w:World) (s₀ s₁:Shared) (mg mb:Str→Option Value),Ground q loose r.records XP w s₀ mg mb s₁.heap→Yf s₀=Ya w→∀(a:Addr) (o:Obj) (pm cd doc dV kV:Value),s₁.heap.get? a=some o →
    o.data=.func {docDef d.name d.params d.body d.scope pm cd doc with defaults:=dV,kwdefaults:=kV}→s₁.heap.CodeRec cd d.name→Dflts mg s₁.heap d.params kwd dV kV→mg d.name=some (.ref a)→s₁.gens=#[] →
    ∀(args:List WData) (vals:List Value) (as:List Addr),Laid r.records w s₀ s₁ args vals as→r.claim.pre args=true→WData.layableAll args=true→ReadsAllW r.records (classAt s₀.heap) s₁.heap vals args as→WellAll w.params s₁.heap vals args→(∀a∈as,(a==sysModules)=false) →
      j3 (model r.prog w) callerA (run (.ref a) vals) (fun v s'=>GoodWG r.claim (classAt s₀.heap) (ExcName.means s₀.heap) args s₁ (.ok (.ret v)) s')
        (fun e s'=>GoodWG r.claim (classAt s₀.heap) (ExcName.means s₀.heap) args s₁ (.error e) s') s₁
theorem aO {r:OpenRow}{q:Program}{loose:List Str}{Xt:Shared→Bool}{XP:(Str→Option Value)→Heap→Prop}{α:Type}{Yf:Shared→α}{Ya:World→α}{d:DefRec}{kwd:List (Str×Expr)}{N:Nat}
    (left:LeftO r.prog q loose Xt Yf Ya N)
    (hX:∀s,Xt s=true→XP (s.heap.nsMap mainGlobals) s.heap)(hXk:∀mg h h',XP mg h→(∀b o,h.get? b=some o→h'.get? b=some o)→XP mg h')
    (hdef:defOf q r.name=some (d,kwd))(hp:r.prog.theDef r.name=some (d.params,d.body,d.scope))(hk:kwWritten? d.params.kwonlyargs d.params.kw_defaults=some kwd)(hRf:∀s,Xt s=true→RecFacts r.records s.heap)(hwr:(!r.writes||r.records.isEmpty)=true)
    (k1:r.wellSaid=true)(ok:(chainsOk q&&opensWell r.prog&&(frees r.toRowW&&r.within.isEmpty))=true)(hb:r.prog.bare)(hw:r.toRowW.promised)
    (call:V0 q loose XP Yf Ya r.toRowW d kwd fun f vs=>PySem.call f vs):r.Holds:=by
  refine⟨k1,hw,Q1 (r:=r.toRowW) (run:=fun f vs=>PySem.call f vs) (tree:=fun vs=>do match←nsGet mainNs r.name with
      | some f=>do ret (← PySem.call f vs)
      | none=>unsupported "claim.caller:no-such-global") left hX hXk hRf hwr ok hb hw
    (fun vs w s mg f Q E hg hf h=>wG (wpAny_nsGet hg (by rw[hf];exact kM (jI h (fun Z Z x=>pP x) fun Z Z x=>x))))
    (fun w s hg G n hn=>?_) fun w s₀ s₁ mg mb G Y args vs as hpre hlay L low=>?_⟩
  · obtain rfl:n=r.name:=by split at hn<;>simp_all
    exact pinned_of_view hg G hdef hp hk
  · obtain⟨a,o,pm,cd,doc,dV,kV,h1,h2,h3,h4,h5⟩:=G.fn hdef;exact⟨.ref a,h1,call w s₀ s₁ mg mb G Y a o pm cd doc dV kV h2 h3 h4 h5 (defOf_name hdef▸h1) L.gens args vs as L hpre hlay L.reads L.well (L.low low)⟩
end Mine
namespace Mine
theorem Q2 {K:Frag}{h:Heap}{a:Addr}{mm:Str→Option Value}{n:Str}(X:K.In h)(G:h.Ns a mm)(e:nsIn K a n=some none):mm n=none:=by
  refine zS fun nG=>?_;obtain⟨o,es,ep,ho,hd,_,hf⟩:=G;refine nG ?_;unfold nsIn at e;cases q:K.lookup a with
  | none=>rw[q] at e;cases e
  | some x =>
    rw[q] at e;cases Option.some.inj (ho.symm.trans (X _ _ q));obtain⟨c,d,dt,sl⟩:=o;cases hd;dsimp only at e;cases he:es.toList.find? (·.key.isStr n) with
    | some x=>rw[he] at e;cases e
    | none =>
      rw[← hf];unfold nsFind findBy;simp only[← Array.find?_toList,he];rfl
noncomputable def lE:List Str:=["len","range","enumerate","zip","reversed","bytearray","bytes","divmod","sum","isinstance","bool","str","list","max","min","int","sorted","ValueError"]
section
variable {q:Program}{loose:List Str}{mean:ExcName→Option Value}{K:Frag}{w:World}{h:Heap}{mg mb:Str→Option Value}{tabs:List (Addr×Addr)}
noncomputable def FS (T:Top q loose mean mg mb h)(hT:TabsAt tabs h)(X:K.In h)(hst:nsIn K cStatics sharingNotToldKey=some none)(qual:Addr→Str):Wd where
  base:=ghostOf h tabs
  mg:=mg
  mb:=mb
  tabs:=tabs
  qual:=qual
  g:=ghost_ns hT T.g
  b:=ghost_ns hT T.b
  nolimit:=let⟨mc,a,r⟩:=T.nolimit;⟨mc,ghost_ns hT a,r⟩
  nodigits:=let⟨mc,a,r⟩:=T.nodigits;⟨mc,ghost_ns hT a,r⟩
  booked:=let⟨mc,a,r⟩:=T.nodigits;⟨mc,ghost_ns hT a,Q2 X a hst⟩
  builtins:=T.builtins
  bmain:=let⟨bm,ob,a1,a2,a3,a4,r⟩:=T.bmain;⟨bm,ob,a1,a2,ghost_get hT a3 (fun q=>by rw[q] at a4;cases a4),a4,r⟩
  hidden:=fun q hq=>hideAll_none _ (zE hq)
  heads:=fun q hq=>by
    refine zS fun nG=>?_;obtain⟨o,vs,file,tf,flags,tg,inF,text,tt,e1,r1,r2,r3,r4,r5,r6,r7,r8,hne⟩:=(hT q hq).1;refine nG ?_;exact⟨o,vs,file,tf,flags,tg,inF,text,tt,ghost_get hT e1 (fun q=>by rw[q] at r1;cases r1),r1,r2,r3,r4,r5,r6,r7,r8,hne⟩
  low:=fun q hq=>by
    show _<(ghostOf h tabs).objs.size;simp only[hideAll_size];exact qJ (hT q hq).2
theorem KB (hT:TabsAt tabs h){cd:Value}{n:Str}(x:h.CodeRec cd n):(ghostOf h tabs).CodeRec cd n:=by
  refine zS fun nG=>?_;obtain⟨c,o,vs,t,e,ho,hd,hv⟩:=x;refine nG ?_;exact⟨c,o,vs,t,e,ghost_get hT ho (fun q=>by rw[q] at hd;cases hd;simp at hv),hd,hv⟩
theorem G7 (T:Top q loose mean mg mb h)(hT:TabsAt tabs h)(X:K.In h)(hst:nsIn K cStatics sharingNotToldKey=some none)(hrec:recsOf q=nI.map xC)
    (hfree:∀x∈lE,x∉startupNames∧x∉loose∧x∉(recsOf q).map (·.name)∧x∉(litsOf q).map (·.1)∧x∉(clssOf q loose).map (·.name))
    (hlim:valOf q "_DIV_LIMIT"=some (.int 4000))(hcm:valOf q "CHAR_MAX"=some (.int 127)){c6 P6 c7 P7 c36 P36:Addr}(ht:tabs=[(c6,P6),(c7,P7),(c36,P36)])
    (h6:tabIn K "_int2digits"=some (c6,P6))(h7:tabIn K "_digits2int"=some (c7,P7))(h36:tabIn K "law"=some (c36,P36))(hne:P6≠P7∧P6≠P36∧P7≠P36) :
    uX (FS T hT X hst fun P=>if P=P6 then "_int2digits.<locals>.inner" else if P=P7 then "_digits2int.<locals>.inner" else "law.<locals>.<lambda>") where
  ok:={
    fns:=fun i hi=>by
      refine zS fun nG=>?_;obtain⟨a,o,pm,code,doc,h1,h2,h3,h4⟩:=T.fn (xC i) (by rw[hrec];exact zE hi);refine nG ?_;exact⟨a,h1,o,pm,code,doc,ghost_get hT h2 (fun q=>by rw[q] at h3;cases h3),h3,KB hT h4⟩
    free:=fun x hx=>by
      refine zS fun nG=>?_;obtain⟨a1,a2,a3,a4,a5⟩:=hfree x hx;refine nG ?_;exact T.free x a1 a2 a3 a4 a5
    lim:=by
      obtain⟨v,h1,h2⟩:=T.const _ _ hlim;have:=h2 h;cases this;exact⟨_,h1⟩
    cmax:=by
      obtain⟨v,h1,h2⟩:=T.const _ _ hcm;have:=h2 h;cases this;exact⟨_,h1⟩}
  nd:=fun a ha b hb e=>by
    subst ht;obtain⟨n1,n2,n3⟩:=hne;have ha':a∈[(c6,P6),(c7,P7),(c36,P36)]:=ha;have hb':b∈[(c6,P6),(c7,P7),(c36,P36)]:=hb;simp only[List.mem_cons,List.not_mem_nil,or_false] at ha' hb';rcases ha' with rfl | rfl | rfl<;>rcases hb' with rfl | rfl | rfl<;>first | rfl | exact absurd e n1 | exact absurd e n2 | exact absurd e n3 | exact absurd e.symm n1 | exact absurd e.symm n2 | exact absurd e.symm n3
  t6:=⟨c6,P6,by show _∈tabs;rw[ht];exact .head _,if_pos rfl,fun a o pm code doc hm ho hd=>law_code X T.g h6 hm (of_hideAll _ ho) hd⟩
  t7:=⟨c7,P7,by show _∈tabs;rw[ht];exact .tail _ (.head _),by show(if P7=P6 then _ else _)=_;rw[if_neg hne.1.symm,if_pos rfl],fun a o pm code doc hm ho hd=>law_code X T.g h7 hm (of_hideAll _ ho) hd⟩
  t36:=⟨c36,P36,by show _∈tabs;rw[ht];exact .tail _ (.tail _ (.head _)),by show(if P36=P6 then _ else _)=_;rw[if_neg hne.2.1.symm,if_neg hne.2.2.symm],fun a o pm code doc hm ho hd=>law_code X T.g h36 hm (of_hideAll _ ho) hd⟩
theorem BD {s:Shared}{c6 P6 c7 P7 c36 P36:Addr}(X:K.In s.heap)(T:Top q loose mean mg mb s.heap)(hT:TabsAt [(c6,P6),(c7,P7),(c36,P36)] s.heap)(hst:nsIn K cStatics sharingNotToldKey=some none)(hrec:recsOf q=nI.map xC)
    (hfree:∀x∈lE,x∉startupNames∧x∉loose∧x∉(recsOf q).map (·.name)∧x∉(litsOf q).map (·.1)∧x∉(clssOf q loose).map (·.name))
    (hlim:valOf q "_DIV_LIMIT"=some (.int 4000))(hcm:valOf q "CHAR_MAX"=some (.int 127))
    (h6:tabIn K "_int2digits"=some (c6,P6))(h7:tabIn K "_digits2int"=some (c7,P7))(h36:tabIn K "law"=some (c36,P36))(hne:P6≠P7∧P6≠P36∧P7≠P36)
    {ns:List Int}{t₀ a fa:Nat}(hn:ns.length≤1000)(ht0:0<t₀)(htk:s.toks=t₀+ns.length)(ha:s.heap.get? a=some (listOf (gA t₀ ns).toArray 0))(hg:s.gens=#[])(hfa:mg "law"=some (.ref fa))
    {Q:Value→Shared→Prop}{E:Value→Shared→Prop}
    (hq:∀s',(∀b o,b∉[P6,P7,P36]→s.heap.get? b=some o→s'.heap.get? b=some o)→(∀b∈[P6,P7,P36],∃ps,s'.heap.get? b=some (tabObj ps))→s'.os=s.os→AllBare s'.gens→Q (.bool true) s') :
    j3 (model pw w) callerA (call (.ref fa) [.ref a]) Q E s:=by
  let W:=FS T hT X hst fun P=>if P=P6 then "_int2digits.<locals>.inner" else if P=P7 then "_digits2int.<locals>.inner" else "law.<locals>.<lambda>"
  have wt:uX W:=G7 T hT X hst hrec hfree hlim hcm rfl h6 h7 h36 hne;have isTab:∀b,W.tab b↔b∈[P6,P7,P36]:=fun b=>by
    constructor
    · rintro⟨r,hr,rfl⟩;exact zE (f:=Prod.snd) (show r∈[(c6,P6),(c7,P7),(c36,P36)] from hr)
    · intro hb;obtain⟨r,hr,e⟩:=qS (show b∈[(c6,P6),(c7,P7),(c36,P36)].map Prod.snd from hb);exact⟨r,hr,e⟩
  have b0:wC W {s with toks:=t₀} ⟨[(a,listOf (gA t₀ ns).toArray 0)],[]⟩:=by
    refine⟨fun b o e=>of_hideAll _ e,fun p hp=>?_,⟨ht0,fun Z h=>(nomatch h),fun Z h=>(nomatch h)⟩,fun r hr=>?_,fun p hp=>?_,qL (hideAll_size _ _)⟩
    · cases qF hp;exact ha
    · exact⟨#[],(hT r hr).2,trivial,fun pos cv e=>nomatch e⟩
    · cases qF hp;rintro⟨r,hr,e⟩;have h1:=(hT r hr).2;rw[show r.2=a from e,ha] at h1;cases h1
  obtain⟨b1,g1⟩:=K8 (W:=W) t₀ (ns.map Dat.int) _ _ b0 rfl;have es:({s with toks:=t₀+(ns.map Dat.int).length}:Shared)=s:=by rw[List.length_map,← htk]
  have hv:w8 pw w (Fz.tkl ⟨[(a,listOf (gA t₀ ns).toArray 0)],[]⟩ t₀ (ns.map Dat.int)) [.ref a] [.dat (.list (ns.map Dat.int))] :=
    .cons (xQ.list ((Q8 _ _ _).obs _ (.head _)) (m6 ns t₀ _)) .nil
  obtain⟨a',f36⟩:=wt.ok.fns 36 (by decide);have e36:a'=fa:=by
    have h1:mg "law"=some (.ref a'):=f36.glob;rw[hfa] at h1;cases h1;rfl
  subst e36;refine UX (k:=0) wt hn a' f36 s _ [.ref a] (by rw[← es];exact b1:wC W s (Fz.tkl ⟨[(a,listOf (gA t₀ ns).toArray 0)],[]⟩ t₀ (ns.map Dat.int))) hv callerA _ _ ⟨rfl,by exact qA rfl,by exact qA rfl⟩ rfl fun v s' F' g hv'=>?_;refine xQ.eBool (hv':xQ F' v (.bool true)) ?_;refine hq s' (fun b o hb e=>g.keep b o (fun t=>hb ((isTab b).mp t)) e) (fun b hb=>?_) g.os (g.gens.2 (.of_eq hg));obtain⟨r,hr,rfl⟩:=(isTab b).mpr hb;obtain⟨ps,h1,_⟩:=g.tabs r hr;exact⟨ps,h1⟩
end
end Mine
namespace Mine
theorem cO {R:WRecords}{cl:Str→Option Addr}{P:Params}{ord:List DictEntry→List DictEntry}:∀(ns:List Int) (s:Shared) (r:List Value×Shared),layAllW R cl P ord (ofPys (ns.map PyData.int)) s=some r→r.1=gA s.toks ns∧r.2={s with toks:=s.toks+ns.length}
  | [],s,r,e=>by
    have:layAllW R cl P ord (ofPys (List.map PyData.int [])) s=some ([],s):=by exact rfl
    rw[this] at e;cases e;exact⟨rfl,rfl⟩
  | n::ns,s,r,e=>by
    simp only[List.map_cons,ofPys,ofPy,layAllW,layW] at e;cases q:layAllW R cl P ord (ofPys (List.map PyData.int ns)) {s with toks:=s.toks+1} with
    | none=>rw[q] at e;cases e
    | some r' =>
      rw[q] at e;cases e;obtain⟨h1,h2⟩:=cO ns {s with toks:=s.toks+1} r' q;refine⟨by rw[h1];rfl,?_⟩;rw[h2,List.length_cons];show({s with toks:=s.toks+1+ns.length}:Shared)=_;congr 1;exact(vL _ _ _)
theorem QW {R:WRecords}{w:World}{s₀ s₁:Shared}{ns:List Int}{a:Addr}{as:List Addr}(L:Laid R w s₀ s₁ [ofPy (PyData.list (ns.map PyData.int))] [.ref a] as):s₁.toks=s₀.toks+ns.length∧s₁.heap.get? a=some (listOf (gA s₀.toks ns).toArray 0):=by
  obtain⟨ord,_,e⟩:=L.laid;simp only[ofPy,layAllW,layW] at e;cases q:layAllW R (classAt s₀.heap) w.params ord (ofPys (List.map PyData.int ns)) s₀ with
  | none=>rw[q] at e;cases e
  | some r =>
    rw[q] at e;obtain⟨h1,h2⟩:=cO ns s₀ r q;simp only[Option.some.injEq,Prod.mk.injEq,List.cons.injEq,Value.ref.injEq] at e;obtain⟨⟨ea,_⟩,es⟩:=e;rw[← es,← ea,h2,h1];exact⟨rfl,Heap.get?_push_size _ rfl⟩
theorem GW {tabs:List (Addr×Addr)}{h h':Heap}(hT:TabsAt tabs h)(k1:∀b o,b∉tabs.map (·.2)→h.get? b=some o→h'.get? b=some o)(k2:∀b∈tabs.map (·.2),∃ps,h'.get? b=some (tabObj ps)):OldK h h':=by
  have grown:∀b o,b∈tabs.map (·.2)→h.get? b=some o→isCodeTable h b∧o=tabObj #[]∧∃ps,h'.get? b=some (tabObj ps):=fun b o hb e=>by
    obtain⟨ps,hP⟩:=k2 b hb;obtain⟨q,hq,rfl⟩:=qS hb;have e2:=(hT q hq).2;rw[e] at e2;exact⟨((hT q hq).1.tab (hT q hq).2).isCodeTable,Option.some.inj e2,ps,hP⟩
  refine⟨fun b o e=>?_,fun b o e=>?_⟩
  · by_cases hb:b∈tabs.map (·.2)
    · obtain⟨ht,rfl,ps,hP⟩:=grown b o hb e;exact .inr (.inl ⟨ht,rfl,#[],ps,rfl,by rw[Array.empty_append];exact hP⟩)
    · exact .inl (k1 b o hb e)
  · by_cases hb:b∈tabs.map (·.2)
    · obtain⟨_,_,ps,hP⟩:=grown b o hb e;exact⟨_,hP⟩
    · exact⟨o,k1 b o hb e⟩
end Mine
open PySem PySem.W PyProof.Rows
namespace Mine
theorem PySem.W.holds_openX {r:OpenRow}{q:Program}{loose:List Str}{Xt:Shared→Bool}{XP:(Str→Option Value)→Heap→Prop}{α:Type}{Yf:Shared→α}{Ya:World→α}{d:DefRec}{kwd:List (Str×Expr)}{N:Nat}
    (left:∀w,(openEnds treeTable r.prog w N).map (fun s=>(openSeen q loose (importedModules r.prog.main.body) Xt true s,Yf s))=some (openGood q loose,Ya w))
    (hX:∀s,Xt s=true→XP (s.heap.nsMap mainGlobals) s.heap)(hXk:∀mg h h',XP mg h→(∀b o,h.get? b=some o→h'.get? b=some o)→XP mg h')
    (hdef:defOf q r.name=some (d,kwd))(hp:r.prog.theDef r.name=some (d.params,d.body,d.scope))(hk:kwWritten? d.params.kwonlyargs d.params.kw_defaults=some kwd)(hRf:∀s,Xt s=true→RecFacts r.records s.heap)(hwr:(!r.writes||r.records.isEmpty)=true)
    (k1:r.wellSaid=true)(ok:(chainsOk q&&opensWell r.prog&&(frees r.toRowW&&r.within.isEmpty))=true)(hb:r.prog.bare)(hw:r.toRowW.promised)
    (call:V0 q loose XP Yf Ya r.toRowW d kwd fun f vs=>PySem.call f vs):r.Holds:=aO left hX hXk hdef hp hk hRf hwr k1 ok hb hw call
set_option tactic.hygienic true in
set_option maxHeartbeats 8000000 in
theorem fin:PySem.Challenge.rw_wy0028_01.Holds:=by
  w_on;refine holds_law ?_ fun said=>?_
  · delta OpenLaw.wellSaid OpenRow.wellSaid OpenRow.partSaid looksOpen
    repeat' (with_reducible apply look_both)
    all_goals decide +kernel
  z_head;(case hw=>w_witness2)
  intro w s₀ s₁ mg mb G Y fa o pm cd doc dV kV ho hd hcd hD hmg hg args vals as L hpre hlay hrd hwl hlo
  z_open Y L KX ZH ZN ZT
  have hfa:=hmg;have hgens:=hg;clear hd ho Y hcd hD hmg;refine Ground.open G ?_;intro T B D TE TW;clear B D TE TW
  wrow_args hpre hlay hrd hwl hlo
  rename_i ns _ _ _ _ _ _ _ a _ _ _ _ _ _ _ _ hcn _
  obtain⟨k1,k2⟩:=QW L;have hT:TabsAt [(41,37),(48,44),(209,207)] s₁.heap:=List.forall_mem_cons.mpr ⟨⟨codeHd_of_K KX (by kernel_rfl),KX 37 _ (by kernel_rfl)⟩,List.forall_mem_cons.mpr ⟨⟨codeHd_of_K KX (by kernel_rfl),KX 44 _ (by kernel_rfl)⟩,List.forall_mem_cons.mpr ⟨⟨codeHd_of_K KX (by kernel_rfl),KX 207 _ (by kernel_rfl)⟩,fun Z h=>nomatch h⟩⟩⟩;refine BD (ns:=ns) (t₀:=s₀.toks) KX T hT (by kernel_rfl) (by kernel_rfl) (by decide +kernel) (by kernel_rfl) (by kernel_rfl) (by kernel_rfl) (by kernel_rfl) (by kernel_rfl) (by decide) (by omega) (by rw[ZT];decide) k1 k2 hgens hfa fun s' q1 q2 q3 q4=>?_;refine⟨.inl ⟨_,.bool true,[],rfl,fun Z=>rfl,ReadsW.bool true,?_,fun Z=>⟨List.nodup_nil,fun Z h=>nomatch h⟩⟩,GW hT q1 q2,q3,q4⟩
  first | rfl | wrow_post
end Mine
theorem PySem.Challenge.cw_wy0028_01_holds : PySem.Challenge.rw_wy0028_01.Holds :=
  Mine.fin
