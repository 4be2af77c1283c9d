import PyProof.Rows.All
import Wide.All
import OpenK.AllK
import Wide.FinOn
import PySem.Challenge.RW_pk0128_01
open PySem PySem.W PyProof.Rows PySem.Calls PySem.Spec
set_option Elab.async false
set_option linter.all false
set_option maxRecDepth 100000
set_option maxHeartbeats 8000000
set_option rowWalk.seconds 0
set_option genInjectivity false
set_option genSizeOf false
set_option genCtorIdx false
set_option compiler.extract_closed false
namespace Internal
noncomputable section
abbrev X6:=List (Addr×Obj)
abbrev X7:=Str->Option Value
abbrev X8:=Value->Shared->Prop
abbrev X9:=PySem.Expr
abbrev Yb:=List Value
abbrev Yc:=List Int
abbrev Yd:=List Stmt
noncomputable abbrev Ye:=Str.ofString
def Kz:=@PySem.wpAny_bind
def KA:=@List.mem_append_left
def KB:=@List.mem_append_right
def KC:=@Nat.le_of_ble_eq_true
def KD:=@PySem.Str.length_append
def KE:=@PySem.wpAny_pure
def KF:=@List.mem_singleton
def KG:=@List.length_map
def KH:=@Nat.le_trans
def KI:=@List.mem_cons
def KJ:=@List.length_append
def KK:=@List.mem_map
def KL:=@List.getElem?_eq_getElem
def KM:=@List.mem_append
def KN:=@PySem.Heap.get?_push_of_some
def KO:=@if_neg
def KP:=@List.map_append
def KQ:=@PySem.Heap.lt_size
def KR:=@Bool.false_ne_true
def KS:=@List.append_assoc
def KU:=@List.getD_eq_getElem?_getD
def KV:=@List.forall_mem_cons
def KW:=@List.mem_map_of_mem
def KY:=@decide_eq_true
def KZ:=@if_pos
def K0:=@decide_eq_false
def K1:=@Nat.le_refl
def K6:=@Nat.zero_le
def K7:=@Int.natCast_nonneg
def K8:=@Nat.ne_of_lt
def K9:=@PySem.wpAny_mono
def La:=@Int.toNat_natCast
def Lb:=@Nat.lt_of_lt_of_le
def Lc:=@PySem.Heap.get?_push_size
def Ld:=@List.perm_append_comm_assoc
def Le:=@List.length_cons
def Lf:=@List.perm_middle
def Lg:=@List.mem_filter
def Lh:=@PySem.sizeLine_eq
def Li:=@PySem.F.type_list_append
def Lj:=@List.append_nil
def Lk:=@PySem.wpAny_holding
def Ll:=@List.getElem?_eq_some_iff
def Lm:=@List.take_length
def Lo:=@PySem.wpAny_items_cons
def Lp:=@PySem.Heap.SameBut.update
def Lq:=@PySem.F.slot_list_append
def Lr:=@PySem.wpAny_execs_cons
def Ls:=@List.sublist_cons_self
def Lu:=@List.Perm.append_left
def Lv:=@Option.map_eq_some_iff
def Lw:=@List.size_toArray
def Lx:=@Nat.lt_of_le_of_lt
def Ly:=@List.nodup_cons
def Lz:=@List.sublist_append_right
def LA:=@PySem.wpAny_items_nil
def LB:=@List.map_cons
def LC:=@PyProof.Rows.Call_Name
def LD:=@Int.ofNat_lt
def LF:=@Nat.le_of_lt
def LG:=@PySem.wpAny_standAt
def LH:=@List.not_mem_nil
def LI:=@Nat.lt_succ_of_lt
def LJ:=@PySem.BindsTo.of_eq
def LK:=@Int.fdiv_eq_ediv_of_nonneg
def LL:=@List.mem_of_getElem?
def LM:=@Nat.not_lt_zero
def LN:=@beq_eq_false_iff_ne
def LO:=@PySem.Around.under_plainId
def LP:=@List.dropLast_concat
def LQ:=@List.mem_iff_getElem
def LR:=@Nat.lt_succ_self
def LS:=@PySem.wpAny_call_entry
def LT:=@Int.lt_of_lt_of_le
def LU:=@List.getElem?_append_right
def LV:=@PySem.seg_bind_wrap
def LW:=@List.perm_append_comm
def LX:=@List.getElem?_map
def LY:=@PySem.wpAny_newObj_type
def LZ:=@List.pairwise_cons
def L7:=@PyProof.Txt.length_slice_le
def L8:=@PySem.Heap.size_push
def L9:=@List.foldl_cons
def Ma:=@Nat.mod_lt
def Mb:=@Array.length_toList
def Mc:=@List.forall_mem_nil
def Md:=@List.cons_append
def Me:=@PySem.Str.empty_append
def Mf:=@Nat.le_of_eq
def Mg:=@PySem.wpAny_field
def Mh:=@Nat.lt_trans
def Mi:=@Nat.ne_of_gt
def Mj:=@Nat.add_le_add_left
def Mk:=@Nat.mul_le_mul_left
def Ml:=@List.cons_lt_cons_iff
def Mm:=@List.reverse_cons
def Mn:=@List.take_add_one
def Mo:=@PySem.wpAny_callSpecial?_slot
def Mp:=@Int.fmod_eq_emod_of_nonneg
def Mq:=@Nat.div_lt_of_lt_mul
def Mr:=@Option.some.inj
def Ms:=@List.length_take
def Mt:=@Nat.succ_le_succ
def Mu:=@List.getElem?_append_left
def Mv:=@List.eq_nil_of_length_eq_zero
def Mw:=@List.idxOf_lt_length_iff
def Mx:=@PySem.codeAny_builtin
def My:=@List.nil_sublist
def Mz:=@beq_iff_eq
def MC:=@PySem.wpAny_rule
def MD:=@Nat.le_of_add_le_add_right
def MF:=@List.nodup_nil
def MG:=@Nat.le_succ
def MH:=@Ne.symm
def MI:=@Nat.le_succ_of_le
def MJ:=@decide_eq_true_eq
def MK:=@List.map_congr_left
def ML:=@Array.getElem?_eq_getElem
def MM:=@List.find?_cons
def MN:=@Nat.le_add_left
def MO:=@PySem.Heap.get?_update_self
def MQ:=@List.filter_append
def MR:=@Nat.succ_pos
def MS:=@PyProof.Rows.F.plain_set_update_loop
def MT:=@PySem.F.called_set
def MU:=@PyProof.Rows.assignInOrder_cons
def MV:=@PyProof.Rows.listItems_at
def MW:=@PySem.wpAny_askSetting
def MX:=@PySem.W.InstAt.of_news
def MY:=@Nat.mul_le_mul_right
def MZ:=@Nat.not_lt
def M1:=@List.flatMap_cons
def M2:=@Bool.eq_iff_iff
def M3:=@PyProof.Rows.StrsAre.append'
def M4:=@List.map_map
def M5:=@Nat.div_div_eq_div_mul
def M6:=@Nat.lt_or_ge
def M7:=@PySem.plainId_quiet
def M8:=@List.getElem_mem
def M9:=@List.mem_flatMap
def Na:=@List.length_filter_le
def Nb:=@List.length_singleton
def Nc:=@List.mem_cons_self
def Nd:=@PySem.F.slot_list_pop
def Nf:=@PySem.F.type_list_pop
def Ng:=@PySem.builtinLookup_eq_fast
def Nh:=@PySem.wpAny_Constant_int
def Ni:=@PySem.wpAny_of_eq
def Nj:=@Bool.and_eq_true_iff
def Nk:=@Int.le_of_lt
def Nl:=@List.getLast?_concat
def Nm:=@Nat.div_add_mod
def Nn:=@Nat.zero_add
def No:=@PySem.F.slot_list_getattribute
def Np:=@PyProof.Rows.get?_update_seq
def Nq:=@List.nodup_append
def Nt:=@Nat.le_of_lt_succ
def Nu:=@of_decide_eq_true
def Nv:=@Nat.lt_irrefl
def Nw:=@PySem.wpAny_attempt
def Nx:=@List.reverse_append
def Ny:=@Bool.and_eq_true
def Nz:=@List.find?_map
def NA:=@List.length_drop
def NB:=@Nat.add_le_add
def ND:=@Nat.le_add_right
def NE:=@PySem.slot_list_append
def NF:=@PySem.type_list_append
def NG:=@PySem.wpAny_isInstance
def NH:=@PySem.strKind_is
def NI:=@Array.getD_eq_getD_getElem?
def NJ:=@Int.le_trans
def NK:=@Int.ofNat_le
def NL:=@List.find?_eq_none
def NM:=@Nat.pos_of_ne_zero
def NN:=@PySem.Obj.data_mapFields
def NO:=@Option.toList_some
def NP:=@List.getElem?_eq_none
def NQ:=@PySem.codeAny_of_tree
def NR:=@PySem.F.slot_tuple_iterator_next
def NS:=@PySem.seg_bind
def NT:=@List.foldl_append
def NU:=@List.pairwise_iff_getElem
def NV:=@PySem.wpAny_loadName_local
def NW:=@PyProof.Rows.News.push
def NX:=@List.mem_range
def NY:=@PySem.isSubtype_type
def NZ:=@PySem.wpAny_seqItems
def N7:=@List.getElem_map
def N8:=@Nat.lt_succ_iff_lt_or_eq
def N9:=@PyProof.Rows.callWith_method1
def Oa:=@List.flatMap_append
def Ob:=@PySem.MeetsSeq3.plain_eq_loop
def Oc:=@PyProof.Rows.Subscript_
def Od:=@PySem.F.slot_list_index
def Oe:=@PyProof.Rows.listUpdate_at
def Of:=@Int.mul_le_mul_of_nonneg_right
def Og:=@Int.not_lt
def Oh:=@List.forIn_cons
def Oi:=@List.nil_append
def Oj:=@Nat.eq_zero_or_pos
def Ok:=@PySem.typeLookup_type
def Ol:=@PySem.wpAny_setField_rec
def Om:=@Nat.le_add_right_of_le
def On:=@Nat.lt_of_succ_lt_succ
def Oo:=@Option.map_eq_none_iff
def Op:=@List.length_range
def Oq:=@PySem.wpAny_assign_Name
def Os:=@PySem.F.slot_enumerate_next
def Ot:=@List.forIn_nil
def Ou:=@List.getElem?_toArray
def Ov:=@Nat.sub_le_iff_le_add
def Ow:=@PySem.Obj.isFreed_of_fields
def Ox:=@PySem.F.slot_str_join
def Oy:=@PySem.F.type_str_join
def Oz:=@PySem.exec_Assign_Name_used
def OA:=@PySem.wpAny_typeOf
def OB:=@List.mem_of_mem_drop
def OC:=@List.replicate_succ'
def OD:=@Nat.eq_of_testBit_eq
def OE:=@Nat.le_of_not_lt
def OF:=@Nat.not_succ_le_zero
def OG:=@beq_self_eq_true
def OH:=@PySem.codeAny_call_builtin
def OI:=@decide_eq_decide
def OJ:=@PySem.entryFor_of_tree
def OK:=@PySem.wpAny_call
def OL:=@PySem.F.plain_extend_loop
def OM:=@Int.toNat_of_nonneg
def ON:=@Nat.add_lt_add_left
def OO:=@Int.le_antisymm
def OP:=@Nat.min_le_left
def OQ:=@Nat.testBit_and
def OR:=@PyProof.Rows.entry_list_sort
def OS:=@PySem.AutoSeq1.wpAny_loadPart'
def OT:=@Int.lt_of_le_of_lt
def OU:=@List.eq_of_mem_replicate
def OV:=@List.map_nil
def OW:=@List.mem_filterMap
def OX:=@Nat.add_sub_cancel
def OY:=@Nat.lt_of_le_of_ne
def OZ:=@Nat.sub_self
def O1:=@or_false
def O2:=@PySem.slot_listiter_next
def O3:=@Option.map_map
def O5:=@PySem.wpAny_setField
def O6:=@List.filter_cons_of_neg
def O7:=@List.filter_cons_of_pos
def O8:=@PySem.F.type_list_index
def O9:=@Function.comp_def
def Pa:=@List.findIdx_cons
def Pb:=@Nat.lt_succ_of_le
def Pd:=@PySem.getMethod_builtin
def Pe:=@PySem.wpAny_Assign_Name
def Pg:=@List.Perm.append_right
def Ph:=@Nat.le_of_succ_le_succ
def Pi:=@PySem.F.plainAttrs_str
def Pj:=@List.cons_ne_nil
def Pk:=@List.map_flatMap
def Pl:=@List.mem_reverse
def Pn:=@Nat.not_le_of_lt
def Po:=@Nat.succ_lt_succ
def Pp:=@Nat.succ_ne_zero
def Ps:=@List.concat_eq_append
def Pt:=@List.eq_nil_or_concat
def Pu:=@List.length_replicate
def Pv:=@List.take_append_drop
@[elab_as_elim] theorem aa{A:Sort _}{a b:A}(h:a=b){M:A->Prop}(x:M b):M a:=h▸x
@[elab_as_elim] theorem ae{A:Sort _}{a b:A}(h:a=b){M:A->Prop}(x:M a):M b:=h▸x
theorem dj{α:Type}{x a0 a1:α}{l:List α}(h:x∈l):x∈a0::a1::l:= .tail _ (.tail _ h)
theorem cZ{α:Type}{x a0 a1 a2:α}{l:List α}(h:x∈l):x∈a0::a1::a2::l:= .tail _ (dj h)
theorem cT{α:Type}{x a0 a1 a2 a3:α}{l:List α}(h:x∈l):x∈a0::a1::a2::a3::l:= .tail _ (cZ h)
theorem xJ{α:Type}{x a0 a1 a2 a3 a4:α}{l:List α}(h:x∈l):x∈a0::a1::a2::a3::a4::l:= .tail _ (cT h)
theorem Eo{α:Type}{x a0 a1 a2 a3 a4 a5:α}{l:List α}(h:x∈l):x∈a0::a1::a2::a3::a4::a5::l:= .tail _ (xJ h)
theorem xK{α:Type}{x a0 a1 a2 a3 a4 a5 a6:α}{l:List α}(h:x∈l):x∈a0::a1::a2::a3::a4::a5::a6::l:= .tail _ (Eo h)
theorem uR{α:Type}{x a0 a1 a2 a3 a4 a5 a6 a7:α}{l:List α}(h:x∈l):x∈a0::a1::a2::a3::a4::a5::a6::a7::l:= .tail _ (xK h)
theorem Ep{α:Type}{x a0 a1 a2 a3 a4 a5 a6 a7 a8:α}{l:List α}(h:x∈l):x∈a0::a1::a2::a3::a4::a5::a6::a7::a8::l:= .tail _ (uR h)
theorem aK{α:Type}{x a0:α}{l:List α}:x∈a0::x::l:= .tail _ (.head _)
theorem cq{α:Type}{x a0 a1:α}{l:List α}:x∈a0::a1::x::l:= .tail _ aK
theorem ir{α:Type}{x a0 a1 a2:α}{l:List α}:x∈a0::a1::a2::x::l:= .tail _ cq
theorem iu{α:Type}{x a0 a1 a2 a3:α}{l:List α}:x∈a0::a1::a2::a3::x::l:= .tail _ ir
theorem ra{α:Type}{x a0 a1 a2 a3 a4:α}{l:List α}:x∈a0::a1::a2::a3::a4::x::l:= .tail _ iu
theorem uQ{α:Type}{x a0 a1 a2 a3 a4 a5:α}{l:List α}:x∈a0::a1::a2::a3::a4::a5::x::l:= .tail _ ra
theorem rb{α:Type}{x a0 a1 a2 a3 a4 a5 a6:α}{l:List α}:x∈a0::a1::a2::a3::a4::a5::a6::x::l:= .tail _ uQ
theorem Am{α:Type}{x a0 a1 a2 a3 a4 a5 a6 a7:α}{l:List α}:x∈a0::a1::a2::a3::a4::a5::a6::a7::x::l:= .tail _ rb
theorem Em{α:Type}{x a0 a1 a2 a3 a4 a5 a6 a7 a8:α}{l:List α}:x∈a0::a1::a2::a3::a4::a5::a6::a7::a8::x::l:= .tail _ Am
inductive T
 |v (i:Nat)
 |n (k:Nat)
 |a (x y:T)
 |m (k:Nat) (x:T)
 |w (x:T) (k:Nat)
def V0:T:= .v 0
def V1:T:= .v 1
def V2:T:= .v 2
def V3:T:= .v 3
def W0:T:= .n 0
def W1:T:= .n 1
def As(c:List Nat):Nat->Nat:=List.rec (fun _=>0) (fun x _ f i=>Nat.rec x (fun j _=>f j) i) c
def T.d(c:List Nat)(t:T):Nat:=T.rec (As c) (fun k=>k) (fun _ _ x y=>x+y) (fun k _ x=>k*x) (fun _ k x=>x*k) t
def T.k(t:T):Nat:=T.rec (fun _=>0) (fun k=>k) (fun _ _ x y=>x+y) (fun k _ x=>k*x) (fun _ k x=>x*k) t
def T.c(i:Nat)(t:T):Nat:=T.rec (fun j=>cond (Nat.beq j i) 1 0) (fun _=>0) (fun _ _ x y=>x+y) (fun k _ x=>k*x) (fun _ k x=>x*k) t
noncomputable def rK (f:Nat->Bool) (n:Nat):Bool:=Nat.rec true (fun i b=>f i&&b) n
def lB(n:Nat)(x y:T):Bool:=Nat.ble x.k y.k&&rK (fun i=>Nat.ble (x.c i) (y.c i)) n
def dA(c:List Nat):(Nat->Nat)->Nat:=List.rec (fun _=>0) (fun x _ g f=>f 0*x+g fun i=>f (i+1)) c
theorem wm:∀ c,dA c (fun _=>0)=0
 |[]=>rfl
 |x::c=>by show 0*x+dA c (fun _=>0)=0;rw[wm c,Nat.zero_mul]
theorem zT:∀ c f g,dA c (fun i=>f i+g i)=dA c f+dA c g
 |[],_,_=>rfl
 |x::c,f,g=>by
  show (f 0+g 0)*x+dA c (fun i=>f (i+1)+g (i+1))=(f 0*x+dA c fun i=>f (i+1))+(g 0*x+dA c fun i=>g (i+1));rw[zT c,Nat.add_mul,Nat.add_add_add_comm]
theorem wn(k:Nat):∀ c f,dA c (fun i=>k*f i)=k*dA c f
 |[],_=>rfl
 |x::c,f=>by
  show k*f 0*x+dA c (fun i=>k*f (i+1))=k*(f 0*x+dA c fun i=>f (i+1));rw[wn k c,Nat.mul_add,Nat.mul_assoc]
theorem zU:∀ c j,dA c (fun i=>cond (Nat.beq j i) 1 0)=As c j
 |[],_=>rfl
 |x::c,0=>by show 1*x+dA c (fun _=>0)=x;rw[wm,Nat.one_mul,Nat.add_zero]
 |x::c,j+1=>by show 0*x+dA c (fun i=>cond (Nat.beq j i) 1 0)=As c j;rw[zU c j,Nat.zero_mul,Nn]
theorem Cf:∀ (c:List Nat) (f g:Nat->Nat),rK (fun i=>Nat.ble (f i) (g i)) c.length=true->dA c f<=dA c g:=by
 have Qd:∀ (n:Nat) (f g:Nat->Nat),rK (fun i=>Nat.ble (f i) (g i)) n=true->∀ i,i<n->f i<=g i:=by
  intro n f g
  induction n with
  |zero=>exact fun _ _ h=>absurd h (LM _)
  |succ n ih=>
   intro h i hi;obtain⟨h1,h2⟩:=Nj.mp (show (Nat.ble (f n) (g n)&&rK (fun i=>Nat.ble (f i) (g i)) n)=true from h);rcases N8.mp hi with q|rfl
   ·exact ih h2 i q
   ·exact KC h1
 have go:∀ (c:List Nat) (f g:Nat->Nat),(∀ i,i<c.length->f i<=g i)->dA c f<=dA c g:=by
  intro c
  induction c with
  |nil=>exact fun _ _ _=>K1 0
  |cons x c ih=>exact fun f g h=>NB (MY x (h 0 (MR _))) (ih _ _ fun i hi=>h (i+1) (Po hi))
 exact fun c f g h=>go c f g (Qd _ f g h)
theorem T.d_eq(c:List Nat)(t:T):t.d c=t.k+dA c fun i=>t.c i:=by
 induction t with
 |v j=>exact((zU c j).symm.trans (Nn _).symm)
 |n k=>exact(aa (wm c) rfl:k=k+dA c fun _=>0)
 |a x y hx hy=>
  show x.d c+y.d c=(x.k+y.k)+dA c fun i=>x.c i+y.c i;rw[hx,hy,zT,Nat.add_add_add_comm]
 |m k x hx=>
  show k*x.d c=k*x.k+dA c fun i=>k*x.c i;rw[hx,wn,Nat.mul_add]
 |w x k hx=>
  show x.d c*k=x.k*k+dA c fun i=>x.c i*k;have e:(fun i=>x.c i*k)=fun i=>k*x.c i:=funext fun i=>Nat.mul_comm _ _;rw[e,hx,wn,Nat.add_mul,Nat.mul_comm k]
section
variable(c:List Nat)(g h:T)
theorem L0(o:lB c.length g h=true):g.d c<=h.d c:=by
 obtain⟨a,b⟩:=Nj.mp o;rw[g.d_eq,h.d_eq];exact NB (KC a) (Cf c _ _ b)
theorem LE(o:(lB c.length g h&&lB c.length h g)=true):g.d c=h.d c:=Nat.le_antisymm (L0 c g h (Nj.mp o).1) (L0 c h g (Nj.mp o).2)
variable(k:Nat)(l r:T)
theorem L1(o:lB c.length (.a g (.m k r)) (.a h (.m k l))=true)(q:l.d c<=r.d c):g.d c<=h.d c:=
 MD (KH (L0 c _ _ o:g.d c+k*r.d c<=h.d c+k*l.d c) (Mj (Mk k q) _))
variable(TF:Nat)(l₂ SM:T)
theorem L2(o:lB c.length (.a (.a g (.m k r)) (.m TF SM)) (.a (.a h (.m k l)) (.m TF l₂))=true)(q:l.d c<=r.d c)(Wz:l₂.d c<=SM.d c):g.d c<=h.d c:=
 MD (KH (L1 c (.a g (.m k r)) (.a h (.m k l)) TF l₂ SM o Wz:g.d c+k*r.d c<=h.d c+k*l.d c) (Mj (Mk k q) _))
variable(UH:Nat)(RE UI:T)
theorem L3(o:lB c.length (.a (.a (.a g (.m k r)) (.m TF SM)) (.m UH UI)) (.a (.a (.a h (.m k l)) (.m TF l₂)) (.m UH RE))=true)(q:l.d c<=r.d c)(Wz:l₂.d c<=SM.d c)(VU:RE.d c<=UI.d c):g.d c<=h.d c:=
 MD (KH (L2 c (.a g (.m k r)) (.a h (.m k l)) TF l₂ SM UH RE UI o Wz VU:g.d c+k*r.d c<=h.d c+k*l.d c) (Mj (Mk k q) _))
variable(VZ:Nat)(R7 V5:T)
theorem L4(o:lB c.length (.a (.a (.a (.a g (.m k r)) (.m TF SM)) (.m UH UI)) (.m VZ V5)) (.a (.a (.a (.a h (.m k l)) (.m TF l₂)) (.m UH RE)) (.m VZ R7))=true)(q:l.d c<=r.d c)(Wz:l₂.d c<=SM.d c)(VU:RE.d c<=UI.d c)(V4:R7.d c<=V5.d c):g.d c<=h.d c:=
 MD (KH (L3 c (.a g (.m k r)) (.a h (.m k l)) TF l₂ SM UH RE UI VZ R7 V5 o Wz VU V4:g.d c+k*r.d c<=h.d c+k*l.d c) (Mj (Mk k q) _))
end
section
variable{a b:Nat}
theorem eL(h:a=b):a<=b:=Mf h
theorem eG(h:a=b):b<=a:=Mf h.symm
theorem nT(h:¬a<b):b<=a:=OE h
theorem aS(h:a<=b)(k:b<=a):a=b:=Nat.le_antisymm h k
theorem f0(h:1<=0):False:=OF 0 h
theorem bd{k m:Nat}(h:a<=k)(o:Nat.ble k m=true:=by rfl):a<=m:=KH h (KC o)
variable{c d j k l m n p r:Nat}{i y z:Int}
theorem xP(h:j<n):n-(j+1)<n-j:=Nat.sub_lt_sub_left h (LR j)
theorem sP(h:n-j=k+1):n-(j+1)=k:=congrArg Nat.pred h
theorem sJ(h:n-j=k+1):j<n:=Nat.lt_of_sub_pos (aa h (MR k))
theorem s1(h:j<n):n-j=n-j-1+1:=(Nat.succ_pred (Nat.sub_ne_zero_of_lt h)).symm
theorem sQ(h:0<n):n=n-1+1:=(Nat.succ_pred (Mi h)).symm
theorem Fb(e:n=m)(h:0<m):n=n-1+1:=sQ (aa e h)
theorem sZ(h:n-j=0)(q:j<=n):j=n:=Nat.le_antisymm q (Nat.le_of_sub_eq_zero h)
theorem Fc(q:j<=n)(e:n<=m)(h:m-j<=0):j=n:=Nat.le_antisymm q (KH e (Nat.sub_eq_zero_iff_le.mp (Nat.le_zero.mp h)))
theorem s7(h:a-b=k+1):p+(a-(b+1)+1+r)-1-(k+r)-p=0:=by
 rw[sP h,Nat.succ_add];show p+(k+r)-(k+r)-p=0;rw[OX,OZ]
theorem s6(h:a-b=k+1):p<=p+(a-b+r)-1-(k+r):=by
 rw[h,Nat.succ_add];show p<=p+(k+r)-(k+r);rw[OX];exact K1 p
theorem s5(h:n-j=k+1):n-1-(k+1-1)=j:=by
 rw[OX,Nat.sub_sub,Nat.add_comm 1,←h,Nat.sub_sub_self (LF (sJ h))]
theorem sD(h:0<n):1+(n-1)=n:=Nat.add_sub_cancel' h
theorem sA(h:k<=n):k+(n-k)=n:=Nat.add_sub_cancel' h
theorem Fa(h:¬n-12<4):16<=n:=OE fun q=>h (Nat.sub_lt_right_of_lt_add (OE fun q2=>h (aa (Nat.sub_eq_zero_of_le (LF q2)) (MR 3))) q)
theorem sG(h:j<n):1<=n-j:=Nat.sub_pos_of_lt h
theorem sH:n-k<0+(n+1):=Lx (Nat.sub_le n k) (aa (Nn _) (LR n))
theorem sI(h:k+1<=n):k<=n-1:=Nat.le_sub_one_of_lt h
theorem sK(h:a<=c)(q:b<c-a):a+b<c:=Nat.add_comm b a▸Nat.add_lt_of_lt_sub q
theorem s0:n=n-0:=rfl
theorem El(h:j<n):j-min j n=0:=aa (Nat.min_eq_left (LF h)) (OZ j)
theorem mL(h:j<min n k):j<n:=Lb h (OP n k)
theorem mR(h:j<min n k):j<k:=Lb h (Nat.min_le_right n k)
theorem mI(h:j<n)(q:n<k):j<min n k:=Nat.lt_min.mpr ⟨h,Mh h q⟩
theorem mE(h:n<k)(e:j=min n k):j=n:=e.trans (Nat.min_eq_left (LF h))
theorem mB(h:n<=10)(q:j<n):min j k<=9:=KH (OP j k) (Nt (Lb q h))
theorem Ej(q:m≥j):min j k<=m:=KH (OP j k) q
theorem hL(h:b<=c)(q:a<b):(a+b)/2<c:=Lb (Mq (aa (Nat.two_mul b) (Nat.add_lt_add_right q b))) h
theorem Eh(h:b<=c)(q:a<b):(a+b)/2<=c:=LF (hL h q)
theorem hB(h:b-a<=k+1):b-((a+b)/2+1)<=k:=by
 refine Nat.sub_le_of_le_add ?_;have h1:=Ov.mp h;have h2:a+b<2*((a+b)/2+1):=Nat.lt_mul_div_succ (a+b) (MR 1);generalize (a+b)/2=x at h2⊢;refine Nat.le_of_mul_le_mul_left (c:=2) ?_ (MR 1);exact L2 [a,b,k,x] (.m 2 V1) (.m 2 (.a V2 (.a V3 W1))) 1 V1 (.a (.a V2 W1) V0) 1 (.a (.a V0 V1) W1) (.m 2 (.a V3 W1)) rfl h1 h2
theorem hC(h:b-a<=k+1)(q:a<b):(a+b)/2-a<=k:=by
 refine Nat.sub_le_of_le_add ?_;have h1:=Ov.mp h;have h2:(a+b)/2*2<=a+b:=Nat.div_mul_le_self _ _;generalize (a+b)/2=x at h2⊢;refine Nt (Nat.lt_of_mul_lt_mul_left (a:=2) ?_);exact L2 [a,b,k,x] (.a (.m 2 V3) W1) (.m 2 (.a (.a V2 V0) W1)) 1 (.w V3 2) (.a V0 V1) 1 V1 (.a (.a V2 W1) V0) rfl h2 h1
theorem hD(h:n<65536):n/4096<16:=Mq h
theorem BQ(h:n<3):n=0∨n=1∨n=2:=match n,h with|0,_=> .inl rfl|1,_=> .inr (.inl rfl)|2,_=> .inr (.inr rfl)|_+3,h=>absurd h (Nat.not_lt_of_le (MN 3 _))
theorem EJ(h:n<4):n=0∨n=1∨n=2∨n=3:=match n,h with|0,_=> .inl rfl|1,_=> .inr (.inl rfl)|2,_=> .inr (.inr (.inl rfl))|3,_=> .inr (.inr (.inr rfl))|_+4,h=>absurd h (Nat.not_lt_of_le (MN 4 _))
theorem EK(h:1<=n)(q:n<=7):n=1∨n=2∨n=3∨n=4∨n=5∨n=6∨n=7:=match n,h,q with|1,_,_=> .inl rfl|2,_,_=> .inr (.inl rfl)|3,_,_=> .inr (.inr (.inl rfl))|4,_,_=> .inr (.inr (.inr (.inl rfl)))|5,_,_=> .inr (.inr (.inr (.inr (.inl rfl))))|6,_,_=> .inr (.inr (.inr (.inr (.inr (.inl rfl)))))|7,_,_=> .inr (.inr (.inr (.inr (.inr (.inr rfl)))))|_+8,_,q=>absurd q (Pn (MN 8 _))
theorem BP(h:0<=i)(q:i<2):i=0∨i=1:=match i,h,q with| .ofNat 0,_,_=> .inl rfl| .ofNat 1,_,_=> .inr rfl| .ofNat (n+2),_,q=>absurd (LD.mp q) (Nat.not_lt_of_le (MN 2 n))
theorem EL(h:0<=i)(q:i<=2):i=0∨i=1∨i=2:=match i,h,q with| .ofNat 0,_,_=> .inl rfl| .ofNat 1,_,_=> .inr (.inl rfl)| .ofNat 2,_,_=> .inr (.inr rfl)| .ofNat (n+3),_,q=>absurd (NK.mp q) (Pn (MN 3 n))
theorem tE(h:0<=i):i=(i.toNat:Int):=(OM h).symm
theorem tN(h:-1<=i)(q:¬i=-1):0<=i:=(Int.lt_iff_le_and_ne.mpr ⟨h,MH q⟩:-1<i)
theorem Fe(h:-1<=i)(q:¬i=-1):i=(i.toNat:Int):=tE (tN h q)
theorem Ff(h:0<i):i=(i.toNat:Int):=tE (Nk h)
theorem Fg(h:15<i):i-16=((i-16).toNat:Int):=tE (Int.sub_nonneg_of_le h)
theorem tX(h:-1-i>i):i<0:=Int.not_le.mp fun q=>absurd (OT q h) (Og.mpr (Int.sub_nonpos_of_le (NJ (by decide) q)))
theorem iW(h:0<=i)(q:i<(n:Int)):i.toNat<n:=(Int.toNat_lt h).mpr q
theorem mN(h:-1<=i)(e:¬i=-1)(q:i<(n:Int)):i.toNat<n:=iW (tN h e) q
theorem AT(h:0<i)(q:i<(n:Int))(e:m=n):i.toNat<m:=aa e (iW (Nk h) q)
theorem D9(h:0<=i)(q:i<(n:Int))(e:m=n):i.toNat<m:=aa e (iW h q)
theorem tB(h:0<=z)(q:z<(n:Int))(l:i<(z.toNat:Int)):i<(n:Int):=Int.lt_trans (aa (tE h) l:i<z) q
theorem vt(h:-1<=z)(e:¬z=-1)(q:z<(n:Int))(l:i<(z.toNat:Int)):i<(n:Int):=tB (tN h e) q l
theorem Fd(h:0<z)(q:z<(n:Int))(l:i<(z.toNat:Int)):i<(n:Int):=tB (Nk h) q l
theorem tM(h:i<(n:Int)):(i+1).toNat<=n:=Int.toNat_le.mpr h
theorem B4(h:i<(n:Int)):(i+1).toNat<n+1:=Pb (tM h)
theorem Fo(h:i<(n:Int)):(i+1).toNat<n+m+1:=Pb (KH (tM h) (ND n m))
theorem Fp(h:i<(n:Int))(q:n<=m):(i+1).toNat<=m:=KH (tM h) q
theorem Fq(h:i<(n:Int))(q:n<=1000):0+(i+1).toNat<=1001:=aa (Nn _) (KH (tM h) (MI q))
theorem tP(h:0<=z):(z+1).toNat=z.toNat+1:=Int.toNat_add h (by decide)
theorem tS(h:0<=z)(l:i<(z.toNat:Int))(q:k<=(i+1).toNat):k+1<=(z+1).toNat:=aa (tP h) (Mt (KH q (tM l)))
theorem Fs(h:-1<=z)(e:¬z=-1)(l:i<(z.toNat:Int))(q:k<=(i+1).toNat):k+1<=(z+1).toNat:=tS (tN h e) l q
theorem tF(h:0<=z)(q:(z+1).toNat<n+1)(l:i<(z.toNat:Int)):(i+1).toNat<n:=Lx (tM l) (On (tP h▸q:z.toNat+1<n+1))
theorem B1(h:-1<=z)(e:¬z=-1)(q:(z+1).toNat<n+1)(l:i<(z.toNat:Int)):(i+1).toNat<n:=tF (tN h e) q l
theorem Fh(h:0<=z)(q:(z+1).toNat<=n+1)(l:i<(z.toNat:Int)):(i+1).toNat<=n:=KH (tM l) (Ph (tP h▸q:z.toNat+1<=n+1))
theorem tC(h:k+((n:Int)+1).toNat<=1001)(l:i<(n:Int)):k+1+(i+1).toNat<=1001:=KH (Mj (tM l) _) (aa (Nat.succ_add k n) h)
theorem tH(h:0<=z)(q:z<(n:Int))(l:i<(z.toNat:Int)):(i+1).toNat<n:=Lx (tM l) (iW h q)
theorem Fl(h:0<=z)(q:z<(n:Int))(l:i<(z.toNat:Int)):(i+1).toNat<n+1:=LI (tH h q l)
theorem tG(h:0<=i)(q:i<(n:Int)):-(n:Int)<=-1-i/\-1-i<(n:Int):=⟨Int.le_sub_right_of_add_le (Int.add_le_of_le_sub_left (by rw[Int.sub_neg,Int.add_comm];exact Int.le_sub_one_of_lt (LT q (Int.le_refl _)))),LT (Int.sub_neg_of_lt (LT (by decide) h)) (K7 n)⟩
theorem tW(h:0<=i)(q:i<32768):(32768*(n:Int)+i)%32768=i:=aa (Int.mul_add_emod_self_left _ _ _) (Int.emod_eq_of_lt h q)
theorem tK(h:n<=k)(q:Nat.ble (k+1) (2^62)=true:=by rfl):(n:Int)<2^62:=LD.mpr (Lx h (KC q))
theorem xQ(h:n<=k)(q:Nat.ble (k+1) (2^63)=true:=by rfl):(n:Int)<2^63:=LD.mpr (Lx h (KC q))
theorem B2(l:j<n)(h:n<=k)(q:Nat.ble (k+1) (2^63)=true:=by rfl):(j:Int)<2^63:=xQ (KH (LF l) h) q
theorem Fm(l:j<n)(h:n<=k)(q:Nat.ble (k+1) (2^63-1)=true:=by rfl):(j:Int)<2^63-1:=LD.mpr (Lx (KH (LF l) h) (KC q))
theorem Fn(e:i=(j:Int))(l:j<n)(h:n<=k)(q:Nat.ble (k+1) (2^63)=true:=by rfl):i<2^63:=aa e (B2 l h q)
theorem tA(h:0<=i)(q:i<z)(o:z<=2^64:=by decide):i.natAbs<2^64:=LD.mp (aa (Int.natAbs_of_nonneg h) (LT q o))
theorem t8(h:i<24):(i-16).toNat<8:=(Int.toNat_lt' (by decide)).mpr (Int.sub_right_lt_of_lt_add h)
theorem tY:((((n:Int)+1)-1))=(n:Int):=Int.add_sub_cancel _ _
theorem Ft:-1+((n:Int)+1)=(n:Int):=by rw[Int.add_comm,Int.add_assoc];exact Int.add_zero _
theorem tU(h:0<=i)(e:i=(n:Int)):-1-(n:Int)<0:=Int.sub_neg_of_lt (LT (by decide) (K7 n))
theorem q1(h:c<b)(e:a=b):c<a:=aa e h
theorem q2(h:c<a)(e:a=b):c<b:=ae e h
theorem q7(h:b<=c)(e:a=b):a<=c:=aa e h
theorem q8(h:a<=c)(e:a=b):b<=c:=ae e h
theorem q9(h:a<b)(g:b<c):a<c:=Mh h g
theorem xN(h:a<b)(g:b<=c):a<c:=Lb h g
theorem EM(h:a<=b)(g:b<c):a<c:=Lx h g
theorem BR(h:a<=b)(g:b<=c):a<=c:=KH h g
theorem BS(h:a<b):a+1<=b:=h
theorem AK(h:a<=b):a<b+1:=Pb h
theorem EN(h:a<b):a<b+1:=LI h
theorem AL(h:a+1<=b):a<=b:=Nat.le_of_succ_le h
theorem EO(h:a<b)(g:b<=a):False:=Pn h g
theorem iS(h:a+b<c):a<c:=Lx (ND a b) h
theorem EP(h:¬a<b):b<=a:=OE h
theorem z1(h:i<y)(g:y<z):i<z:=Int.lt_trans h g
theorem z4(h:i<=y)(g:y<=z):i<=z:=NJ h g
theorem z6(h:i<y)(e:i=y):False:=absurd h (Og.mpr (Int.le_of_eq e.symm))
theorem vG(h:i<(n:Int))(g:n<m):i<(m:Int):=Int.lt_trans h (LD.mpr g)
theorem qa(h:i<(n:Int))(e:m=n):i<(m:Int):=aa e h
theorem A1(h:i<(n:Int)):i<((n+1:Nat):Int):=Int.lt_trans h (LD.mpr (LR n))
theorem xR(h:n<m):(n:Int)<(m:Int):=LD.mpr h
theorem FW(h:(n:Int)<(m:Int)):n<m:=LD.mp h
theorem A3(h:i<(n:Int))(g:n<m)(e:k=m):i<(k:Int):=aa e (vG h g)
theorem iX:0<=(n:Int):=K7 n
theorem B8:0+(n:Int)*1=(n:Int):=by rw[Int.mul_one,Int.zero_add]
theorem B9(h:0<=i):-1<=i:=NJ (by decide) h
theorem pH(h:k+1<=n):n≠0:=Mi (Lb (MR k) h)
theorem BU{P:Prop}(e:n=0)(h:k+1<=n):P:=absurd e (pH h)
theorem BV(h:i<65536):i<16*4096:=h
theorem EQ(h:i<32768):i<8*4096:=h
theorem BW(h:i<8):i<4*2:=h
theorem ER(h:i<16):i<2*8:=h
theorem AM(h:0<n):¬n=0:=Mi h
theorem ES(h:¬1<n):¬(1:Int)<(n:Int):=fun q=>h (LD.mp q)
theorem ET(h:k+1<=n)(q:a+n<c):a+1+(n-1)<c:=aa (Nat.add_assoc a 1 _) (aa (sD (Lb (MR k) h)) q)
theorem EU(h:k+1<=n)(q:a+20*n<c):a+1+20*(n-1)<c:=by
 obtain⟨x,rfl⟩:=Nat.exists_eq_add_of_le h;refine Lx ?_ q;show a+1+20*(k+1+x-1)<=_;rw[Nat.add_right_comm k,OX];exact L0 [a,k,x] (.a (.a V0 W1) (.m 20 (.a V1 V2))) (.a V0 (.m 20 (.a (.a V1 V2) W1))) rfl
theorem EV(h:n<=16777216):¬(n:Int)≥2^63:=Int.not_le.mpr (LD.mpr (Lx h (KC rfl)))
theorem BX(h:n<=100000):(n:Int)<9223372036854775808:=LD.mpr (Lx h (KC rfl))
theorem EW(e:i=(n:Int)):0<=i:=aa e (K7 n)
theorem BY(h:0<=i):-(n:Int)<=i:=NJ (Int.neg_nonpos_of_nonneg (K7 n)) h
theorem EX(h:-1<=i)(q:i<(n:Int))(e:¬i=-1):0<=i/\i<(n:Int):=⟨tN h e,q⟩
theorem BZ:(((n:Int)-0).toNat:Int)=(n:Int):=by rw[Int.sub_zero];rfl
theorem EY(h:n<9)(e:¬n=8):n<=7:=Nt (OY (Nt h) e)
theorem EZ(h:n+m=14)(g:1<=m):¬((1:Nat):Int)>((14:Nat):Int)-(n:Int):=by
 rw[←h,Int.natCast_add,Int.add_comm,Int.add_sub_cancel];exact Og.mpr (NK.mpr g)
theorem E0(h:n+m=14)(g:1<=m):min 4294967295 (((14:Nat):Int)-(n:Int)).toNat=m:=by
 rw[show (((14:Nat):Int)-(n:Int))=(m:Int) by rw[←h,Int.natCast_add,Int.add_comm,Int.add_sub_cancel]];exact Nat.min_eq_right (KH (KH (MN m n) (Mf h)) (KC rfl))
theorem E1(h:n=45∨n=63):¬(n=98∨n=99∨n=100∨n=108∨n=112∨n=115):=by rcases h with rfl|rfl<;>decide
theorem B0(h:n+1+1+1<=2){P:Prop}:P:=absurd h (Pn (MN 3 n))
theorem E4(h:k+1<=0){P:Prop}:P:=absurd h (OF k)
theorem E5:¬n+(m+1)<1:=fun h=>LM _ (On h)
theorem E6(hz:b<=100)(h:a<=b)(e:n=a):n<=100/\b<=100/\a<=100:=⟨aa e (KH h hz),hz,KH h hz⟩
theorem E7(q:i=2-(j:Int)):9+i<=1000000:=aa q (NJ (Int.add_le_add_left (Int.sub_le_self 2 (K7 j)) 9) (by decide))
theorem E8(h:0<=i):0<=9+i:=Int.add_nonneg (by decide) h
theorem E9(h:0<=i)(q:0<=ab)(r:0<=f)(s:0<=g):0<=i*16+f*4+ab+g:=Int.add_nonneg (Int.add_nonneg (Int.add_nonneg (Int.mul_nonneg h (by decide)) (Int.mul_nonneg r (by decide))) q) s
end
section
variable(c:List Nat)(g h:T)(k:Nat)(l r:T)(TF:Nat)(l₂ SM:T)(UH:Nat)(RE UI:T)(VZ:Nat)(R7 V5:T)(Xl:Nat)(Xm Xn:T)
theorem L5(o:lB c.length (.a (.a (.a (.a (.a g (.m k r)) (.m TF SM)) (.m UH UI)) (.m VZ V5)) (.m Xl Xn)) (.a (.a (.a (.a (.a h (.m k l)) (.m TF l₂)) (.m UH RE)) (.m VZ R7)) (.m Xl Xm))=true)(q:l.d c<=r.d c)(Wz:l₂.d c<=SM.d c)(VU:RE.d c<=UI.d c)(V4:R7.d c<=V5.d c)(X1:Xm.d c<=Xn.d c):g.d c<=h.d c:=
 MD (KH (L4 c (.a g (.m k r)) (.a h (.m k l)) TF l₂ SM UH RE UI VZ R7 V5 Xl Xm Xn o Wz VU V4 X1:g.d c+k*r.d c<=h.d c+k*l.d c) (Mj (Mk k q) _))
variable(XX:Nat)(XY X2:T)
theorem L6(o:lB c.length (.a (.a (.a (.a (.a (.a g (.m k r)) (.m TF SM)) (.m UH UI)) (.m VZ V5)) (.m Xl Xn)) (.m XX X2)) (.a (.a (.a (.a (.a (.a h (.m k l)) (.m TF l₂)) (.m UH RE)) (.m VZ R7)) (.m Xl Xm)) (.m XX XY))=true)(q:l.d c<=r.d c)(Wz:l₂.d c<=SM.d c)(VU:RE.d c<=UI.d c)(V4:R7.d c<=V5.d c)(X1:Xm.d c<=Xn.d c)(q₆:XY.d c<=X2.d c):g.d c<=h.d c:=
 MD (KH (L5 c (.a g (.m k r)) (.a h (.m k l)) TF l₂ SM UH RE UI VZ R7 V5 Xl Xm Xn XX XY X2 o Wz VU V4 X1 q₆:g.d c+k*r.d c<=h.d c+k*l.d c) (Mj (Mk k q) _))
end
section
variable{a b c d j k l m n p r:Nat}{i y z:Int}
theorem u1:(1:Int)<=(n:Int)+1:=Int.le_add_of_nonneg_left (K7 n)
theorem u2:(-1+((n:Int)+1)).toNat=n:=aa Ft rfl
theorem u3(h:j<n):(0<=(if (j:Int)<0 then(j:Int)+n else j)/\(if (j:Int)<0 then(j:Int)+n else j)<(n:Int))/\(if (j:Int)<0 then(j:Int)+n else j).toNat=j:=
 aa (KO (Og.mpr (K7 j))) ⟨⟨K7 j,LD.mpr h⟩,rfl⟩
theorem Fj(h:0<i)(q:i<(n:Int)):-(n:Int)<=-1-i/\-1-i<(n:Int):=tG (Nk h) q
theorem Fk(e:m=n)(h:0<=i)(q:i<(m:Int)):-(n:Int)<=-1-i/\-1-i<(n:Int):=tG h (ae e q)
theorem u5(h:n<m+1)(e:¬n=m):n<m:=OY (Nt h) e
theorem u6:(n:Int)<((n+1:Nat):Int):=LD.mpr (LR n)
theorem u7(h:0<n)(e:m=0↔n=0):0<m:=NM fun q=>Mi h (e.mp q)
theorem u8(e:n=0)(q:i<(n:Int))(h:-1<=i):i=-1:=OO (Int.le_of_lt_add_one (e▸q:i<((0:Nat):Int))) h
theorem u9(h:-1<=i)(q:i<((0:Nat):Int)):i=-1:=OO (Int.le_of_lt_add_one q) h
theorem B6(h:-1<=i)(q:i<0):i=-1:=OO (Int.le_of_lt_add_one q) h
theorem Fu(h:n<m)(q:i<32768):32768*(n:Int)+i<32768*(m:Int):=
 LT (Int.add_lt_add_left q _) (show 32768*(n:Int)+32768<=32768*(m:Int) from NK.mpr (Mk 32768 h))
theorem Fv(h:i<y):32768*(n:Int)+i<32768*(n:Int)+y:=Int.add_lt_add_left h _
theorem Fw(h:y<32768*(n:Int))(q:0<=i):y<32768*(n:Int)+i:=LT h (Int.le_add_of_nonneg_right q)
theorem B7:-1-(-1-(n:Int))=(n:Int):=Int.sub_sub_self (-1) n
theorem Fy:¬ -1-(n:Int)>(n:Int):=fun h=>Int.not_le.mpr (tX h) (K7 n)
theorem Fz:-1-(-1-(n:Int))>-1-(n:Int):=aa B7 (LT (Int.sub_neg_of_lt (LT (by decide) (K7 n))) (K7 n))
theorem FA:¬(n:Int)<0:=Og.mpr (K7 n)
theorem FB(h:0<=i):¬i=-1:=fun e=>absurd (e▸h:(0:Int)<=-1) (by decide)
theorem FC(h:0<=z)(q:i<(z.toNat:Int))(g:y<=i):y<=z:=Nk (OT g (aa (tE h) q:i<z))
theorem FD(h:-1<=z)(e:¬z=-1)(q:i<(z.toNat:Int))(g:y<=i):y<=z:=FC (tN h e) q g
theorem FE(h:0<=i)(q:(i+1).toNat<=0){P:Prop}:P:=absurd (KH (Mf (tP h).symm) q) (OF _)
theorem FF(e:i=(n:Int))(q:y<(n:Int))(g:z<=y):z≠i:=fun h=>Int.not_le.mpr (OT g q) (Int.le_of_eq (h.trans e).symm)
theorem FH(e:n/4096=m/4096):(n:Int)/4096=(m:Int)/4096:=congrArg Int.ofNat e
theorem FI(e:(n:Int)/4096=(m:Int)/4096):n/4096=m/4096:=Int.ofNat.inj e
theorem FJ(q:i=2-(j:Int))(h:0<=i):j<=2:=NK.mp (Int.sub_nonneg.mp (ae q h))
theorem FK(q:i=2-(j:Int))(h:0<=i):j=0∨j=1∨j=2:=BQ (Pb (FJ q h))
theorem FL(h:(n:Int)<(m:Int)):m=m-1+1:=sQ (Lx (K6 n) (LD.mp h))
theorem FM(h:(n:Int)<((m+1:Nat):Int))(g:i<(n:Int)):i<(m:Int):=LT g (NK.mpr (Nt (LD.mp h)))
theorem FN(a:0<=i)(b:i<=7){c d:Int}(f:y<=i*16+15)(g:c<=y*16+15)(h:0<=d)(k:d<=c*16+15):0<=d/\d<32768:=
 ⟨h,OT (NJ k (Int.add_le_add_right (Of (NJ g (Int.add_le_add_right (Of (NJ f (Int.add_le_add_right (Of b (by decide)) 15)) (by decide)) 15)) (by decide)) 15)) (by decide)⟩
theorem FO(h:-(n:Int)<=i)(q:i<(n:Int)):-((n+1:Nat):Int)<=i/\i<((n+1:Nat):Int):=⟨NJ (Int.neg_le_neg (NK.mpr (MG n))) h,A1 q⟩
theorem FP:-((n+1:Nat):Int)<=(n:Int)/\(n:Int)<((n+1:Nat):Int):=⟨BY (K7 n),u6⟩
theorem FQ:-((n+1:Nat):Int)<=-((n+1:Nat):Int)/\-((n+1:Nat):Int)<((n+1:Nat):Int):=⟨Int.le_refl _,LT (Int.neg_neg_of_pos (LD.mpr (MR n))) (K7 _)⟩
theorem FS(h:0<=i)(q:i<32768):-1<=i/\i<32768:=⟨B9 h,q⟩
theorem AY(h:a<16)(g:b<16)(f:c<16):(((n*16+a)*16+b)*16+c)<(n+1)*4096/\n*4096<=(((n*16+a)*16+b)*16+c):=
 ⟨Lb (ON f _) (by
  rw[←Nat.succ_mul,show 4096=256*16 from rfl,←Nat.mul_assoc];refine MY 16 (KH (ON g _) ?_);rw[←Nat.succ_mul,show 256=16*16 from rfl,←Nat.mul_assoc];refine MY 16 (KH (ON h _) ?_);rw[←Nat.succ_mul];exact K1 _),by
  rw[show 4096=16*16*16 from rfl,←Nat.mul_assoc,←Nat.mul_assoc];exact KH (MY 16 (KH (MY 16 (ND _ a)) (ND _ b))) (ND _ c)⟩
theorem FT(h:a<16)(g:b<16)(f:c<16):(((n*16+a)*16+b)*16+c)/4096=n:=Nat.div_eq_of_lt_le (AY h g f).2 (AY h g f).1
theorem FU(h:a<16)(g:b<16)(f:c<16)(q:k=4↔n/4096=4):((n/4096*4096:Nat):Int)=16384↔((((k*16+a)*16+b)*16+c:Nat):Int)/4096=4:=by
 rw[show ((((k*16+a)*16+b)*16+c:Nat):Int)/4096=(k:Int) from congrArg Int.ofNat (FT h g f)];refine⟨fun e=>Int.ofNat_inj.mpr (q.mpr (Nat.eq_of_mul_eq_mul_right (MR 4095) (Int.ofNat_inj.mp e))),fun e=>?_⟩;rw[q.mp (Int.ofNat_inj.mp e)]
 rfl
theorem FV(h:n<4096):(16384+n)/4096=4:=Nat.div_eq_of_lt_le (ND _ n) (ON h 16384)
end
theorem tZ(h:k+1<=j)(g:d+j<r):d+1+k<r:=Lx (Mf (Nat.add_right_comm d 1 k)) (Lx (Mj h d) g)
theorem vw(h:k+1<=j)(g:d+20*j<r):d+3+20*k<r:=by exact L2 [d,j,k,r] (.a (.a (.a V0 (.n 3)) (.m 20 V2)) W1) V3 20 (.a V2 W1) V1 1 (.a (.a V0 (.m 20 V1)) W1) V3 rfl h g
abbrev PR:Program:=PySem.Challenge.pw_pk0128_01
noncomputable def eQ (i:Nat):Stmt:=(PR.main.body[i]?).getD (.Pass ⟨0,0,0,0⟩)
noncomputable def fn (i j:Nat):Stmt:=match eQ i with
 | .ClassDef _ _ _ b _ _ _ _ _ _ _=>(b[j]?).getD (.Pass ⟨0,0,0,0⟩)
 |s=>s
noncomputable def En (name qual:Str) (globals:Addr) (closure:List (Str×Addr)) (defaults kwdefaults doc pm:Value) (an:Option Addr) (code ct:Value) (builtins:Addr):Stmt->Obj
 | .FunctionDef _ a b _ _ _ sc _ _ _=>⟨.type "function",none, .func {name:=name,qualname:=qual,params:=a,body:= .stmts b,scope:=sc,globals:=globals,closure:=closure,defaults:=defaults,kwdefaults:=kwdefaults,doc:=doc,pyModule:=pm,annotations:=an,code:=code,closureTuple:=ct,builtins:=builtins},#[]⟩
 |_=>default
def dE(P:Params)(s:String)(t:Nat)(v:Value):DictEntry:=⟨PyData.keyHash P (Ye s), .str (Ye s) t,v⟩
def cO(n q:String)(t:Nat)(l p k f:Int)(a u:Nat):Obj:=⟨.type "code",none, .fields #[.str (Ye n) t, .str (Ye q) (t+1), .str (Ye "/claim/cut.py") (t+2), .int l 0, .int p 0, .int 0 0, .int k 0, .int f 0, .ref (a-5), .bool true, .int 276 0, .ref (a-4), .none, .ref (a-3), .ref (a-2), .ref (a-1), .int u 0, .int l 0, .str (Ye "/claim/cut.py") (u+1)],#[]⟩
def mF(n q:String)(d k m:Value)(c:Nat)(s:Stmt):Obj:=En (Ye n) (Ye q) 3 [] d k .none m none (.ref c) .none 0 s
def Ek:Value:=(.str (Ye "__main__") 164)
def fS:Value:=(.str (Ye "cpy313.xml.etree.ElementTree") 289)
def Ai:Value:=(.str (Ye "cpy313.stat") 539)
def jv:Value:=(.str (Ye "law_pk0128_01") 631)
def o2(P:Params):Obj:=⟨.none,none,(.dict #[dE P "\x69mport.loaded._sre" 183 (.bool true),dE P "class._frozen_importlib.BuiltinImporter" 185 (.ref 14),dE P "watched.\x69mport" 206 (.ref 18),dE P "class._frozen_importlib.ModuleSpec" 216 (.ref 22),dE P "sys.modules.booked-epoch" 245 (.int (3) 0),dE P "\x69mport.later-laid._sre" 270 (.bool true),dE P "watched.library" 272 (.ref 27),dE P "watched.library-objects" 0 (.str (Ye "\x0c") 0),dE P "watched.library-deep._sre" 273 (.str (Ye "\x04\x00\x00\x0b\x04\x00\x00\x0b\x04\x00\x00\x03\x04\x00\x00\x0b\x08\x04dict\x02") 0)] 9),#[]⟩
def o3(P:Params):Obj:=⟨(.type "dict"),none,(.dict #[dE P "__name__" 165 (.str (Ye "law_pk0128_01") 631),dE P "__doc__" 166 .none,dE P "__package__" 167 .none,dE P "__loader__" 168 (.builtin "__main__.__loader__#opaque"),dE P "__spec__" 169 .none,dE P "__annotations__" 170 (.ref 6),dE P "__builtins__" 171 (.ref 4),dE P "__file__" 173 (.str (Ye "/claim/cut.py") 172),dE P "__cached__" 174 .none,dE P "_sre" 275 (.ref 12),dE P "_wall" 288 (.ref 38),dE P "_twin_re_1" 328 (.ref 43),dE P "_namespace_map" 350 (.ref 44),dE P "_raise_serialization_error" 357 (.ref 51),dE P "_looks_like_prefix_name" 359 (.ref 52),dE P "C14NWriterTarget" 524 (.ref 150),dE P "_escape_cdata_c14n" 531 (.ref 161),dE P "_escape_attrib_c14n" 538 (.ref 168),dE P "S_IFMT" 547 (.ref 175),dE P "S_IFDIR" 549 (.int (16384) 548),dE P "S_IFCHR" 551 (.int (8192) 550),dE P "S_IFBLK" 553 (.int (24576) 552),dE P "S_IFREG" 555 (.int (32768) 554),dE P "S_IFIFO" 557 (.int (4096) 556),dE P "S_IFLNK" 559 (.int (40960) 558),dE P "S_IFSOCK" 561 (.int (49152) 560),dE P "S_ISDIR" 568 (.ref 182),dE P "S_ISUID" 570 (.int (2048) 569),dE P "S_ISGID" 572 (.int (1024) 571),dE P "S_ISVTX" 574 (.int (512) 573),dE P "S_IRUSR" 576 (.int (256) 575),dE P "S_IWUSR" 578 (.int (128) 577),dE P "S_IXUSR" 580 (.int (64) 579),dE P "S_IRGRP" 582 (.int (32) 581),dE P "S_IWGRP" 584 (.int (16) 583),dE P "S_IXGRP" 586 (.int (8) 585),dE P "S_IROTH" 588 (.int (4) 587),dE P "S_IWOTH" 590 (.int (2) 589),dE P "S_IXOTH" 592 (.int (1) 591),dE P "_filemode_table" 618 (.ref 215),dE P "filemode" 630 (.ref 222),dE P "_law_mode" 641 (.ref 229),dE P "_law_name" 648 (.ref 236),dE P "_law_tell" 661 (.ref 243),dE P "_law_told" 667 (.ref 248),dE P "_law_code" 678 (.ref 255),dE P "_law_row" 688 (.ref 262),dE P "_law_chain" 697 (.ref 269),dE P "_law_text" 703 (.ref 274),dE P "_law_due" 709 (.ref 279),dE P "law" 715 (.ref 284)] 51),#[]⟩
def Er:Obj:=cO "_wall" "_wall" 282 2 1 0 3 37 286
def DR:{o:Obj//mF "_wall" "_wall" .none .none Ek 37 (eQ 1)=o}:=by
 refine⟨?b,?h⟩
 case h=>conv=>lhs;whnf
def Es:Obj:=DR.1
noncomputable def Av:Obj:=⟨(.type "tuple"),none,(.seq #[(.int (14) 0),(.int (4) 0),(.int (0) 0),(.int (3) 0),(.int (4294967295) 0),(.int (6) 0),(.int (0) 0),(.int (24) 0),(.int (9) 0),(.int (1) 0),(.int (4294967295) 0),(.int (13) 0),(.int (4) 0),(.int (8) 0),(.int (14) 0),(.int (0) 0),(.int (1) 0),(.int (16) 0),(.int (58) 0),(.int (24) 0),(.int (9) 0),(.int (1) 0),(.int (4294967295) 0),(.int (13) 0),(.int (4) 0),(.int (8) 0),(.int (14) 0),(.int (0) 0),(.int (1) 0),(.int (6) 0),(.int (5) 0),(.int (1) 0)] 0),#[]⟩
def Aw:Obj:=⟨(.type "re.Pattern"),none,(.fields #[(.str (Ye "^\\w+:\\w+$") 292),(.int (32) 327),(.int (0) 0), .none, .none,(.ref 42),(.int (0) 0)]),#[]⟩
def Et(P:Params):Obj:=⟨(.type "dict"),none,(.dict #[dE P "http://www.w3.org/XML/1998/namespace" 329 (.str (Ye "xml") 330),dE P "http://www.w3.org/1999/xhtml" 331 (.str (Ye "html") 332),dE P "http://www.w3.org/1999/02/22-rdf-syntax-ns#" 333 (.str (Ye "rdf") 334),dE P "http://schemas.xmlsoap.org/wsdl/" 335 (.str (Ye "wsdl") 336),dE P "http://www.w3.org/2001/XMLSchema" 337 (.str (Ye "xs") 338),dE P "http://www.w3.org/2001/XMLSchema-instance" 339 (.str (Ye "xsi") 340),dE P "http://purl.org/dc/elements/1.1/" 341 (.str (Ye "dc") 342)] 7),#[]⟩
def Eu:Obj:=cO "_raise_serialization_error" "_raise_serialization_error" 351 8 1 0 3 50 355
def DT:{o:Obj//mF "_raise_serialization_error" "_raise_serialization_error" .none .none fS 50 (eQ 5)=o}:=by
 refine⟨?b,?h⟩
 case h=>conv=>lhs;whnf
def Ev:Obj:=DT.1
noncomputable def Ax:Obj:=⟨(.type "builtin_function_or_method"),none,(.fields #[(.builtin "re.Pattern.match"),(.ref 43)]),#[]⟩
def BO(P:Params):Obj:=⟨(.type "dict"),none,(.dict #[dE P "with_comments" 372 (.bool false),dE P "strip_text" 373 (.bool false),dE P "rewrite_prefixes" 374 (.bool false),dE P "qname_aware_tags" 375 .none,dE P "qname_aware_attrs" 376 .none,dE P "exclude_attrs" 377 .none,dE P "exclude_tags" 378 .none] 7),#[]⟩
def Ew:Obj:=cO "__init__" "C14NWriterTarget.__init__" 379 13 2 7 3 66 391
def DU:{o:Obj//mF "__init__" "C14NWriterTarget.__init__" .none (.ref 60) fS 66 (fn 7 0)=o}:=by
 refine⟨?b,?h⟩
 case h=>conv=>lhs;whnf
def Ex:Obj:=DU.1
noncomputable def Ey:Obj:=⟨(.type "tuple"),none,(.seq #[(.type "reversed")] 0),#[]⟩
def Ez:Obj:=cO "_iter_namespaces" "C14NWriterTarget._iter_namespaces" 394 41 3 0 35 74 401
def DV:{o:Obj//mF "_iter_namespaces" "C14NWriterTarget._iter_namespaces" (.ref 68) .none fS 74 (fn 7 1)=o}:=by
 refine⟨?b,?h⟩
 case h=>conv=>lhs;whnf
def EA:Obj:=DV.1
def EB:Obj:=cO "_resolve_prefix_name" "C14NWriterTarget._resolve_prefix_name" 404 46 2 0 3 81 413
def DW:{o:Obj//mF "_resolve_prefix_name" "C14NWriterTarget._resolve_prefix_name" .none .none fS 81 (fn 7 2)=o}:=by
 refine⟨?b,?h⟩
 case h=>conv=>lhs;whnf
def EC:Obj:=DW.1
noncomputable def ED:Obj:=⟨(.type "tuple"),none,(.seq #[.none] 0),#[]⟩
def EE:Obj:=cO "_qname" "C14NWriterTarget._qname" 416 53 3 0 3 89 426
def DX:{o:Obj//mF "_qname" "C14NWriterTarget._qname" (.ref 83) .none fS 89 (fn 7 3)=o}:=by
 refine⟨?b,?h⟩
 case h=>conv=>lhs;whnf
def EF:Obj:=DX.1
def EG:Obj:=cO "data" "C14NWriterTarget.data" 429 80 2 0 3 96 434
def DY:{o:Obj//mF "data" "C14NWriterTarget.data" .none .none fS 96 (fn 7 4)=o}:=by
 refine⟨?b,?h⟩
 case h=>conv=>lhs;whnf
def EH:Obj:=DY.1
def Ay:Obj:=⟨(.type "builtin_function_or_method"),none,(.fields #[(.builtin "str.join"),(.str (Ye "") 437)]),#[]⟩
noncomputable def EI:Obj:=⟨(.type "tuple"),none,(.seq #[(.ref 98)] 0),#[]⟩
def Cm:Obj:=cO "_flush" "C14NWriterTarget._flush" 439 84 2 0 3 105 447
def Be:{o:Obj//mF "_flush" "C14NWriterTarget._flush" (.ref 99) .none fS 105 (fn 7 5)=o}:=by
 refine⟨?b,?h⟩
 case h=>conv=>lhs;whnf
def Cn:Obj:=Be.1
def Co:Obj:=cO "start_ns" "C14NWriterTarget.start_ns" 450 98 3 0 3 112 456
def Bf:{o:Obj//mF "start_ns" "C14NWriterTarget.start_ns" .none .none fS 112 (fn 7 6)=o}:=by
 refine⟨?b,?h⟩
 case h=>conv=>lhs;whnf
def Cp:Obj:=Bf.1
def Cq:Obj:=cO "start" "C14NWriterTarget.start" 459 105 3 0 3 119 466
def Bg:{o:Obj//mF "start" "C14NWriterTarget.start" .none .none fS 119 (fn 7 7)=o}:=by
 refine⟨?b,?h⟩
 case h=>conv=>lhs;whnf
def Cr:Obj:=Bg.1
def Cs:Obj:=⟨(.type "tuple"),none,(.seq #[.none] 0),#[]⟩
def Ct:Obj:=⟨(.type "code"),none,(.fields #[(.str (Ye "_start") 469),(.str (Ye "C14NWriterTarget._start") 470),(.str (Ye "/claim/cut.py") 471),(.int (118) 0),(.int (5) 0),(.int (0) 0),(.int (0) 0),(.int (3) 0),(.ref 122),(.bool true),(.int (276) 0),(.ref 123), .none, .none, .none,(.ref 124),(.int (472) 0),(.int (118) 0),(.str (Ye "/claim/cut.py") 473)]),#[]⟩
def Bh:{o:Obj//mF "_start" "C14NWriterTarget._start" (.ref 121) .none fS 125 (fn 7 8)=o}:=by
 refine⟨?b,?h⟩
 case h=>conv=>lhs;whnf
def Cu:Obj:=Bh.1
def Cv:Obj:=cO "end" "C14NWriterTarget.end" 475 163 2 0 3 132 480
def Bi:{o:Obj//mF "end" "C14NWriterTarget.end" .none .none fS 132 (fn 7 9)=o}:=by
 refine⟨?b,?h⟩
 case h=>conv=>lhs;whnf
def Cw:Obj:=Bi.1
def Cx:Obj:=cO "comment" "C14NWriterTarget.comment" 483 175 2 0 3 139 488
def Bj:{o:Obj//mF "comment" "C14NWriterTarget.comment" .none .none fS 139 (fn 7 10)=o}:=by
 refine⟨?b,?h⟩
 case h=>conv=>lhs;whnf
def Cy:Obj:=Bj.1
def Cz:Obj:=cO "pi" "C14NWriterTarget.pi" 491 178 3 0 3 146 497
def Bk:{o:Obj//mF "pi" "C14NWriterTarget.pi" .none .none fS 146 (fn 7 11)=o}:=by
 refine⟨?b,?h⟩
 case h=>conv=>lhs;whnf
def CA:Obj:=Bk.1
def CB:Obj:=⟨(.type "tuple"),none,(.seq #[(.str (Ye "_data") 500),(.str (Ye "_declared_ns_stack") 501),(.str (Ye "_exclude_attrs") 502),(.str (Ye "_exclude_tags") 503),(.str (Ye "_find_qname_aware_attrs") 504),(.str (Ye "_ignored_depth") 505),(.str (Ye "_ns_stack") 506),(.str (Ye "_pending_start") 507),(.str (Ye "_prefix_map") 508),(.str (Ye "_preserve_space") 509),(.str (Ye "_qname_aware_tags") 510),(.str (Ye "_rewrite_prefixes") 511),(.str (Ye "_root_done") 512),(.str (Ye "_root_seen") 513),(.str (Ye "_strip_text") 514),(.str (Ye "_with_comments") 515),(.str (Ye "_write") 516)] 0),#[]⟩
def CC(P:Params):Obj:=⟨(.type "dict"),none,(.dict #[dE P "__module__" 367 (.str (Ye "cpy313.xml.etree.ElementTree") 289),dE P "__firstlineno__" 371 (.int (11) 370),dE P "__init__" 393 (.ref 67),dE P "_iter_namespaces" 403 (.ref 75),dE P "_resolve_prefix_name" 415 (.ref 82),dE P "_qname" 428 (.ref 90),dE P "data" 436 (.ref 97),dE P "_flush" 449 (.ref 106),dE P "start_ns" 458 (.ref 113),dE P "start" 468 (.ref 120),dE P "_start" 474 (.ref 126),dE P "end" 482 (.ref 133),dE P "comment" 490 (.ref 140),dE P "pi" 499 (.ref 147),dE P "__static_attributes__" 517 (.ref 148),dE P "__dict__" 519 (.ref 151),dE P "__weakref__" 521 (.ref 152),dE P "__doc__" 522 .none] 4),#[]⟩
def CD:Obj:=⟨(.type "type"),none,(.cls {name:=(Ye "C14NWriterTarget"),bases:=[(.type "object")],mro:=[(.ref 150),(.type "object")],ns:=149,qualname:=(Ye "C14NWriterTarget"),hasDict:=true,slotNames:=[],subclasses:=[],abstract:=false,collection:=none,hasDel:=false}),#[none,none,(some (.str (Ye "C14NWriterTarget") 360)),(some (.str (Ye "C14NWriterTarget") 368)),(some (.builtin "object.__new__")),(some (.bool true))]⟩
def CE:Obj:=⟨(.type "getset_descriptor"),none,(.fields #[(.str (Ye "__dict__") 518),(.ref 150),(.builtin "function.__dict__"),(.builtin "function.__dict__#set")]),#[]⟩
def CF:Obj:=⟨(.type "getset_descriptor"),none,(.fields #[(.str (Ye "__weakref__") 520),(.ref 150),(.builtin "ExceptionGroup.__weakref__"), .none]),#[]⟩
def CG:Obj:=cO "_escape_cdata_c14n" "_escape_cdata_c14n" 525 180 1 0 3 160 529
def Bl:{o:Obj//mF "_escape_cdata_c14n" "_escape_cdata_c14n" .none .none fS 160 (eQ 8)=o}:=by
 refine⟨?b,?h⟩
 case h=>conv=>lhs;whnf
def CH:Obj:=Bl.1
def CI:Obj:=cO "_escape_attrib_c14n" "_escape_attrib_c14n" 532 193 1 0 3 167 536
def Bm:{o:Obj//mF "_escape_attrib_c14n" "_escape_attrib_c14n" .none .none fS 167 (eQ 9)=o}:=by
 refine⟨?b,?h⟩
 case h=>conv=>lhs;whnf
def CJ:Obj:=Bm.1
def CK:Obj:=cO "S_IFMT" "S_IFMT" 541 211 1 0 3 174 545
def Bn:{o:Obj//mF "S_IFMT" "S_IFMT" .none .none Ai 174 (eQ 11)=o}:=by
 refine⟨?b,?h⟩
 case h=>conv=>lhs;whnf
def CM:Obj:=Bn.1
def CN:Obj:=cO "S_ISDIR" "S_ISDIR" 562 220 1 0 3 181 566
def Bo:{o:Obj//mF "S_ISDIR" "S_ISDIR" .none .none Ai 181 (eQ 19)=o}:=by
 refine⟨?b,?h⟩
 case h=>conv=>lhs;whnf
def CO:Obj:=Bo.1
def CP:Obj:=⟨(.type "tuple"),none,(.seq #[(.int (40960) 558),(.str (Ye "l") 593)] 0),#[]⟩
def CQ:Obj:=⟨(.type "tuple"),none,(.seq #[(.int (49152) 560),(.str (Ye "s") 594)] 0),#[]⟩
def CR:Obj:=⟨(.type "tuple"),none,(.seq #[(.int (32768) 554),(.str (Ye "-") 595)] 0),#[]⟩
def CS:Obj:=⟨(.type "tuple"),none,(.seq #[(.int (24576) 552),(.str (Ye "b") 596)] 0),#[]⟩
def CT:Obj:=⟨(.type "tuple"),none,(.seq #[(.int (16384) 548),(.str (Ye "d") 597)] 0),#[]⟩
def CU:Obj:=⟨(.type "tuple"),none,(.seq #[(.int (8192) 550),(.str (Ye "c") 598)] 0),#[]⟩
def CV:Obj:=⟨(.type "tuple"),none,(.seq #[(.int (4096) 556),(.str (Ye "p") 599)] 0),#[]⟩
noncomputable def CW:Obj:=⟨(.type "tuple"),none,(.seq #[(.ref 183),(.ref 184),(.ref 185),(.ref 186),(.ref 187),(.ref 188),(.ref 189)] 0),#[]⟩
def CX:Obj:=⟨(.type "tuple"),none,(.seq #[(.int (256) 575),(.str (Ye "r") 600)] 0),#[]⟩
noncomputable def CY:Obj:=⟨(.type "tuple"),none,(.seq #[(.ref 191)] 0),#[]⟩
def CZ:Obj:=⟨(.type "tuple"),none,(.seq #[(.int (128) 577),(.str (Ye "w") 601)] 0),#[]⟩
noncomputable def C0:Obj:=⟨(.type "tuple"),none,(.seq #[(.ref 193)] 0),#[]⟩
def C1:Obj:=⟨(.type "tuple"),none,(.seq #[(.int (2112) 602),(.str (Ye "s") 603)] 0),#[]⟩
def C5:Obj:=⟨(.type "tuple"),none,(.seq #[(.int (2048) 569),(.str (Ye "S") 604)] 0),#[]⟩
def C6:Obj:=⟨(.type "tuple"),none,(.seq #[(.int (64) 579),(.str (Ye "x") 605)] 0),#[]⟩
noncomputable def C7:Obj:=⟨(.type "tuple"),none,(.seq #[(.ref 195),(.ref 196),(.ref 197)] 0),#[]⟩
def C8:Obj:=⟨(.type "tuple"),none,(.seq #[(.int (32) 581),(.str (Ye "r") 606)] 0),#[]⟩
noncomputable def C9:Obj:=⟨(.type "tuple"),none,(.seq #[(.ref 199)] 0),#[]⟩
def Db:Obj:=⟨(.type "tuple"),none,(.seq #[(.int (16) 583),(.str (Ye "w") 607)] 0),#[]⟩
noncomputable def Dc:Obj:=⟨(.type "tuple"),none,(.seq #[(.ref 201)] 0),#[]⟩
def De:Obj:=⟨(.type "tuple"),none,(.seq #[(.int (1032) 608),(.str (Ye "s") 609)] 0),#[]⟩
def Dg:Obj:=⟨(.type "tuple"),none,(.seq #[(.int (1024) 571),(.str (Ye "S") 610)] 0),#[]⟩
def Di:Obj:=⟨(.type "tuple"),none,(.seq #[(.int (8) 585),(.str (Ye "x") 611)] 0),#[]⟩
noncomputable def Dj:Obj:=⟨(.type "tuple"),none,(.seq #[(.ref 203),(.ref 204),(.ref 205)] 0),#[]⟩
def Dk:Obj:=⟨(.type "tuple"),none,(.seq #[(.int (4) 587),(.str (Ye "r") 612)] 0),#[]⟩
noncomputable def Dl:Obj:=⟨(.type "tuple"),none,(.seq #[(.ref 207)] 0),#[]⟩
def Dm:Obj:=⟨(.type "tuple"),none,(.seq #[(.int (2) 589),(.str (Ye "w") 613)] 0),#[]⟩
noncomputable def Do:Obj:=⟨(.type "tuple"),none,(.seq #[(.ref 209)] 0),#[]⟩
def Ds:Obj:=⟨(.type "tuple"),none,(.seq #[(.int (513) 614),(.str (Ye "t") 615)] 0),#[]⟩
def Dt:Obj:=⟨(.type "tuple"),none,(.seq #[(.int (512) 573),(.str (Ye "T") 616)] 0),#[]⟩
def Du:Obj:=⟨(.type "tuple"),none,(.seq #[(.int (1) 591),(.str (Ye "x") 617)] 0),#[]⟩
noncomputable def Dv:Obj:=⟨(.type "tuple"),none,(.seq #[(.ref 211),(.ref 212),(.ref 213)] 0),#[]⟩
noncomputable def Dw:Obj:=⟨(.type "tuple"),none,(.seq #[(.ref 190),(.ref 192),(.ref 194),(.ref 198),(.ref 200),(.ref 202),(.ref 206),(.ref 208),(.ref 210),(.ref 214)] 0),#[]⟩
def Dx:Obj:=cO "filemode" "filemode" 619 235 1 0 3 221 628
def Bp:{o:Obj//mF "filemode" "filemode" .none .none Ai 221 (eQ 33)=o}:=by
 refine⟨?b,?h⟩
 case h=>conv=>lhs;whnf
def Dy:Obj:=Bp.1
def Dz:Obj:=cO "_law_mode" "_law_mode" 633 253 1 0 3 228 639
def Bq:{o:Obj//mF "_law_mode" "_law_mode" .none .none jv 228 (eQ 35)=o}:=by
 refine⟨?b,?h⟩
 case h=>conv=>lhs;whnf
def DA:Obj:=Bq.1
def DB:Obj:=cO "_law_name" "_law_name" 642 261 1 0 3 235 646
def Bs:{o:Obj//mF "_law_name" "_law_name" .none .none jv 235 (eQ 36)=o}:=by
 refine⟨?b,?h⟩
 case h=>conv=>lhs;whnf
def DC:Obj:=Bs.1
def DD:Obj:=cO "_law_tell" "_law_tell" 649 263 4 0 3 242 659
def Bu:{o:Obj//mF "_law_tell" "_law_tell" .none .none jv 242 (eQ 37)=o}:=by
 refine⟨?b,?h⟩
 case h=>conv=>lhs;whnf
def DE:Obj:=Bu.1
def DF:Obj:=⟨(.type "code"),none,(.fields #[(.str (Ye "_law_told") 662),(.str (Ye "_law_told") 663),(.str (Ye "/claim/cut.py") 664),(.int (280) 0),(.int (2) 0),(.int (0) 0),(.int (0) 0),(.int (3) 0),(.ref 244),(.bool true),(.int (276) 0),(.ref 245), .none, .none, .none,(.ref 246),(.int (665) 0),(.int (280) 0),(.str (Ye "/claim/cut.py") 666)]),#[]⟩
def Bv:{o:Obj//mF "_law_told" "_law_told" .none .none jv 247 (eQ 38)=o}:=by
 refine⟨?b,?h⟩
 case h=>conv=>lhs;whnf
def DG:Obj:=Bv.1
def DH:Obj:=cO "_law_code" "_law_code" 668 289 1 0 3 254 676
def Bw:{o:Obj//mF "_law_code" "_law_code" .none .none jv 254 (eQ 39)=o}:=by
 refine⟨?b,?h⟩
 case h=>conv=>lhs;whnf
def DI:Obj:=Bw.1
def DJ:Obj:=cO "_law_row" "_law_row" 679 296 1 0 3 261 686
def Bx:{o:Obj//mF "_law_row" "_law_row" .none .none jv 261 (eQ 40)=o}:=by
 refine⟨?b,?h⟩
 case h=>conv=>lhs;whnf
def DK:Obj:=Bx.1
def DL:Obj:=cO "_law_chain" "_law_chain" 689 302 2 0 3 268 695
def By:{o:Obj//mF "_law_chain" "_law_chain" .none .none jv 268 (eQ 41)=o}:=by
 refine⟨?b,?h⟩
 case h=>conv=>lhs;whnf
def DM:Obj:=By.1
def DN:Obj:=⟨(.type "code"),none,(.fields #[(.str (Ye "_law_text") 698),(.str (Ye "_law_text") 699),(.str (Ye "/claim/cut.py") 700),(.int (308) 0),(.int (4) 0),(.int (0) 0),(.int (0) 0),(.int (3) 0),(.ref 270),(.bool true),(.int (276) 0),(.ref 271), .none, .none, .none,(.ref 272),(.int (701) 0),(.int (308) 0),(.str (Ye "/claim/cut.py") 702)]),#[]⟩
def Bz:{o:Obj//mF "_law_text" "_law_text" .none .none jv 273 (eQ 42)=o}:=by
 refine⟨?b,?h⟩
 case h=>conv=>lhs;whnf
def At:Obj:=Bz.1
def DO:Obj:=⟨(.type "code"),none,(.fields #[(.str (Ye "_law_due") 704),(.str (Ye "_law_due") 705),(.str (Ye "/claim/cut.py") 706),(.int (329) 0),(.int (2) 0),(.int (0) 0),(.int (0) 0),(.int (3) 0),(.ref 275),(.bool true),(.int (276) 0),(.ref 276), .none, .none, .none,(.ref 277),(.int (707) 0),(.int (329) 0),(.str (Ye "/claim/cut.py") 708)]),#[]⟩
def BA:{o:Obj//mF "_law_due" "_law_due" .none .none jv 278 (eQ 43)=o}:=by
 refine⟨?b,?h⟩
 case h=>conv=>lhs;whnf
def Au:Obj:=BA.1
def DP:Obj:=⟨(.type "code"),none,(.fields #[(.str (Ye "law") 710),(.str (Ye "law") 711),(.str (Ye "/claim/cut.py") 712),(.int (362) 0),(.int (1) 0),(.int (0) 0),(.int (0) 0),(.int (3) 0),(.ref 280),(.bool true),(.int (276) 0),(.ref 281), .none, .none, .none,(.ref 282),(.int (713) 0),(.int (362) 0),(.str (Ye "/claim/cut.py") 714)]),#[]⟩
def BB:{o:Obj//mF "law" "law" .none .none jv 283 (eQ 44)=o}:=by
 refine⟨?b,?h⟩
 case h=>conv=>lhs;whnf
def DQ:Obj:=BB.1
def ao(P:Params):Frag:=(nat_lit 2,o2 P)::(nat_lit 3,o3 P)::(nat_lit 37,Er)::(nat_lit 38,Es)::(nat_lit 42,Av)::(nat_lit 43,Aw)::(nat_lit 44,Et P)::(nat_lit 50,Eu)::(nat_lit 51,Ev)::(nat_lit 52,Ax)::(nat_lit 60,BO P)::(nat_lit 66,Ew)::(nat_lit 67,Ex)::(nat_lit 68,Ey)::(nat_lit 74,Ez)::(nat_lit 75,EA)::(nat_lit 81,EB)::(nat_lit 82,EC)::(nat_lit 83,ED)::(nat_lit 89,EE)::(nat_lit 90,EF)::(nat_lit 96,EG)::(nat_lit 97,EH)::(nat_lit 98,Ay)::(nat_lit 99,EI)::(nat_lit 105,Cm)::(nat_lit 106,Cn)::(nat_lit 112,Co)::(nat_lit 113,Cp)::(nat_lit 119,Cq)::(nat_lit 120,Cr)::(nat_lit 121,Cs)::(nat_lit 125,Ct)::(nat_lit 126,Cu)::(nat_lit 132,Cv)::(nat_lit 133,Cw)::(nat_lit 139,Cx)::(nat_lit 140,Cy)::(nat_lit 146,Cz)::(nat_lit 147,CA)::(nat_lit 148,CB)::(nat_lit 149,CC P)::(nat_lit 150,CD)::(nat_lit 151,CE)::(nat_lit 152,CF)::(nat_lit 160,CG)::(nat_lit 161,CH)::(nat_lit 167,CI)::(nat_lit 168,CJ)::(nat_lit 174,CK)::(nat_lit 175,CM)::(nat_lit 181,CN)::(nat_lit 182,CO)::(nat_lit 183,CP)::(nat_lit 184,CQ)::(nat_lit 185,CR)::(nat_lit 186,CS)::(nat_lit 187,CT)::(nat_lit 188,CU)::(nat_lit 189,CV)::(nat_lit 190,CW)::(nat_lit 191,CX)::(nat_lit 192,CY)::(nat_lit 193,CZ)::(nat_lit 194,C0)::(nat_lit 195,C1)::(nat_lit 196,C5)::(nat_lit 197,C6)::(nat_lit 198,C7)::(nat_lit 199,C8)::(nat_lit 200,C9)::(nat_lit 201,Db)::(nat_lit 202,Dc)::(nat_lit 203,De)::(nat_lit 204,Dg)::(nat_lit 205,Di)::(nat_lit 206,Dj)::(nat_lit 207,Dk)::(nat_lit 208,Dl)::(nat_lit 209,Dm)::(nat_lit 210,Do)::(nat_lit 211,Ds)::(nat_lit 212,Dt)::(nat_lit 213,Du)::(nat_lit 214,Dv)::(nat_lit 215,Dw)::(nat_lit 221,Dx)::(nat_lit 222,Dy)::(nat_lit 228,Dz)::(nat_lit 229,DA)::(nat_lit 235,DB)::(nat_lit 236,DC)::(nat_lit 242,DD)::(nat_lit 243,DE)::(nat_lit 247,DF)::(nat_lit 248,DG)::(nat_lit 254,DH)::(nat_lit 255,DI)::(nat_lit 261,DJ)::(nat_lit 262,DK)::(nat_lit 268,DL)::(nat_lit 269,DM)::(nat_lit 273,DN)::(nat_lit 274,At)::(nat_lit 278,DO)::(nat_lit 279,Au)::(nat_lit 283,DP)::(nat_lit 284,DQ)::[]
noncomputable def AV:List Addr:=[2,3,37,38,42,43,44,50,51,52,60,66,67,68,74,75,81,82,83,89,90,96,97,98,99,105,106,112,113,119,120,121,125,126,132,133,139,140,146,147,148,149,150,151,152,160,161,167,168,174,175,181,182,183,184,185,186,187,188,189,190,191,192,193,194,195,196,197,198,199,200,201,202,203,204,205,206,207,208,209,210,211,212,213,214,215,221,222,228,229,235,236,242,243,247,248,254,255,261,262,268,269,273,274,278,279,283,284]
noncomputable def FX:List Nat:=[0,1,3,4,5,6,7,8,9,11,12,13,14,15,16,17,18,19,20,21,22,23,24,25,26,27,28,29,30,31,32,33,35,36,37,38,39,40,41,42,43,44]
def cu:Program:={PR with main:={PR.main with body:=FX.map eQ}}
abbrev loose:List Str:=[Ye "_twin_re_1",Ye "_namespace_map",Ye "_looks_like_prefix_name",Ye "C14NWriterTarget",Ye "_filemode_table"]
theorem yO:∀ P,AV=(ao P).map (·.1):=fun P=>by kernel_rfl
def Eb:Hook:=kmHook ao AV yO [123]
abbrev RR:RowW:=PySem.Challenge.rw_pk0128_01.row.toRowW
abbrev Seen(w:World):Prop:=(openEnds treeTable PR w 3616).map (fun s=>(openSeen cu loose (importedModules PR.main.body) (fun s=>xlAt cu [] s&&recOk RR.records s) true s,Eb.obs s))=some (openGood cu loose,Eb.val w)
noncomputable def mP (w:World) (UA:Nat) (ann:Option Value) (n:Nat):SharedT->Thread->Option SharedT:=
 Nat.rec (fun _ _=>none) (fun _ ih s t=>cond (through t) (some s) (cond (stepOk UA ann t) ((stepT (denote treeTable) PR w s t).bind fun x=>ih x.1 x.2) none)) n
theorem sS{w:World}(n:Nat):∀ {s s' t},mP w UA ann n s t=some s'->topRun treeTable PR w UA ann n s.abs t=some s'.abs:=by
 induction n with
 |zero=>intro _ _ _ h;cases h
 |succ n ih=>
  intro s s' t h;change cond (through t) (some s) (cond (stepOk UA ann t) ((stepT (denote treeTable) PR w s t).bind fun x=>mP w UA ann n x.1 x.2) none)=some s' at h;unfold topRun;revert h
  cases through t with
  |true=>intro h;cases h;rfl
  |false=>
   cases stepOk UA ann t with
   |false=>intro h;cases h
   |true=>
    intro h;obtain⟨⟨QU,XE⟩,h1,h2⟩:=Option.bind_eq_some_iff.mp h;dsimp only;refine aa (stepT_spec h1) ?_;exact ih h2
def Az(l:List Obj):BT->Nat->Option BT:=List.rec (fun T _=>some T) (fun o _ ih T n=>cond ((T.ins n o).get n).isSome (ih (T.ins n o) (n+1)) none) l
theorem wO(life:Life)(l:List Obj):∀ {T T' n},Az l T n=some T'->absHeap T' (n+l.length) life=⟨(absHeap T n life).objs++l.toArray,life⟩:=by
 induction l with
 |nil=>intro T T' n h;cases h;exact congrArg (Heap.mk · life) Array.append_empty.symm
 |cons o l ih=>
  intro T T' n h;change cond ((T.ins n o).get n).isSome (Az l (T.ins n o) (n+1)) none=some T' at h
  cases he:((T.ins n o).get n).isSome with
  |false=>rw[he] at h;cases h
  |true=>
   rw[he] at h;refine(congrArg (absHeap T' · life) (Nat.succ_add_eq_add_succ n l.length)).symm.trans ((ih h).trans ?_);refine aa (absHeap_ins he) (congrArg (Heap.mk · life) ?_);show ((absHeap T n life).objs.push o)++l.toArray=_;exact Array.ext' (by simp)
def B5(s:Shared):Option SharedT:=(Az s.heap.objs.toList .nil 0).map fun T=>⟨T,s.heap.objs.toList.length,s.heap.life,s.gens,s.drawn,s.toks,s.os⟩
theorem xf{s:Shared}{x:SharedT}(h:B5 s=some x):x.abs=s:=by
 obtain⟨⟨objs,life⟩,gens,drawn,toks,os⟩:=s;obtain⟨T,h1,rfl⟩:=Lv.mp h;have e:=wO life _ h1;rw[Nn] at e;exact congrArg (Shared.mk · gens drawn toks os) (e.trans (congrArg (Heap.mk · life) Array.empty_append))
def jX(w:World)(Qs:Shared):Option Shared:=
 cond (Qs.heap.isNs mainGlobals&&Qs.gens.size==0) (((B5 Qs).bind fun x=>mP w Qs.heap.objs.size (Qs.heap.nsMap mainGlobals "__annotations__") 3616 x (topStub PR)).bind fun y=>
  cond (staticsOk (importedModules PR.main.body) Qs.heap y.abs.heap&&namesBound PR y.abs.heap&&gensDone y.abs&&laidKept Qs.heap y.abs.heap) (some y.abs) none) none
theorem qF{w:World}{Qs s:Shared}(h:jX w Qs=some s):topFrom treeTable PR w 3616 Qs=some s:=by
 unfold jX at h;unfold topFrom;revert h
 cases Qs.heap.isNs mainGlobals&&Qs.gens.size==0 with
 |false=>intro h;cases h
 |true=>
  intro h;obtain⟨y,h1,h2⟩:=Option.bind_eq_some_iff.mp h;obtain⟨x,h3,h4⟩:=Option.bind_eq_some_iff.mp h1;have e:=sS _ h4;rw[xf h3] at e;dsimp only;refine aa e ?_;revert h2;dsimp only[Option.bind]
  cases staticsOk (importedModules PR.main.body) Qs.heap y.abs.heap&&namesBound PR y.abs.heap&&gensDone y.abs&&laidKept Qs.heap y.abs.heap with
  |false=>exact id
  |true=>exact id
abbrev ke(w:World):Prop:=((fencedOpening treeTable PR w 3616).bind (jX w)).map (fun s=>(openSeen cu loose (importedModules PR.main.body) (fun s=>xlAt cu [] s&&recOk RR.records s) true s,Eb.obs s))=some (openGood cu loose,Eb.val w)
theorem rp{w:World}(h:ke w):Seen w:=by
 obtain⟨s,h1,h2⟩:=Lv.mp h;obtain⟨Qs,h3,h4⟩:=Option.bind_eq_some_iff.mp h1;show ((fencedOpening treeTable PR w 3616).bind _).map _=_;refine aa h3 ?_;show (topFrom treeTable PR w 3616 Qs).map _=_;exact aa (qF h4) (congrArg some h2)
set_option maxHeartbeats 0 in
theorem AO:∀ w:World,Seen (w.withFollow "special-get-raises" false):=fun w=>rp (show ke (w.withFollow "special-get-raises" false) by unfold ke;kernel_rfl)
set_option maxHeartbeats 0 in
theorem AP:∀ w:World,Seen (w.withFollow "special-get-raises" true):=fun w=>rp (show ke (w.withFollow "special-get-raises" true) by unfold ke;kernel_rfl)
theorem left:LeftO PR cu loose (fun s=>xlAt cu [] s&&recOk RR.records s) Eb.obs Eb.val 3616:=byRow2 "special-get-raises" (P:=Seen) AO AP
theorem D8:PySem.Challenge.rw_pk0128_01.wellSaid=true:=by kernel_rfl
noncomputable def fm:{x:DefRec×List (Str×X9)//defOf cu (Ye "law")=some x}:=by
 refine⟨?b,?h⟩
 case h=>conv=>lhs;whnf
theorem hd(call:WalkO cu loose (XL cu []) Eb.says RR fm.1.1 fm.1.2 fun f vs=>PySem.call f vs):PySem.Challenge.rw_pk0128_01.Holds:=
 holds_law D8 fun ok=>holds_open (q:=cu) (loose:=loose) (Xt:=fun s=>xlAt cu [] s&&recOk RR.records s) (XP:=XL cu []) (Yf:=Eb.obs) (Ya:=Eb.val) (YP:=Eb.says) (N:=3616)
  left Eb.of Eb.keeps (fun s e=>xl_of s (Nj.mp e).1) XL.keeps fm.2 (by kernel_rfl) (by kernel_rfl) (fun s e=>recFacts_of (Nj.mp e).2) rfl ok (by decide+kernel) ⟨rfl,rfl,rfl,rfl,rfl,by decide+kernel⟩ ⟨[.list []],by decide+kernel,by decide+kernel⟩ call
theorem yy:Nonempty World:=⟨⟨fun _ _=>0,{strHash:=fun _=>0,shareClass:=fun a=>a,mergeTok:=fun t=>t,idOf:=fun _=>0,idOfShared:=fun _ _=>0,followText:=fun _=>false,idOfImm:=fun _=>0}⟩⟩
def qw:{Q:World->Prop//(∀ w,Q w)->WalkO cu loose (XL cu []) Eb.says RR fm.1.1 fm.1.2 fun f vs=>PySem.call f vs}:=⟨_,fun h=>h⟩
def pk{α:Type}(ne:Nonempty α)(P:α->Prop):α:=@Classical.epsilon α ne fun a=>¬P a
theorem cU{α:Type}{ne:Nonempty α}{P:α->Prop}(h:P (pk ne P))(a:α):P a:=Classical.byContradiction fun q=>(@Classical.epsilon_spec α (fun a=>¬P a) ⟨a,q⟩:¬P (pk _ P)) h
def w:World:=pk yy qw.1
theorem cE(h:Nonempty α)(g:Nonempty β):Nonempty (α×β):=h.elim fun a=>g.elim fun b=>⟨(a,b)⟩
abbrev MP:Model:=model PR w
inductive aO{a0:Type}(p0 p1:a0->Prop):Prop
 |mk (x0:a0) (h0:p0 x0) (h1:p1 x0):aO p0 p1
inductive fJ{a0:Type}(p0 p1 p2:a0->Prop):Prop
 |mk (x0:a0) (h0:p0 x0) (h1:p1 x0) (h2:p2 x0):fJ p0 p1 p2
inductive vH{a0:Type}(p0 p1 p2 p3:a0->Prop):Prop
 |mk (x0:a0) (h0:p0 x0) (h1:p1 x0) (h2:p2 x0) (h3:p3 x0):vH p0 p1 p2 p3
inductive yX{a0:Type}(p0 p1 p2 p3 p4:a0->Prop):Prop
 |mk (x0:a0) (h0:p0 x0) (h1:p1 x0) (h2:p2 x0) (h3:p3 x0) (h4:p4 x0):yX p0 p1 p2 p3 p4
inductive yY{a0:Type}(p0 p1 p2 p3 p4 p5:a0->Prop):Prop
 |mk (x0:a0) (h0:p0 x0) (h1:p1 x0) (h2:p2 x0) (h3:p3 x0) (h4:p4 x0) (h5:p5 x0):yY p0 p1 p2 p3 p4 p5
inductive l9{a0 a1:Type}(p0:a0->a1->Prop):Prop
 |mk (x0:a0) (x1:a1) (h0:p0 x0 x1):l9 p0
inductive bE{a0 a1:Type}(p0 p1:a0->a1->Prop):Prop
 |mk (x0:a0) (x1:a1) (h0:p0 x0 x1) (h1:p1 x0 x1):bE p0 p1
inductive bW{a0 a1:Type}(p0 p1 p2:a0->a1->Prop):Prop
 |mk (x0:a0) (x1:a1) (h0:p0 x0 x1) (h1:p1 x0 x1) (h2:p2 x0 x1):bW p0 p1 p2
inductive rx{a0 a1:Type}(p0 p1 p2 p3:a0->a1->Prop):Prop
 |mk (x0:a0) (x1:a1) (h0:p0 x0 x1) (h1:p1 x0 x1) (h2:p2 x0 x1) (h3:p3 x0 x1):rx p0 p1 p2 p3
inductive iy{a0 a1:Type}(p0 p1 p2 p3 p4:a0->a1->Prop):Prop
 |mk (x0:a0) (x1:a1) (h0:p0 x0 x1) (h1:p1 x0 x1) (h2:p2 x0 x1) (h3:p3 x0 x1) (h4:p4 x0 x1):iy p0 p1 p2 p3 p4
inductive oh{a0 a1:Type}(p0 p1 p2 p3 p4 p5:a0->a1->Prop):Prop
 |mk (x0:a0) (x1:a1) (h0:p0 x0 x1) (h1:p1 x0 x1) (h2:p2 x0 x1) (h3:p3 x0 x1) (h4:p4 x0 x1) (h5:p5 x0 x1):oh p0 p1 p2 p3 p4 p5
inductive ry{a0 a1 a2:Type}(p0:a0->a1->a2->Prop):Prop
 |mk (x0:a0) (x1:a1) (x2:a2) (h0:p0 x0 x1 x2):ry p0
inductive gQ{a0 a1 a2:Type}(p0 p1:a0->a1->a2->Prop):Prop
 |mk (x0:a0) (x1:a1) (x2:a2) (h0:p0 x0 x1 x2) (h1:p1 x0 x1 x2):gQ p0 p1
inductive eg{a0 a1 a2:Type}(p0 p1 p2:a0->a1->a2->Prop):Prop
 |mk (x0:a0) (x1:a1) (x2:a2) (h0:p0 x0 x1 x2) (h1:p1 x0 x1 x2) (h2:p2 x0 x1 x2):eg p0 p1 p2
inductive gR{a0 a1 a2:Type}(p0 p1 p2 p3:a0->a1->a2->Prop):Prop
 |mk (x0:a0) (x1:a1) (x2:a2) (h0:p0 x0 x1 x2) (h1:p1 x0 x1 x2) (h2:p2 x0 x1 x2) (h3:p3 x0 x1 x2):gR p0 p1 p2 p3
inductive vI{a0 a1 a2:Type}(p0 p1 p2 p3 p4:a0->a1->a2->Prop):Prop
 |mk (x0:a0) (x1:a1) (x2:a2) (h0:p0 x0 x1 x2) (h1:p1 x0 x1 x2) (h2:p2 x0 x1 x2) (h3:p3 x0 x1 x2) (h4:p4 x0 x1 x2):vI p0 p1 p2 p3 p4
inductive vJ{a0 a1 a2:Type}(p0 p1 p2 p3 p4 p5:a0->a1->a2->Prop):Prop
 |mk (x0:a0) (x1:a1) (x2:a2) (h0:p0 x0 x1 x2) (h1:p1 x0 x1 x2) (h2:p2 x0 x1 x2) (h3:p3 x0 x1 x2) (h4:p4 x0 x1 x2) (h5:p5 x0 x1 x2):vJ p0 p1 p2 p3 p4 p5
inductive yZ{a0 a1 a2:Type}(p0 p1 p2 p3 p4 p5 p6 p7:a0->a1->a2->Prop):Prop
 |mk (x0:a0) (x1:a1) (x2:a2) (h0:p0 x0 x1 x2) (h1:p1 x0 x1 x2) (h2:p2 x0 x1 x2) (h3:p3 x0 x1 x2) (h4:p4 x0 x1 x2) (h5:p5 x0 x1 x2) (h6:p6 x0 x1 x2) (h7:p7 x0 x1 x2):yZ p0 p1 p2 p3 p4 p5 p6 p7
inductive vK{a0 a1 a2 a3:Type}(p0:a0->a1->a2->a3->Prop):Prop
 |mk (x0:a0) (x1:a1) (x2:a2) (x3:a3) (h0:p0 x0 x1 x2 x3):vK p0
inductive y7{a0 a1 a2 a3:Type}(p0 p1:a0->a1->a2->a3->Prop):Prop
 |mk (x0:a0) (x1:a1) (x2:a2) (x3:a3) (h0:p0 x0 x1 x2 x3) (h1:p1 x0 x1 x2 x3):y7 p0 p1
inductive vL{a0 a1 a2 a3:Type}(p0 p1 p2:a0->a1->a2->a3->Prop):Prop
 |mk (x0:a0) (x1:a1) (x2:a2) (x3:a3) (h0:p0 x0 x1 x2 x3) (h1:p1 x0 x1 x2 x3) (h2:p2 x0 x1 x2 x3):vL p0 p1 p2
inductive vM{a0 a1 a2 a3:Type}(p0 p1 p2 p3:a0->a1->a2->a3->Prop):Prop
 |mk (x0:a0) (x1:a1) (x2:a2) (x3:a3) (h0:p0 x0 x1 x2 x3) (h1:p1 x0 x1 x2 x3) (h2:p2 x0 x1 x2 x3) (h3:p3 x0 x1 x2 x3):vM p0 p1 p2 p3
inductive y8{a0 a1 a2 a3:Type}(p0 p1 p2 p3 p4:a0->a1->a2->a3->Prop):Prop
 |mk (x0:a0) (x1:a1) (x2:a2) (x3:a3) (h0:p0 x0 x1 x2 x3) (h1:p1 x0 x1 x2 x3) (h2:p2 x0 x1 x2 x3) (h3:p3 x0 x1 x2 x3) (h4:p4 x0 x1 x2 x3):y8 p0 p1 p2 p3 p4
inductive vN{a0 a1 a2 a3:Type}(p0 p1 p2 p3 p4 p5:a0->a1->a2->a3->Prop):Prop
 |mk (x0:a0) (x1:a1) (x2:a2) (x3:a3) (h0:p0 x0 x1 x2 x3) (h1:p1 x0 x1 x2 x3) (h2:p2 x0 x1 x2 x3) (h3:p3 x0 x1 x2 x3) (h4:p4 x0 x1 x2 x3) (h5:p5 x0 x1 x2 x3):vN p0 p1 p2 p3 p4 p5
inductive y9{a0 a1 a2 a3:Type}(p0 p1 p2 p3 p4 p5 p6:a0->a1->a2->a3->Prop):Prop
 |mk (x0:a0) (x1:a1) (x2:a2) (x3:a3) (h0:p0 x0 x1 x2 x3) (h1:p1 x0 x1 x2 x3) (h2:p2 x0 x1 x2 x3) (h3:p3 x0 x1 x2 x3) (h4:p4 x0 x1 x2 x3) (h5:p5 x0 x1 x2 x3) (h6:p6 x0 x1 x2 x3):y9 p0 p1 p2 p3 p4 p5 p6
inductive md{a0 a1 a2 a3:Type}(p0 p1 p2 p3 p4 p5 p6 p7:a0->a1->a2->a3->Prop):Prop
 |mk (x0:a0) (x1:a1) (x2:a2) (x3:a3) (h0:p0 x0 x1 x2 x3) (h1:p1 x0 x1 x2 x3) (h2:p2 x0 x1 x2 x3) (h3:p3 x0 x1 x2 x3) (h4:p4 x0 x1 x2 x3) (h5:p5 x0 x1 x2 x3) (h6:p6 x0 x1 x2 x3) (h7:p7 x0 x1 x2 x3):md p0 p1 p2 p3 p4 p5 p6 p7
inductive mf{a0 a1 a2 a3 a4:Type}(p0 p1 p2:a0->a1->a2->a3->a4->Prop):Prop
 |mk (x0:a0) (x1:a1) (x2:a2) (x3:a3) (x4:a4) (h0:p0 x0 x1 x2 x3 x4) (h1:p1 x0 x1 x2 x3 x4) (h2:p2 x0 x1 x2 x3 x4):mf p0 p1 p2
inductive zj{a0 a1 a2 a3 a4:Type}(p0 p1 p2 p3:a0->a1->a2->a3->a4->Prop):Prop
 |mk (x0:a0) (x1:a1) (x2:a2) (x3:a3) (x4:a4) (h0:p0 x0 x1 x2 x3 x4) (h1:p1 x0 x1 x2 x3 x4) (h2:p2 x0 x1 x2 x3 x4) (h3:p3 x0 x1 x2 x3 x4):zj p0 p1 p2 p3
inductive rz{a0 a1 a2 a3 a4:Type}(p0 p1 p2 p3 p4:a0->a1->a2->a3->a4->Prop):Prop
 |mk (x0:a0) (x1:a1) (x2:a2) (x3:a3) (x4:a4) (h0:p0 x0 x1 x2 x3 x4) (h1:p1 x0 x1 x2 x3 x4) (h2:p2 x0 x1 x2 x3 x4) (h3:p3 x0 x1 x2 x3 x4) (h4:p4 x0 x1 x2 x3 x4):rz p0 p1 p2 p3 p4
inductive zk{a0 a1 a2 a3 a4:Type}(p0 p1 p2 p3 p4 p5:a0->a1->a2->a3->a4->Prop):Prop
 |mk (x0:a0) (x1:a1) (x2:a2) (x3:a3) (x4:a4) (h0:p0 x0 x1 x2 x3 x4) (h1:p1 x0 x1 x2 x3 x4) (h2:p2 x0 x1 x2 x3 x4) (h3:p3 x0 x1 x2 x3 x4) (h4:p4 x0 x1 x2 x3 x4) (h5:p5 x0 x1 x2 x3 x4):zk p0 p1 p2 p3 p4 p5
inductive vO{a0 a1 a2 a3 a4:Type}(p0 p1 p2 p3 p4 p5 p6 p7:a0->a1->a2->a3->a4->Prop):Prop
 |mk (x0:a0) (x1:a1) (x2:a2) (x3:a3) (x4:a4) (h0:p0 x0 x1 x2 x3 x4) (h1:p1 x0 x1 x2 x3 x4) (h2:p2 x0 x1 x2 x3 x4) (h3:p3 x0 x1 x2 x3 x4) (h4:p4 x0 x1 x2 x3 x4) (h5:p5 x0 x1 x2 x3 x4) (h6:p6 x0 x1 x2 x3 x4) (h7:p7 x0 x1 x2 x3 x4):vO p0 p1 p2 p3 p4 p5 p6 p7
inductive vP{a0 a1 a2 a3 a4:Type}(p0 p1 p2 p3 p4 p5 p6 p7 p8:a0->a1->a2->a3->a4->Prop):Prop
 |mk (x0:a0) (x1:a1) (x2:a2) (x3:a3) (x4:a4) (h0:p0 x0 x1 x2 x3 x4) (h1:p1 x0 x1 x2 x3 x4) (h2:p2 x0 x1 x2 x3 x4) (h3:p3 x0 x1 x2 x3 x4) (h4:p4 x0 x1 x2 x3 x4) (h5:p5 x0 x1 x2 x3 x4) (h6:p6 x0 x1 x2 x3 x4) (h7:p7 x0 x1 x2 x3 x4) (h8:p8 x0 x1 x2 x3 x4):vP p0 p1 p2 p3 p4 p5 p6 p7 p8
inductive vQ{a0 a1 a2 a3 a4 a5:Type}(p0 p1 p2:a0->a1->a2->a3->a4->a5->Prop):Prop
 |mk (x0:a0) (x1:a1) (x2:a2) (x3:a3) (x4:a4) (x5:a5) (h0:p0 x0 x1 x2 x3 x4 x5) (h1:p1 x0 x1 x2 x3 x4 x5) (h2:p2 x0 x1 x2 x3 x4 x5):vQ p0 p1 p2
inductive zn{a0 a1 a2 a3 a4 a5:Type}(p0 p1 p2 p3:a0->a1->a2->a3->a4->a5->Prop):Prop
 |mk (x0:a0) (x1:a1) (x2:a2) (x3:a3) (x4:a4) (x5:a5) (h0:p0 x0 x1 x2 x3 x4 x5) (h1:p1 x0 x1 x2 x3 x4 x5) (h2:p2 x0 x1 x2 x3 x4 x5) (h3:p3 x0 x1 x2 x3 x4 x5):zn p0 p1 p2 p3
inductive vR{a0 a1 a2 a3 a4 a5:Type}(p0 p1 p2 p3 p4:a0->a1->a2->a3->a4->a5->Prop):Prop
 |mk (x0:a0) (x1:a1) (x2:a2) (x3:a3) (x4:a4) (x5:a5) (h0:p0 x0 x1 x2 x3 x4 x5) (h1:p1 x0 x1 x2 x3 x4 x5) (h2:p2 x0 x1 x2 x3 x4 x5) (h3:p3 x0 x1 x2 x3 x4 x5) (h4:p4 x0 x1 x2 x3 x4 x5):vR p0 p1 p2 p3 p4
inductive zq{a0 a1 a2 a3 a4 a5:Type}(p0 p1 p2 p3 p4 p5:a0->a1->a2->a3->a4->a5->Prop):Prop
 |mk (x0:a0) (x1:a1) (x2:a2) (x3:a3) (x4:a4) (x5:a5) (h0:p0 x0 x1 x2 x3 x4 x5) (h1:p1 x0 x1 x2 x3 x4 x5) (h2:p2 x0 x1 x2 x3 x4 x5) (h3:p3 x0 x1 x2 x3 x4 x5) (h4:p4 x0 x1 x2 x3 x4 x5) (h5:p5 x0 x1 x2 x3 x4 x5):zq p0 p1 p2 p3 p4 p5
inductive xu{a0 a1 a2 a3 a4 a5:Type}(p0 p1 p2 p3 p4 p5 p6 p7 p8 p9 XQ:a0->a1->a2->a3->a4->a5->Prop):Prop
 |mk (x0:a0) (x1:a1) (x2:a2) (x3:a3) (x4:a4) (x5:a5) (h0:p0 x0 x1 x2 x3 x4 x5) (h1:p1 x0 x1 x2 x3 x4 x5) (h2:p2 x0 x1 x2 x3 x4 x5) (h3:p3 x0 x1 x2 x3 x4 x5) (h4:p4 x0 x1 x2 x3 x4 x5) (h5:p5 x0 x1 x2 x3 x4 x5) (h6:p6 x0 x1 x2 x3 x4 x5) (h7:p7 x0 x1 x2 x3 x4 x5) (h8:p8 x0 x1 x2 x3 x4 x5) (h9:p9 x0 x1 x2 x3 x4 x5) (h10:XQ x0 x1 x2 x3 x4 x5):xu p0 p1 p2 p3 p4 p5 p6 p7 p8 p9 XQ
inductive zr{a0 a1 a2 a3 a4 a5 a6:Type}(p0 p1 p2 p3 p4 p5 p6 p7 p8:a0->a1->a2->a3->a4->a5->a6->Prop):Prop
 |mk (x0:a0) (x1:a1) (x2:a2) (x3:a3) (x4:a4) (x5:a5) (x6:a6) (h0:p0 x0 x1 x2 x3 x4 x5 x6) (h1:p1 x0 x1 x2 x3 x4 x5 x6) (h2:p2 x0 x1 x2 x3 x4 x5 x6) (h3:p3 x0 x1 x2 x3 x4 x5 x6) (h4:p4 x0 x1 x2 x3 x4 x5 x6) (h5:p5 x0 x1 x2 x3 x4 x5 x6) (h6:p6 x0 x1 x2 x3 x4 x5 x6) (h7:p7 x0 x1 x2 x3 x4 x5 x6) (h8:p8 x0 x1 x2 x3 x4 x5 x6):zr p0 p1 p2 p3 p4 p5 p6 p7 p8
inductive zu{a0 a1 a2 a3 a4 a5 a6 a7:Type}(p0 p1 p2 p3:a0->a1->a2->a3->a4->a5->a6->a7->Prop):Prop
 |mk (x0:a0) (x1:a1) (x2:a2) (x3:a3) (x4:a4) (x5:a5) (x6:a6) (x7:a7) (h0:p0 x0 x1 x2 x3 x4 x5 x6 x7) (h1:p1 x0 x1 x2 x3 x4 x5 x6 x7) (h2:p2 x0 x1 x2 x3 x4 x5 x6 x7) (h3:p3 x0 x1 x2 x3 x4 x5 x6 x7):zu p0 p1 p2 p3
inductive xm{a0 a1 a2 a3 a4 a5 a6 a7 a8 a9:Type}(p0 p1:a0->a1->a2->a3->a4->a5->a6->a7->a8->a9->Prop):Prop
 |mk (x0:a0) (x1:a1) (x2:a2) (x3:a3) (x4:a4) (x5:a5) (x6:a6) (x7:a7) (x8:a8) (x9:a9) (h0:p0 x0 x1 x2 x3 x4 x5 x6 x7 x8 x9) (h1:p1 x0 x1 x2 x3 x4 x5 x6 x7 x8 x9):xm p0 p1
inductive xo{a0 a1 a2 a3 a4 a5 a6 a7 a8 a9 a10 a11 a12:Type}(p0 p1 p2 p3 p4 p5 p6 p7:a0->a1->a2->a3->a4->a5->a6->a7->a8->a9->a10->a11->a12->Prop):Prop
 |mk (x0:a0) (x1:a1) (x2:a2) (x3:a3) (x4:a4) (x5:a5) (x6:a6) (x7:a7) (x8:a8) (x9:a9) (SO:a10) (SP:a11) (SQ:a12) (h0:p0 x0 x1 x2 x3 x4 x5 x6 x7 x8 x9 SO SP SQ) (h1:p1 x0 x1 x2 x3 x4 x5 x6 x7 x8 x9 SO SP SQ) (h2:p2 x0 x1 x2 x3 x4 x5 x6 x7 x8 x9 SO SP SQ) (h3:p3 x0 x1 x2 x3 x4 x5 x6 x7 x8 x9 SO SP SQ) (h4:p4 x0 x1 x2 x3 x4 x5 x6 x7 x8 x9 SO SP SQ) (h5:p5 x0 x1 x2 x3 x4 x5 x6 x7 x8 x9 SO SP SQ) (h6:p6 x0 x1 x2 x3 x4 x5 x6 x7 x8 x9 SO SP SQ) (h7:p7 x0 x1 x2 x3 x4 x5 x6 x7 x8 x9 SO SP SQ):xo p0 p1 p2 p3 p4 p5 p6 p7
inductive xr{a0 a1 a2 a3 a4 a5 a6 a7 a8 a9 a10 a11 a12 a13:Type}(p0 p1 p2 p3:a0->a1->a2->a3->a4->a5->a6->a7->a8->a9->a10->a11->a12->a13->Prop):Prop
 |mk (x0:a0) (x1:a1) (x2:a2) (x3:a3) (x4:a4) (x5:a5) (x6:a6) (x7:a7) (x8:a8) (x9:a9) (SO:a10) (SP:a11) (SQ:a12) (x13:a13) (h0:p0 x0 x1 x2 x3 x4 x5 x6 x7 x8 x9 SO SP SQ x13) (h1:p1 x0 x1 x2 x3 x4 x5 x6 x7 x8 x9 SO SP SQ x13) (h2:p2 x0 x1 x2 x3 x4 x5 x6 x7 x8 x9 SO SP SQ x13) (h3:p3 x0 x1 x2 x3 x4 x5 x6 x7 x8 x9 SO SP SQ x13):xr p0 p1 p2 p3
abbrev lO(x:Yb)(k:Nat):Obj:=listOf x.toArray k
inductive eC{α β:Type}(R:α->β->Prop):List α->List β->Prop
 |nil:eC R [] []
 |cons {a:α} {b:β} {as:List α} {bs:List β}:R a b->eC R as bs->eC R (a::as) (b::bs)
section
variable{α β:Type}{R R':α->β->Prop}{as:List α}{bs:List β}{a:α}{b:β}{j:Nat}
theorem eC.mono(k:∀ a b,R a b->R' a b)(h:eC R as bs):eC R' as bs:=by
 induction h with
 |nil=>exact .nil
 |cons x _ ih=>exact .cons (k _ _ x) ih
theorem eC.snoc(x:R a b)(h:eC R as bs):eC R (as++[a]) (bs++[b]):=by
 induction h with
 |nil=>exact .cons x .nil
 |cons y _ ih=>exact .cons y ih
theorem eC.len(h:eC R as bs):as.length=bs.length:=by
 induction h with
 |nil=>rfl
 |cons _ _ ih=>exact congrArg Nat.succ ih
theorem eC.at(h:eC R as bs)(e:as[j]?=some a):aO (fun b=>bs[j]?=some b) (fun b=>R a b):=by
 induction h generalizing j with
 |nil=>cases e
 |cons x _ ih=>
  cases j with
  |zero=>cases e;exact⟨_,rfl,x⟩
  |succ j=>exact ih (j:=j) e
theorem eC.at'(h:eC R as bs)(e:j<bs.length):bW (fun a b=>as[j]?=some a) (fun _ b=>bs[j]?=some b) (fun a b=>R a b):=by
 obtain⟨b,hb,x⟩:=eC.at h (j:=j) (KL (h.len▸e));exact⟨_,b,KL _,hb,x⟩
theorem wS(h:as.Perm [x,y]):as=[x,y]∨as=[y,x]:=by
 cases as with
 |nil=>cases h.length_eq
 |cons a t=>
  rcases KI.mp (h.subset (.head _)) with e|q
  ·rw[e] at h⊢
   exact .inl (by exact aa (List.perm_singleton.mp ((List.perm_cons _).mp h)) rfl)
  ·rw[KF.mp q] at h⊢
   exact .inr (by exact aa (List.perm_singleton.mp ((List.perm_cons _).mp (h.trans (.swap ..)))) rfl)
theorem sL:∀ {l:List Nat},(∀ x∈l,x<=C)->l.sum<=l.length*C:=by
 intro l
 induction l with
 |nil=>exact fun _=>K6 _
 |cons x l ih=>
  intro h;have h1:=h x (.head _);have h2:=ih fun y hy=>h y (.tail _ hy);refine aa List.sum_cons (aa Le (aa (Nat.succ_mul _ _) ?_));exact L2 [_,_,_,_] (.a V0 V2) (.a V3 V1) 1 V0 V1 1 V2 V3 rfl h1 h2
theorem rj(L:Nat){l:List Nat}(h:l.Nodup):(l.map (L+·)).Nodup:=List.pairwise_map.mpr (h.imp fun h e=>h (Nat.add_left_cancel e))
theorem ri{L x:Nat}{l:List Nat}(h:∀ k∈l,0<k)(hx:x∈l.map (L+·)):L<x:=by
 obtain⟨k,hk,rfl⟩:=KK.mp hx;exact Nat.lt_add_of_pos_right (h k hk)
end
inductive PT where
 |v (i:Nat)
 |a (s t:PT)
def PT.den(e:Nat->List α)(s:PT):List α:=PT.rec (fun i=>e i) (fun _ _ x y=>x++y) s
def PT.lvs(s:PT):List Nat:=PT.rec (fun i=>[i]) (fun _ _ x y=>x++y) s
theorem PT.eq(e:Nat->List α)(s:PT):s.den e=s.lvs.flatMap e:=by
 induction s with
 |v i=>exact(List.flatMap_singleton e i).symm
 |a s t hs ht=>
  show s.den e++t.den e=(s.lvs++t.lvs).flatMap e;exact aa Oa (aa hs (aa ht rfl))
theorem lG(e:Nat->List α)(s t:PT)(h:s.lvs.isPerm t.lvs=true):(s.den e).Perm (t.den e):=aa (PT.eq e s) (aa (PT.eq e t) ((List.isPerm_iff.mp h).flatMap_right e))
abbrev gl(l:List Nat)(t:PT):PT:=l.foldr (fun i t=> .a (.v i) t) t
abbrev TT(Qv:ExcName->Option Value)(mg mb:X7)(h:Heap):Prop:=Top topProg (looseW cu loose++(recsOf cu).map (·.name)++(litsOf cu).map (·.1)++(clssOf cu (looseW cu loose)).map (·.name)) Qv mg mb h
def mi(news P4:X6)(h:Heap):Prop:=∀ p∈news,(∀ q∈P4,q.1≠p.1)->h.get? p.1=some p.2
section
variable{A₀ A:Around}{s:Shared}{base h₀:Heap}{outer:List Env}{L:Addr}{m:X7}{env:Env}{news P4:X6}{R:Result->Shared->Prop}{name qual:Str}{params:Arguments}{body:Yd}{scope:Scope}{cl:List (Str×Addr)}{dV kV doc pm PX ct:Value}{an:Option Addr}{fo:Obj}{f:Addr}{args:Args}{binds:List (Str×Value)}
theorem Ba(B:Below A₀ base outer h₀)(F:Fr h₀ L s.heap m)(N:News h₀ L s.heap news)(T0:h₀.NoLimit)(hA:A.frames=some (env::outer))(hf:env.frame=some L)(SG:env.scope.kind=.function)
  (ST:∀ p∈P4,p∈news)
  (ho:s.heap.get? f=some fo) (hd:fo.data=.func (fnX name qual params body scope cl dV kV doc pm an PX ct)) (Q1:s.heap.CodeRec PX qual) (Qc:A.depth<recursionLimit)
  (Qx:BindsTo s (fnX name qual params body scope cl dV kV doc pm an PX ct) args binds) (RB:∀ y∈binds,scope.names.lookup y.1=some .local)
  (h:∀ g L' h₁,Fr h₀ L g m->Fr g L' h₁ (fun y=>binds.reverse.lookup y)->News g L' h₁ P4->Below A base (env::outer) g->h₀.StaysIn g->(∀ p∈news,p.1<L')->(∀ p∈news,(∀ q∈P4,q.1≠p.1)->g.get? p.1=some p.2)->
   wpAny MP (A.deeper (envX qual scope L' f PX cl)) (execs body (envX qual scope L' f PX cl))
    (fun fl s'=>LeaveK h₀ L m g (fun r s'=>mi news P4 s'.heap->R r s') (match fl with| .ret v=>v|_=> .none) s')
    (fun e s'=>wpAny MP (A.deeper (envX qual scope L' f PX cl)) (leaving (envX qual scope L' f PX cl) e) (fun _ Qj=>R (.error e) Qj) (fun e' Qj=>R (.error e') Qj) s')
    {s with heap:=h₁,toks:=s.toks+binds.length})
  (P8:∀ x∈scope.names,x.2≠ .cell) (Q2:scope.isCoroutine=false:=by rfl) (QX:scope.isGenerator=false:=by rfl) (hk:scope.kind=.function:=by rfl):codeAny MP A (.call (.ref f) args) R s:=by
 have N':News h₀ L s.heap P4:=fun p hp=>N p (ST p hp);obtain⟨FG,BG,st,lv⟩:=groundX (R:=R) B F N' hA hf SG;have hg:∀ p∈news,(∀ q∈P4,q.1≠p.1)->(hideAll s.heap (P4.map (·.1))).get? p.1=some p.2:=fun p hp hq=>hideAll_get _ (N p hp).1 fun hm=>by
  obtain⟨q,h1,h2⟩:=KK.mp hm;exact hq q h1 h2
 refine codeAny_call_def (fd:=fnX name qual params body scope cl dV kV doc pm an PX ct) (body:=body) (binds:=binds) Qc ho hd (T0.keeps F.keep) Q1 rfl Qx P8 RB (fun h₁ UY R1=>?_) Q2 QX hk;refine K9 (h _ s.heap.objs.size h₁ FG ⟨UY,fun b o e=>R1 b o (of_hideAll _ e),Mf (hideAll_size _ _)⟩
  (fun p hp=>⟨R1 _ _ (N' p hp).1,K8 (KQ (N' p hp).1),hideAll_none _ (KW hp)⟩) BG st (fun p hp=>KQ (N p hp).1) hg) (fun fl s' hl=>lv _ _ ?_) fun _ _ y=>y
 obtain⟨L',m',PZ,F',Vk,k⟩:=hl;exact⟨L',m',PZ,F',Vk,fun a b=>k a b fun p hp hq=>F'.keep _ _ (hg p hp hq)⟩
variable{C:Addr}{mg mb:X7}{Qv:ExcName->Option Value}
theorem iC{K:Frag}{env:Env}{outer:List Env}{R:Result->Shared->Prop}{name qual:Str}{params:Arguments}{body:Yd}{scope:Scope}{dV kV doc pm PX ct oc:Value}{an od:Option Addr}{RN:Array (Option Value)}{f:Addr}{args:Args}{binds:List (Str×Value)}
  (B:Below A₀ base outer h₀) (F:Fr h₀ L s.heap m) (VY:K.In h₀) (N:News h₀ L s.heap news) (T:TT Qv mg mb h₀) (hA:A.frames=some (env::outer)) (hf:env.frame=some L) (SG:env.scope.kind=.function)
  (ST:∀ p∈P4,p∈news)
  (ho:K.lookup f=some ⟨oc,od, .func (fnOf name qual params body scope dV kV doc pm an PX ct),RN⟩) (Q1:codeIn K PX qual=true) (Qc:A.depth<recursionLimit)
  (Qx:BindsTo s (fnOf name qual params body scope dV kV doc pm an PX ct) args binds) (RB:∀ y∈binds,scope.names.lookup y.1=some .local)
  (h:∀ g L' h₁,Fr h₀ L g m->Fr g L' h₁ (fun y=>binds.reverse.lookup y)->News g L' h₁ P4->Below A base (env::outer) g->K.In g->TT Qv mg mb g->(∀ p∈news,p.1<L')->(∀ p∈news,(∀ q∈P4,q.1≠p.1)->g.get? p.1=some p.2)->
   wpAny MP (A.deeper (envOf qual scope L' f PX)) (execs body (envOf qual scope L' f PX))
    (fun fl s'=>LeaveK h₀ L m g (fun r s'=>mi news P4 s'.heap->R r s') (match fl with| .ret v=>v|_=> .none) s')
    (fun e s'=>wpAny MP (A.deeper (envOf qual scope L' f PX)) (leaving (envOf qual scope L' f PX) e) (fun _ Qj=>R (.error e) Qj) (fun e' Qj=>R (.error e') Qj) s')
    {s with heap:=h₁,toks:=s.toks+binds.length})
  (Q2:scope.isCoroutine=false) (QX:scope.isGenerator=false) (hk:scope.kind=.function)
  (P8:∀ x∈scope.names,x.2≠ .cell):codeAny MP A (.call (.ref f) args) R s:=
 Ba (cl:=[]) B F N T.nolimit hA hf SG ST ((VY.keeps F.keep) _ _ ho) rfl (codeRec_of (VY.keeps F.keep) Q1) Qc Qx RB (fun g L' h₁ FG F' N' B' st hl hg=>h g L' h₁ FG F' N' B' (VY.keeps st) (T.keeps st) hl hg) P8 Q2 QX hk
def rE(i:Int)(v:Value):Prop:=∃ t,v=.int i t
def fc(x:Str)(v:Value):Prop:=∃ t,v=.str x t
theorem fc.of(h:x=y):fc y (.str x t):=⟨t,by exact aa h rfl⟩
variable{h h' g:Heap}{new:X6}
theorem Cg:PySem.Challenge.rw_pk0128_01=PySem.Challenge.rw_pk0128_01/\ao=ao:=by k_fill;exact⟨rfl,rfl⟩
noncomputable def eY(part:Int):Int:=
 (if 15<part.fmod 24 then[4,4,4,6,2,10,1,12].getD (part.fmod 24-16).toNat 0 else part.fmod 24)*4096+
  (if 1<(part.fdiv 98304).fmod 4 then Builtin.bitOr ((part.fdiv 24).fmod 4096) 438 else(part.fdiv 24).fmod 4096)
def aw(x:Str):Str:=Ye "k1_"++Txt.slice x none (some 1)++Ye ":"++Txt.slice x (some 1) none
structure aF where
 W:Nat
 D:Nat
 data:Nat
 decl:Nat
 ns:Nat
 YD:Nat
 Yp:Nat
 Yj:Nat
 Yv:Nat
 Yw:Nat
theorem ja:Nonempty aF:=⟨⟨0,0,0,0,0,0,0,0,0,0⟩⟩
def aE(a:aF)(t:Nat->Tok)(Yi:Value)(seen done:Bool):List DictEntry:=[
 ⟨PyData.keyHash w.params (Ye "_write"), .str (Ye "_write") (t 0), .ref a.Yv⟩,
 ⟨PyData.keyHash w.params (Ye "_data"), .str (Ye "_data") (t 1), .ref a.data⟩,
 ⟨PyData.keyHash w.params (Ye "_with_comments"), .str (Ye "_with_comments") (t 2), .bool false⟩,
 ⟨PyData.keyHash w.params (Ye "_strip_text"), .str (Ye "_strip_text") (t 3), .bool false⟩,
 ⟨PyData.keyHash w.params (Ye "_exclude_attrs"), .str (Ye "_exclude_attrs") (t 4), .none⟩,
 ⟨PyData.keyHash w.params (Ye "_exclude_tags"), .str (Ye "_exclude_tags") (t 5), .none⟩,
 ⟨PyData.keyHash w.params (Ye "_rewrite_prefixes"), .str (Ye "_rewrite_prefixes") (t 6), .bool true⟩,
 ⟨PyData.keyHash w.params (Ye "_qname_aware_tags"), .str (Ye "_qname_aware_tags") (t 7), .ref a.Yw⟩,
 ⟨PyData.keyHash w.params (Ye "_find_qname_aware_attrs"), .str (Ye "_find_qname_aware_attrs") (t 8), .none⟩,
 ⟨PyData.keyHash w.params (Ye "_declared_ns_stack"), .str (Ye "_declared_ns_stack") (t 9), .ref a.decl⟩,
 ⟨PyData.keyHash w.params (Ye "_ns_stack"), .str (Ye "_ns_stack") (t 10), .ref a.ns⟩,
 ⟨PyData.keyHash w.params (Ye "_prefix_map"), .str (Ye "_prefix_map") (t 11), .ref a.YD⟩,
 ⟨PyData.keyHash w.params (Ye "_preserve_space"), .str (Ye "_preserve_space") (t 12), .ref a.Yp⟩,
 ⟨PyData.keyHash w.params (Ye "_pending_start"), .str (Ye "_pending_start") (t 13),Yi⟩,
 ⟨PyData.keyHash w.params (Ye "_root_seen"), .str (Ye "_root_seen") (t 14), .bool seen⟩,
 ⟨PyData.keyHash w.params (Ye "_root_done"), .str (Ye "_root_done") (t 15), .bool done⟩,
 ⟨PyData.keyHash w.params (Ye "_ignored_depth"), .str (Ye "_ignored_depth") (t 16), .int 0 (t 17)⟩]
theorem yz{α:Type}{x:α}{P:Prop}(e:(none:Option α)=some x):P:=nomatch e
def ie{α:Type}(env:Addr->Option Obj)(S:Setting)(t:Sem α):Option (List Addr×α):=
 Sem.rec (motive:=fun _=>Option (List Addr×α)) (fun a=>some ([],a)) (fun _=>none) (fun _=>none) (fun _=>none) (fun _ _ ih=>ih ()) (fun _ _ _=>none) (fun a _ _ ih=>(env a).elim none fun o=>(ih o).map fun x=>(a::x.1,x.2)) (fun _ _ _ _ _=>none) (fun _ _ _=>none) (fun _ _ _=>none) (fun _ _ ih=>ih ()) (fun _ _ _=>none) (fun _ _=>none) (fun _ ih=>ih S)
  (fun _ _ _ _=>none) (fun _ _ _ _=>none) (fun _ _ _ _ _ _=>none) (fun _ _ _=>none) (fun _ _ _=>none) (fun _ _ _=>none) (fun _ _ _ _ _=>none) (fun _ _ _ _ _=>none) (fun _ _=>none) (fun _ _ _=>none) (fun _ _=>none) (fun _ _ _ _ _ _=>none) t
theorem lW{α:Type}{env:Addr->Option Obj}{M:Model}{A:Around}{Q:α->Shared->Prop}{E:X8}{s:Shared}{r:α}(q:Q r s):
  ∀ {t:Sem α} {as:List Addr},ie env ⟨M.prog,M.w.params⟩ t=some (as,r)->(∀ a∈as,∀ o,env a=some o->s.heap.get? a=some o)->wpAny M A t Q E s:=by
 intro t
 induction t with
 |pure b=>intro as e _ _ _ _;cases (e:some ([],b)=some (as,r));exact q
 |rule _ k ih=>exact fun e h=>ih () e h
 |point _ k ih=>exact fun e h=>ih () e h
 |ask k ih=>exact fun e h=>ih _ e h
 |load a _ k ih=>
  intro as e h Γ p hΓ;have e1:(env a).elim none (fun o=>(ie env ⟨M.prog,M.w.params⟩ (k o)).map fun x=>(a::x.1,x.2))=some (as,r):=e
  cases ho:env a with
  |none=>rw[ho] at e1;cases e1
  |some o=>
   rw[ho] at e1;obtain⟨⟨as',r'⟩,e2,e3⟩:=Lv.mp e1
   cases e3;exact⟨o,h a (.head _) o ho,ih o e2 (fun b hb=>h b (.tail _ hb)) Γ p hΓ⟩
 |_=>exact fun e=>yz e
theorem gE{α:Type}{o:Obj}{M:Model}{A:Around}{Q:α->Shared->Prop}{E:X8}{s:Shared}{t:Sem α}{r:α}{as:List Addr}
  (e:ie (fun _=>some o) ⟨M.prog,M.w.params⟩ t=some (as,r)) (h:∀ a∈as,s.heap.get? a=some o) (q:Q r s):wpAny M A t Q E s:=lW q e fun a ha o' h'=>by cases h';exact h a ha
noncomputable abbrev bf(id:String)(self:Value):Obj:={cls:= .type "builtin_function_or_method",data:= .fields #[.builtin id,self]}
end
section
variable{A:Around}{E:X8}{s:Shared}{h₀:Heap}{L:Addr}{m:X7}{news PZ:X6}
theorem uw(N:News h₀ L s.heap news)(hm:(l,lO (xs++[v]) c)∈news)(h:Q v s)
  (hs:subscripted slice false (.ref l) (.int (-1) u)=operate [.ref l, .int (-1) u] (getItem (.ref l) (.int (-1) u)):=by with_unfolding_all rfl):
  wpAny MP A (subscriptTail value slice (.ref l) (.int (-1) u)) Q E s:=by
 have hl:s.heap.IsList l (xs++[v]).toArray:=⟨_,(N _ hm).1,rfl,c,rfl⟩;refine tail_any hl.typeIs slot_list_getitem.lookup (wpAny_getItem_list_neg hl (by decide) (by simp;exact u1) (by decide) ?_ h) hs;have e:((-1:Int)+((xs++[v]).toArray.size:Int)).toNat=xs.length:=by simp;exact u2
 refine aa e ?_;simp
theorem qN{id:String}{b:Builtin}{q:Addr}{self:Value}{args:Yb}{Q:X8}(hq:s.heap.get? q=some (bf id self))(hp:plainId id=true)(hb:entryFor table id=some b)
  (hc:∀ (Q':Unit->Shared->Prop) (E':X8),Q' () s->wpAny MP A.in1 (checkBoundCall id ⟨self::args,[]⟩) Q' E' s)
  (h:wpAny MP A.in1 (b ⟨self::args,[]⟩) (fun fin s'=>∃ v,fin=.done (.ret v)/\Q v s') E s):wpAny MP A (call (.ref q) args) Q E s:=by
 refine OK (NQ ?_);show wpAny _ _ (callAny (.ref q) _) _ _ _;refine Kz (wpAny_load hq ?_);show wpAny _ A.in1 (checkBoundCall id ⟨self::args,[]⟩>>=fun _=>again (.builtin id ⟨self::args,[]⟩)>>=fun x=>pure x) _ _ _;refine Kz (hc _ _ (Kz (KE (KE ⟨M7 hp _,NQ ?_⟩))));show wpAny _ _ (match entryFor table id with|some b=>b ⟨self::args,[]⟩|none=>unsupported ((withoutEnding? id "#data").getD id)) _ _ s;refine aa hb (aa (LO hp _) ?_);refine K9 h (fun fin s' h'=>?_) fun _ _ h'=>h';obtain⟨v,rfl,hv⟩:=h';exact hv
theorem jj{id:String}{q:Addr}{self:Value}{pos:Pos}{env:Env}{e:X9}{Q:X8}(_N:News h₀ L s.heap news)(_hm:(q,bf id self)∈news)
  (h:wpAny MP A (spliced (backTo pos (starEach [e] env))) (fun vs P1=>P1.heap.get? q=some (bf id self)/\wpAny MP A (call (.ref q) vs) Q E P1) E s)
  (he:starEach [e] env=[(false,eval e env)]:=by rfl):
  wpAny MP A (callWith pos (.ref q) [] (backTo pos (starEach [e] env)) []) Q E s:=by
 rw[he] at h⊢;exact callWith_of (P:=fun h=>h.get? q=some (bf id self)) rfl (fun h hq=>⟨.machine, .inr (.inl rfl),(Looks.ld (part:=none) hq).andThen .now⟩) (evalArgs_plain h)
theorem oE(D:Addr)(its:Array Value)(n:Nat)(x:Value)(S:Setting):∃ k,ie (fun _=>some (listOf its n)) S (checkBoundCall "list.append" ⟨[.ref D,x],[]⟩)=some (List.replicate k D,()):=by
 first
 |exact⟨1,by kernel_rfl!⟩
 |exact⟨2,by kernel_rfl!⟩
 |exact⟨3,by kernel_rfl!⟩
 |exact⟨4,by kernel_rfl!⟩
 |exact⟨5,by kernel_rfl!⟩
 |exact⟨6,by kernel_rfl!⟩
theorem yR{q D:Addr}{its:Array Value}{n:Nat}{x:Value}{Q:X8}(F:Fr h₀ L s.heap m)(N:News h₀ L s.heap news)(hq:(q,bf "list.append" (.ref D))∈news)(U:Upd D (listOf its n) (listOf (its.push x) (n+1)) news PZ)
  (h:∀ h',Fr h₀ L h' m->News h₀ L h' PZ->Q .none {s with heap:=h'}) (Qh:its.size<=sizeLine:=by size_fits):wpAny MP A (call (.ref q) [x]) Q E s:=by
 obtain⟨pre,post,rfl,rfl,a,b⟩:=U.split;have z:=N (D,listOf its n) (KM.mpr (.inr (.head _)));refine qN (N _ hq).1 (by decide+kernel) entry_list_append (fun Q' E' hQ=>?_) ?_
 ·obtain⟨k,e⟩:=oE D its n x ⟨PR,w.params⟩
  exact gE e (fun a ha=>by refine aa (OU ha) ?_;exact z.1) hQ
 ·show wpAny _ _ (updateSeq D (·.push x)>>=fun _=>ret .none) _ _ s
  refine Kz (wpAny_updateSeq z.1 rfl (KE ⟨.none,rfl,?_⟩));have hs:=Lp s.heap D (Obj.mapSeq (·.push x));refine h _ (F.change hs z.2.1 z.2.2) (news_set N a b hs ?_);exact aa (MO _ z.1 (by rw[mapSeq_push];rfl)) (aa (mapSeq_push _ _ _ _ _) rfl)
noncomputable abbrev AX(h:Heap):Heap:=h.push {cls:= .type "tuple",data:= .seq #[]}
noncomputable abbrev BK(h:Heap):Heap:=(AX h).push {cls:= .type "StopIteration",data:= .fields (#[.ref h.objs.size, .none, .none, .none, .bool false, .none]++ownMembersOf (.type "StopIteration") [])}
theorem ft{α:Type}{A:Around}{E:X8}{s:Shared}{Q:α->Shared->Prop}(hh:A.handled=none)(h:E (.ref (AX s.heap).objs.size) {s with heap:=BK s.heap}):wpAny MP A (newExc (.type "StopIteration") []>>=fun e=>raiseNew e) Q E s:=by
 refine Kz ?_;unfold newExc newTuple;refine Kz (LY ?_ (by size_fits));refine Kz (m:=firstArgMember _ _) (Ni (a:=Value.none) (by first|rfl|(simp only[firstArgMember];rfl)) ?_);refine LY ?_ (by size_fits);unfold raiseNew;refine Kz (wpAny_handled ?_);refine aa hh ?_;refine Kz (KE (wpAny_throw ?_));exact h
end
section
variable{A:Around}
def dh(nb C:Nat)(Qs s:Shared):Prop:=bE (fun h' tk=>s={Qs with heap:=h',toks:=tk}) (fun h' _=>∀ b o,b<nb->b≠C->Qs.heap.get? b=some o->h'.get? b=some o)
theorem dh.refl(nb C:Nat)(s:Shared):dh nb C s s:=⟨s.heap,s.toks,rfl,fun _ _ _ _ e=>e⟩
theorem dh.step(x:dh nb C Qs s)(hk:∀ b o,b<nb->b≠C->s.heap.get? b=some o->h'.get? b=some o):dh nb C Qs {s with heap:=h',toks:=tk}:=by
 obtain⟨h₁,Tx,rfl,R1⟩:=x;exact⟨h',tk,rfl,fun b o hb hc e=>hk b o hb hc (R1 b o hb hc e)⟩
def mu(nb C:Nat):GenEnd:=fun n Qs r P1=>r=.ok (.ret .none)/\(n=0/\dh nb C Qs P1)
def bH(h:Heap)(l:X6):Prop:=∀ p∈l,h.get? p.1=some p.2
def gN(nb C:Nat)(sh:X6)(all:Yb):Protocol:=fun m Qs v s kap=>all[all.length-1-m]?=some v/\dh nb C Qs s/\
 zj (fun(oC:Obj) (I J:Nat) (oI oJ:Obj)=>nb<=I) (fun _ _ J _ _=>nb<=J) (fun oC I J oI oJ=>bH s.heap [(C,oC),(I,oI),(J,oJ)]) (fun oC I J oI oJ=>∀ Qj:Shared,bH Qj.heap [(C,oC),(I,oI),(J,oJ)]->bH Qj.heap sh->kap (.send .none) Qj)
theorem oR:entryFor table "proto.yield_from"=some Builtin.«proto.yield_from»:=OJ (by kernel_rfl)
theorem xH{id:String}{args:Args}{b:Builtin}(hb:entryFor table id=some b):MP.den (.builtin id args)=b args:=by
 show (match entryFor table id with|some b=>b args|none=>unsupported ((withoutEnding? id "#data").getD id))=_;exact aa hb rfl
theorem wc:typeLookup (.type "list_iterator") "close"=pure none:=by refine aa (Ok _ _) (aa Ng ?_);kernel_rfl
theorem jD{M:Model}{E:X8}{s:Shared}{it:Addr}{b:Bool}{T:String}{Q:Unit->Shared->Prop}(hT:s.TypeIs (.ref it) T)(P5:T≠"generator")(h:Q () s):wpAny M A (Builtin.Generator.sleptOver (.ref it) b) Q E s:=by
 obtain⟨o,ho,hc⟩:=hT;unfold Builtin.Generator.sleptOver;dsimp only;refine Kz (wpAny_load ho ?_);refine aa (KZ (by rw[hc];simpa using P5)) ?_;exact KE h
theorem AR{nb C I:Nat}{sh:X6}{all items rest:Yb}{J l:Nat}{cl:Nat}{kf:Result->Sem Fin}{gf:Bool}{lf:Yb}{WE:Code}{XJ:Pos}{kp:Yb}{fs:List Frame}
  (hh:(marksOver (.ret kf none gf lf WE XJ kp::fs) (A.handled,A.handled)).1=none) (hJ:nb<=J) (hI:nb<=I) (hls:(l,lO items cl)∈sh) (hlJ:l≠J)
  (R0:splitAtGen (.ret kf none gf lf WE XJ kp::fs)=none) (hfg:(Frame.ret kf none gf lf WE XJ kp::fs).any Frame.guarded=false)
  (G:Heap->Prop) (hG1:∀ h,G h->bW (fun oC oI=>h.get? C=some oC) (fun _ oI=>h.get? I=some oI) (fun oC oI=>∀ h',h'.get? C=some oC->h'.get? I=some oI->bH h' sh->G h')) (hG2:∀ h h',G h->Heap.ExtBut J h h'->G h')
  (Rc:∀ Qs s,G s.heap->dh nb C Qs s->Seg MP A (mu nb C) (gN nb C sh all) rest.length Qs WE (kf (.ok (.ret .none))) fs s):
  ∀ (k j:Nat) (Qs s:Shared),items.length-j=k->j<=items.length->(∃ pre,all=pre++(items.drop j++rest))->s.heap.IsListIter J l j->s.heap.IsList l items.toArray->G s.heap->dh nb C Qs s->
   Seg MP A (mu nb C) (gN nb C sh all) (k+rest.length) Qs (.builtin "proto.yield_from" ⟨[.ref J, .bool false, .none],[]⟩) (MP.den (.builtin "proto.yield_from" ⟨[.ref J, .bool false, .none],[]⟩))
    (.ret kf none gf lf WE XJ kp::fs) s:=by
 intro k
 induction k with
 |zero=>
  intro j Qs s hk hj hall QG hl hg Sm;have S4:j=items.length:=sZ hk hj;subst S4;refine aa (xH oR) ?_;unfold Builtin.«proto.yield_from»;dsimp only;refine NS (Ni (a:=Value.none) rfl ?_);refine NS (Nw (Lk ?_));refine aa (KO KR) (aa (KZ (show ((Value.none==Value.none)=true) from rfl)) ?_);obtain⟨o,ho,hc,hd⟩:=id QG;obtain⟨ol,R4,_,nl,QA⟩:=id hl;refine Kz (MC ?_);refine Kz (Mo (name:=Ye "__next__") QG.typeIs O2 (LS O2 QG.typeIs entry_listiter_next ?_ (args_listiter_next _)));show wpAny _ _ (field (.ref J) 0>>=_) _ _ s;refine Kz (Mg ho hd (x:= .ref l) rfl ?_);show wpAny _ _ (if (Value.ref l==Value.none)=true then _ else _) _ _ s;refine aa (KO (show¬((Value.ref l==Value.none)=true) from KR)) ?_;show wpAny _ _ (field (.ref J) 1>>=_) _ _ s;refine Kz (Mg ho hd (x:= .int (items.length:Nat) 0) rfl ?_);show wpAny _ _ (seqItems? (.ref l)>>=_) _ _ s;refine Kz (NZ R4 QA ?_);dsimp only;refine aa (La _) (aa (show (items.toArray)[items.length]?=none from by simp) ?_);refine Kz (MC (Kz (O5 ho hd (by simp) ?_)));refine ft hh ?_;refine NS ?_;unfold Builtin.Generator.endsTheTurnAsAValue Builtin.Generator.isStopAndMetaclass;refine Kz (Kz (OA (T:="StopIteration") ⟨_,Lc _ rfl,rfl⟩ ?_));dsimp only;refine Kz (Ni isSubtype_stop ?_);refine Kz (Ni (a:=Value.type "type") (by kernel_rfl) (KE ?_));dsimp only;refine aa (KO KR) ?_;refine KE ?_;refine aa (KZ rfl) (aa (KO KR) ?_);refine NS (MC ?_);refine NS (Mg (Lc _ rfl) rfl (x:= .none) rfl ?_);refine seg_leaf (.ok (.ret .none)) ?_;have UE:Heap.ExtBut J s.heap (((s.heap.update J (Obj.mapFields fun x=>x.setIfInBounds 0 Value.none)).push {cls:=Value.type "tuple",data:=Data.seq #[]}).push {cls:=Value.type "StopIteration",data:=Data.fields (#[Value.ref (s.heap.update J (Obj.mapFields fun x=>x.setIfInBounds 0 Value.none)).objs.size,Value.none,Value.none,Value.none,Value.bool false,Value.none]++ownMembersOf (Value.type "StopIteration") [])}):=(((Lp ..).extBut.push _).push _);refine aa (Nn _) ?_;exact Rc Qs _ (hG2 _ _ hg UE) (Sm.step (tk:=s.toks) fun b o hb _ e=>UE b o (by intro h;subst h;exact absurd hb (MZ.mpr hJ)) e)
 |succ k ih=>
  intro j Qs s hk hj hall QG hl hg Sm;have PW:j<items.length:=sJ hk;refine aa (xH oR) ?_;unfold Builtin.«proto.yield_from»;dsimp only;refine NS (Ni (a:=Value.none) rfl ?_);refine NS (Nw (Lk ?_));refine aa (KO KR) (aa (KZ (show ((Value.none==Value.none)=true) from rfl)) ?_);obtain⟨o,ho,hc,hd⟩:=id QG;obtain⟨ol,R4,_,nl,QA⟩:=id hl;refine Kz (MC ?_);refine Kz (Mo (name:=Ye "__next__") QG.typeIs O2 (LS O2 QG.typeIs entry_listiter_next ?_ (args_listiter_next _)));show wpAny _ _ (field (.ref J) 0>>=_) _ _ s;refine Kz (Mg ho hd (x:= .ref l) rfl ?_);show wpAny _ _ (if (Value.ref l==Value.none)=true then _ else _) _ _ s;refine aa (KO (show¬((Value.ref l==Value.none)=true) from KR)) ?_;show wpAny _ _ (field (.ref J) 1>>=_) _ _ s;refine Kz (Mg ho hd (x:= .int (j:Nat) 0) rfl ?_);show wpAny _ _ (seqItems? (.ref l)>>=_) _ _ s;refine Kz (NZ R4 QA ?_);dsimp only;refine aa (La _) (aa (show (items.toArray)[j]?=some items[j] from by simp[PW]) ?_);refine Kz (O5 ho hd (by simp) (KE ⟨_,rfl,KE ?_⟩));refine NS (OA (T:="list_iterator") ⟨_,MO _ ho (Ow (NN hd _)),(Obj.cls_mapFields ..).trans hc⟩ ?_);dsimp only;refine NS (Ni wc ?_);refine NS (KE ?_);have hty:∀ h':Heap,h'.IsListIter J l (j+1)->({s with heap:=h'}:Shared).TypeIs (.ref J) "list_iterator":=fun h' x=>let ⟨o,ho,hc,_⟩:=x;⟨o,ho,hc⟩;have Tj:(s.heap.update J (Obj.mapFields fun x=>x.setIfInBounds 1 (rawInt (j+1)))).IsListIter J l (j+1):=
   ⟨_,MO _ ho (Ow (NN hd _)),(Obj.cls_mapFields ..).trans hc,by refine aa (NN hd _) ?_;simp[rawInt]⟩
  refine NS (jD (hty _ Tj) (by decide) ?_);have UE:Heap.ExtBut J s.heap (s.heap.update J (Obj.mapFields fun x=>x.setIfInBounds 1 (rawInt (j+1)))):=(Lp ..).extBut;have hg':=hG2 _ _ hg UE;generalize s.heap.update J (Obj.mapFields fun x=>x.setIfInBounds 1 (rawInt (j+1)))=h₁ at Tj UE hg'⊢;refine aa (show k+1+rest.length=(k+rest.length)+1 from LE [_,_] (.a (.a V0 W1) V1) (.a (.a V0 V1) W1) rfl) ?_;obtain⟨pre,QY⟩:=hall;have W5:items.drop j=items[j]::items.drop (j+1):=(List.getElem_cons_drop PW).symm;show Seg _ _ _ _ _ _ _ (Sem.yield _ _ _ _) _ _;obtain⟨oC,oI,hoC,hoI,hback⟩:=hG1 _ hg';obtain⟨oJ,hoJ,hcJ,hdJ⟩:=id Tj;refine seg_yield R0 rfl hfg ⟨?_,Sm.step (tk:=s.toks) fun b o hb _ e=>UE b o (by intro h;subst h;exact absurd hb (MZ.mpr hJ)) e,oC,I,J,oI,oJ,hI,hJ,?_,fun Qj QE Sl=>?_⟩
  ·refine aa QY (aa W5 (aa (LU (by simp;exact s6 hk)) ?_))
   simp only[KJ,Le,NA];exact aa (show pre.length+(items.length-(j+1)+1+rest.length)-1-(k+rest.length)-pre.length=0 from s7 hk) rfl
  ·intro p hp
   simp only[KI,LH,O1] at hp;rcases hp with rfl|rfl|rfl
   ·exact hoC
   ·exact hoI
   ·exact hoJ
  ·have hit2:Qj.heap.IsListIter J l (j+1):=⟨oJ,QE (J,oJ) (by simp),hcJ,hdJ⟩
   have Uq:Qj.heap.IsList l items.toArray:=⟨_,Sl _ hls,rfl,cl,rfl⟩;show Seg _ _ _ _ _ _ _ (Builtin.Generator.sleptOver (.ref J) false>>=_) _ _;refine NS (jD (T:="list_iterator") (let ⟨o,ho,hc,_⟩:=hit2;⟨o,ho,hc⟩) (by decide) ?_);refine NS (Ni (a:=Value.none) rfl ?_);exact seg_again (Code.quiet_builtin _ (by decide+kernel)) (ih (j+1) Qj Qj (sP hk) PW ⟨pre++[items[j]],by refine aa QY (aa W5 (aa (KS _ _ _) ?_));rfl⟩ hit2 Uq (hback _ (QE (C,oC) (by simp)) (QE (I,oI) (by simp)) Sl) (dh.refl _ _ _))
noncomputable abbrev iN(p1 p2 p3 p4:Pos):Yd:=[.If (.Name "namespaces" p1) [.Expr (.YieldFrom (.Name "namespaces" p2) p3) p3] [] p4]
abbrev jh:=List (Nat×Yb×Nat)
noncomputable def aJ (xs:jh):Yb:=xs.reverse.flatMap (·.2.1)
noncomputable def bI (L cL:Nat) (xs:jh):X6:=(L,lO (xs.map fun x=>Value.ref x.1) cL)::xs.map fun x=>(x.1,lO x.2.1 x.2.2)
structure dU(env:Env)(I L cL:Nat)(xs:jh)(i:Int)(h:Heap):Prop where
 it:h.IsRevIter I L i
 sh:bH h (bI L cL xs)
 loc:∃ m,h.Ns env.locals m
theorem dU.stk(x:dU env I L cL xs i h):h.IsList L (xs.map fun x=>Value.ref x.1).toArray:=⟨_,x.sh (L,_) (Nc ..),rfl,cL,rfl⟩
theorem dU.each(x:dU env I L cL xs i h)(y:Nat×Yb×Nat)(hy:y∈xs):h.IsList y.1 y.2.1.toArray:=
 ⟨_,x.sh (y.1,lO y.2.1 y.2.2) (List.mem_cons_of_mem _ (KK.mpr ⟨y,hy,rfl⟩)),rfl,_,rfl⟩
theorem bH.keeps(x:bH h l)(P:Addr->Prop)(hp:∀ p∈l,P p.1)(hk:∀ b o,P b->h.get? b=some o->h'.get? b=some o):bH h' l:=fun p hm=>hk _ _ (hp p hm) (x p hm)
theorem dU.keeps(x:dU env I L cL xs i h)(P:Addr->Prop)(hI:P I)(hs:∀ p∈bI L cL xs,P p.1)(hc:P env.locals)
  (hk:∀ b o,P b->h.get? b=some o->h'.get? b=some o):dU env I L cL xs i h' where
 it:=x.it.at fun o e=>hk _ o hI e
 sh:=x.sh.keeps P hs hk
 loc:=let ⟨m,hm⟩:=x.loc;⟨m,hm.at' fun o e=>hk _ o hc e⟩
theorem dU.again(x:dU env I L cL xs i h):bW (fun oC oI=>h.get? env.locals=some oC) (fun _ oI=>h.get? I=some oI) (fun oC oI=>∀ h':Heap,h'.get? env.locals=some oC->h'.get? I=some oI->bH h' (bI L cL xs)->dU env I L cL xs i h'):=by
 obtain⟨m,oC,es,ep,h1,h2⟩:=x.loc;obtain⟨oI,h3,h4⟩:=x.it;exact⟨oC,oI,h1,h3,fun h' e1 e2 e3=>⟨⟨oI,e2,h4⟩,e3,⟨m,oC,es,ep,e1,h2⟩⟩⟩
theorem AQ{M:Model}{R:GenEnd}{Y:Protocol}{n:Nat}{Qs:Shared}{c:Code}{fs:List Frame}{s:Shared}{env:Env}{K:Flow->Sem PySem.Fin}{H:Value->Sem PySem.Fin}{gd lv}{test:X9}{body orelse:Yd}{pos:Pos}
  (h:wpAny M (A.over c fs) (isTrue test env (eval test env)) (fun b s'=>if b=true then Seg M A R Y n Qs c ((execs body env).wrap K H gd lv) fs s' else Seg M A R Y n Qs c ((execs orelse env).wrap K H gd lv) fs s')
   (fun x s'=>Seg M A R Y n Qs c (H x) fs s') s):Seg M A R Y n Qs c ((exec (.If test body orelse pos) env).wrap K H gd lv) fs s:=by
 refine aa (exec_If _ _ _ _ _) ?_;refine LV (LG ?_);refine LV (K9 h (fun b s' hb=>?_) fun _ _ x=>x)
 cases b<;>exact hb
theorem su{nb:Nat}{xs:jh}{I L cL:Nat}{env:Env}{p0 p1 p2 p3 p4:Pos}{kF:Result->Sem PySem.Fin}{lF:Yb}{cF:Code}{pF:Pos}{kpF:Yb}
  (hh:A.handled=none) (hI:nb<=I) (hC:env.locals<nb) (hsC:∀ p∈bI L cL xs,p.1≠env.locals) (Q5:∀ p∈bI L cL xs,p.1<nb)
  (QK:∀ x∈xs,(x.2.1.length:Int)<2^63)
  (hn:env.kindOf "namespaces"=some .local) (hk:env.scope.kind=.function) (hi:interactive env=false)
  (WH:∀ Qs s,dh nb env.locals Qs s->Seg MP A (mu nb env.locals) (gN nb env.locals (bI L cL xs) (aJ xs)) 0 Qs cF (kF (.ok .next)) [] s):
  ∀ (m:Nat) (Qs s:Shared),m<=xs.length->dU env I L cL xs ((m:Int)-1) s.heap->dh nb env.locals Qs s->
   Seg MP A (mu nb env.locals) (gN nb env.locals (bI L cL xs) (aJ xs)) (aJ (xs.take m)).length Qs (.forLoop (.Name "namespaces" p0) (.ref I) (iN p1 p2 p3 p4) [] env)
    (MP.den (.forLoop (.Name "namespaces" p0) (.ref I) (iN p1 p2 p3 p4) [] env)) [.ret kF none false lF cF pF kpF] s:=by
 have SX:I≠env.locals:=MH (K8 (Lb hC hI));have hp:(env.scope.kind== .class||(env.scope.kind== .module&&env.locals !=env.globals))=false:=aa hk rfl;intro m
 induction m with
 |zero=>
  intro Qs s hm hG Sm;show Seg _ A _ _ _ Qs _ ((forTurn (.Name "namespaces" p0) (.ref I) (iN p1 p2 p3 p4) [] env).onRaise (fun x=>do noteFrame x env;theTreesLotGoes x)) _ s;unfold forTurn;refine aa (Sem.onRaise_eq_wrap _ _) ?_;refine LV (LG ?_);refine LV (wpAny_onRaise ?_);refine wpAny_pyNext_rev_end hh hG.it fun h' he=>?_;refine seg_again rfl ?_;show Seg _ A _ _ _ Qs _ ((((execs [] env).onRaise (fun x=>do noteFrame x env;theTreesLotGoes x))>>=fun f=>pure (.done f)):Sem PySem.Fin) _ _;refine seg_leaf (.ok .next) ?_;exact WH _ _ (Sm.step (tk:=s.toks) fun b o hb _ e=>he b o (by intro h;subst h;exact absurd hb (MZ.mpr hI)) e)
 |succ m ih=>
  intro Qs s hm hG Sm;have PW:m<xs.length:=hm;obtain⟨l,items,cl,hx⟩:ry (fun l items cl=>xs[m]=(l,items,cl)):=⟨_,_,_,rfl⟩;have Rl:(l,items,cl)∈xs:=hx▸M8 PW;have Xa:aJ (xs.take (m+1))=items++aJ (xs.take m):=by
   unfold aJ;refine aa (List.take_succ_eq_append_getElem PW) (aa Nx (aa hx ?_));rfl
  have QG:s.heap.IsRevIter I L ((m:Nat):Int):=by have:=hG.it;rwa [show ((m+1:Nat):Int)-1=(m:Nat) from tY] at this
  show Seg _ A _ _ _ Qs _ ((forTurn (.Name "namespaces" p0) (.ref I) (iN p1 p2 p3 p4) [] env).onRaise (fun x=>do noteFrame x env;theTreesLotGoes x)) _ s;unfold forTurn;refine aa (Sem.onRaise_eq_wrap _ _) ?_;refine LV (LG ?_);refine LV (wpAny_onRaise ?_);refine wpAny_pyNext_rev_item (x:= .ref l) QG hG.stk (by simp[PW,hx]) fun h₁ Wj U4=>?_;dsimp only;have R1:∀ b o,b≠I->s.heap.get? b=some o->h₁.get? b=some o:=fun b o hb e=>U4.extBut b o hb e;obtain⟨mm,PU⟩:=hG.loc;refine LV (Ni (a:=()) rfl ?_);refine LV (Oq (wpAny_storeName_local hn (PU.at' fun o e=>R1 _ o (MH SX) e) (fun Sa V7 S9=>?_) hp));have XO:∀ b o,b≠I->b≠env.locals->s.heap.get? b=some o->Sa.get? b=some o:=fun b o hb RZ e=>S9.extBut b o RZ (R1 b o hb e);have V6:dU env I L cL xs ((m:Int)-1) Sa:=
   ⟨Wj.at fun o e=>S9.extBut _ o SX e,hG.sh.keeps (fun b=>b≠I/\b≠env.locals) (fun p hp=>⟨K8 (Lb (Q5 p hp) hI),hsC p hp⟩) fun b o hb e=>XO b o hb.1 hb.2 e,⟨_,V7⟩⟩
  have V8:dh nb env.locals Qs {s with heap:=Sa,toks:=s.toks+1}:=Sm.step fun b o hb hc e=>XO b o (by rintro rfl;exact EO hb hI) hc e
  (refine aa (Sem.bind_eq_wrap' _ _) ?_;rw[Sem.wrap_wrap])
  refine seg_execs_cons (AQ (wpAny_isTrue_value ?_));refine wpAny_Name (NV hk hn V7 (v:= .ref l) (by simp) ?_);refine wpAny_truthy_list (V6.each _ Rl) (by simpa using QK _ Rl) ?_;refine aa Xa ?_
  cases items with
  |nil=>
   refine aa (KO (by simp)) ?_;refine seg_execs_nil ?_;refine seg_again rfl ?_;exact ih Qs _ (AL hm) V6 (V8.step fun _ _ _ _ e=>e)
  |cons x items=>
   refine aa (KZ (by simp)) ?_;refine seg_execs_cons ?_;refine aa (exec_Expr env _ p3 hi rfl) ?_;refine LV (LG ?_);show Seg _ A _ _ _ _ _ (((eval (.Name "namespaces" p2) env>>=fun v=>standAt p3>>=fun _=>yieldFrom env v)>>=_).wrap _ _ _ _) _ _;refine aa (bind_assoc _ _ _) ?_;refine LV (wpAny_Name (NV hk hn V7 (v:= .ref l) (by simp) ?_));refine aa (bind_assoc _ _ _) ?_;refine LV (LG ?_);unfold yieldFrom;refine aa (bind_assoc _ _ _) ?_;refine LV (OA (V6.each _ Rl).typeIs ?_);refine aa (KO (by decide)) (aa (bind_assoc _ _ _) ?_);refine LV (Lk (wpAny_pyIter_list (V6.each _ Rl) ?_));refine seg_call fun p=>?_;refine aa KJ ?_;have Qh:∀ b o,Sa.get? b=some o->b<Sa.objs.size:=fun b o e=>KQ e;have QJ:I<Sa.objs.size:=let ⟨o,ho,_⟩:=V6.it;Qh _ o ho;have hbC:env.locals<Sa.objs.size:=V7.lt;have hls:((l:Addr),lO (x::items) cl)∈bI L cL xs:=List.mem_cons_of_mem _ (KK.mpr ⟨_,Rl,rfl⟩);have hlb:l<nb:=Q5 _ hls;have hJb:nb<=Sa.objs.size:=LF (Lx hI QJ);have XN:dU env I L cL xs ((m:Int)-1) (Sa.push {cls:= .type "list_iterator",data:= .fields #[.ref l, .int 0 0]}):=V6.keeps (fun _=>True) trivial (fun _ _=>trivial) trivial fun b o _ e=>KN _ e;refine AR (items:=x::items) (rest:=aJ (xs.take m)) (J:=Sa.objs.size) (l:=l) (I:=I) ?_ hJb hI hls (K8 (Lb hlb hJb)) ?_ ?_
    (fun h=>dU env I L cL xs ((m:Int)-1) h) (fun h x=>x.again)
    (fun h h' x hk=>x.keeps (·≠Sa.objs.size) (K8 QJ) (fun y hy=>K8 (Lb (Q5 y hy) hJb)) (K8 hbC) fun b o hb e=>hk b o hb e) ?_
    (x::items).length 0 Qs _ (by simp) (by exact L0 [_] W0 V0 rfl) ⟨aJ (xs.drop (m+1)),?_⟩ ⟨_,Lc _ rfl,rfl,rfl⟩ (XN.each _ Rl) XN (V8.step (tk:=s.toks+1+1+1) fun b o hb _ e=>KN _ e)
   ·exact hh
   ·rfl
   ·rfl
   ·intro Qs s' hG' S8
    exact seg_again rfl (ih Qs s' (AL hm) hG' S8)
   ·(rw[List.drop_zero];refine ae Xa ?_)
    unfold aJ;exact ae Oa (ae Nx (aa (Pv _ _) rfl))
noncomputable abbrev lA(p0 p1 p2 p3 p4 p5 p6 p7 p8:Pos):Stmt:= .For (.Name "namespaces" p0) (.Call (.Name "_reversed" p5) [.Name "ns_stack" p6] [] p7) (iN p1 p2 p3 p4) [] p8
theorem yK
  (hh:A.handled=none) (hC:env.locals<nb) (hsC:∀ p∈bI L cL xs,p.1≠env.locals) (Q5:∀ p∈bI L cL xs,p.1<nb)
  (QK:∀ x∈xs,(x.2.1.length:Int)<2^63)
  (hn:env.kindOf "namespaces"=some .local) (hn1:env.kindOf "_reversed"=some .local) (hn2:env.kindOf "ns_stack"=some .local) (hk:env.scope.kind=.function) (hi:interactive env=false)
  (UT:m "_reversed"=some (.type "reversed")) (Tl:m "ns_stack"=some (.ref L))
  (s:Shared) (Qh:nb<=s.heap.objs.size) (hN:s.heap.Ns env.locals m) (hS:bH s.heap (bI L cL xs)):
  Seg MP A (mu nb env.locals) (gN nb env.locals (bI L cL xs) (aJ xs)) (aJ xs).length s (.func [lA p0 p1 p2 p3 p4 p5 p6 p7 p8] env) (MP.den (.func [lA p0 p1 p2 p3 p4 p5 p6 p7 p8] env)) [] s:=by
 refine seg_func (seg_execs_cons ?_);refine aa (exec_For _ _ _ _ _) ?_;refine LV (LG ?_);refine LV (wpAny_Call_NameR (wpAny_Name (NV hk hn1 hN UT ?_)));refine callWith_type1 (wpAny_Name (NV hk hn2 hN Tl ?_));have hSl:s.heap.IsList L (xs.map fun x=>Value.ref x.1).toArray:=⟨_,hS (L,_) (Nc ..),rfl,cL,rfl⟩;refine call_reversed_list hSl ?_;refine LV (Ni (a:=Value.ref s.heap.objs.size) rfl ?_);refine LV (LG ?_);have hz:(xs.map fun x=>Value.ref x.1).toArray.size=xs.length:=by simp
 have QG:(s.heap.push (revObj L (((xs.map fun x=>Value.ref x.1).toArray.size:Int)-1))).IsRevIter s.heap.objs.size L ((xs.length:Int)-1):=by
  refine aa hz ?_;exact⟨_,Lc _ rfl,rfl,rfl⟩
 refine LV (Lk (wpAny_pyIter_revIter QG ?_));refine seg_call fun p=>?_;have e:aJ xs=aJ (xs.take xs.length):=by exact aa Lm rfl
 conv=>arg 5;rw[e]
 have keep:∀ b o,s.heap.get? b=some o->(s.heap.push (revObj L (((xs.map fun x=>Value.ref x.1).toArray.size:Int)-1))).get? b=some o:=fun b o e=>KN _ e;refine su hh Qh hC hsC Q5 QK hn hk hi ?_ xs.length s _ (K1 _) ⟨QG,fun p hp=>keep _ _ (hS p hp),⟨m,hN.at' fun o e=>keep _ o e⟩⟩
  ((dh.refl _ _ s).step (tk:=s.toks) fun b o _ _ e=>keep b o e)
 intro Qs P1 h;exact seg_end (.ok (.ret .none)) ⟨rfl,rfl,h⟩
variable{E:X8}{s:Shared}
theorem nw{a:Addr}{g n:Nat}{gs:GenState}{P:Nat->Shared->Shared->Prop}{Y:Protocol}{Q:Option Value->Shared->Prop}(hh:A.handled=none)
  (hl:s.heap.NoLimit) (Qc:A.depth<recursionLimit) (hg:s.heap.IsGen a g) (Un:s.gens[g]?=some gs)
  (hgo:gs.Goes MP A.in1 (fun n Qs r P1=>r=.ok (.ret .none)/\P n Qs P1) Y n (.send .none) (s.setGen g .running))
  (hY:∀ v P1 T9,T9.bare=true->Y (n-1) (s.setGen g .running) v P1 (fun r' Qj=>match n with
    |0=>False
    |m+1=>T9.Goes MP A.in1 (fun n Qs r P1=>r=.ok (.ret .none)/\P n Qs P1) Y m r' Qj)->Q (some v) (P1.setGen g T9))
  (hP:∀ P1,P n (s.setGen g .running) P1->∀ h',(∀ b o,P1.heap.get? b=some o->h'.get? b=some o)->Q none {P1.setGen g .finished with heap:=h'}):
  wpAny MP A (pyNext (.ref a)) Q E s:=by
 unfold pyNext;refine Kz (Nw (Mo (name:=Ye "__next__") hg.typeIs slot_gen_next
  (LS slot_gen_next hg.typeIs entry_gen_next ?_ (args_gen_next _))))
 show wpAny _ A.in1 (Builtin.Generator.genWake (.ref a) (.send .none)) _ _ s;unfold Builtin.Generator.genWake;refine Kz (Lk (wpAny_genNumber hg (Kz (wpAny_genState Un ?_))))
 cases gs with
 |running=>exact hgo.elim
 |finished=>exact hgo.elim
 |_=>
  refine Kz (wpAny_roomToWake hl Qc ?_);show wpAny _ A.in1 (.resume g (.send .none) [] _) _ _ s;refine wpAny_resumeQ Un hgo (fun x P1 hx=>?_) (fun v P1 T9 hb hv=>?_)
  ·obtain⟨rfl,hp⟩:=hx
   show wpAny _ A.in1 ((newExc (.type "StopIteration") []>>=fun e=>raiseNew e)>>=_) _ _ _;refine Kz (ft hh ?_);refine Kz (NG (T:="StopIteration") (b:=true) ⟨_,Lc _ rfl,rfl⟩ isSubtype_stop ?_);exact KE (hP P1 hp _ fun b o hb=>KN _ (KN _ hb))
  ·exact KE ⟨v,rfl,KE (hY v P1 T9 hb hv)⟩
def oY(o:Obj)(g:Nat):Prop:=bW (fun nm qn=>o.cls=.type "generator") (fun nm qn=>o.data=.fields #[.int g 0,nm,qn]) (fun _ _=>o.slots=#[])
inductive fk(A:Around)(nb C L cL:Nat)(xs:jh)(a:Nat)(g j:Nat)(own:X6)(s:Shared):Prop
 |mk (oa oC oI oJ:Obj) (I J:Nat):own=[(a,oa),(C,oC),(I,oI),(J,oJ)]->C<=I->C<=J->oY oa g->bH s.heap own->aO (fun gs=>s.gens[g]?=some gs) (fun gs=>∀ Qj:Shared,bH Qj.heap own->bH Qj.heap (bI L cL xs)->
   gs.Goes MP A.in1 (mu nb C) (gN nb C (bI L cL xs) (aJ xs)) ((aJ xs).length-j) (.send .none) Qj)->fk A nb C L cL xs a g j own s
theorem fk.lies(x:fk A nb C L cL xs a g j own s)(TI:C<=a):∀ p∈own,C<=p.1:=by
 obtain⟨oa,oC,oI,oJ,I,J,rfl,h1,h2,_⟩:=x;intro p hp;simp only[KI,LH,O1] at hp;rcases hp with rfl|rfl|rfl|rfl
 ·exact TI
 ·exact K1 _
 ·exact h1
 ·exact h2
theorem fk.to(x:fk A nb C L cL xs a g j own s)(hh:bH s'.heap own)(hg:s'.gens=s.gens):fk A nb C L cL xs a g j own s':=by
 obtain⟨oa,oC,oI,oJ,I,J,rfl,h1,h2,h3,h4,gs,h5,h6⟩:=x;exact⟨oa,oC,oI,oJ,I,J,rfl,h1,h2,h3,hh,gs,by refine aa hg ?_;exact h5,h6⟩
theorem fk.item{nb C L cL:Nat}{xs:jh}{a:Nat}{g j:Nat}{own:X6}{v:Value}{Q:Option Value->Shared->Prop}(hh:A.handled=none)(hl:s.heap.NoLimit)(Qc:A.depth<recursionLimit)
  (TI:C<a) (Si:a<nb) (x:fk A nb C L cL xs a g j own s) (Sl:bH s.heap (bI L cL xs)) (hv:(aJ xs)[j]?=some v)
  (hQ:∀ h' tk Qg WY,fk A nb C L cL xs a g (j+1) WY ⟨h',Qg,s.drawn,tk,s.os⟩->(∀ b o,b<nb->b≠C->s.heap.get? b=some o->h'.get? b=some o)->(AllBare s.gens->AllBare Qg)->
   Q (some v) ⟨h',Qg,s.drawn,tk,s.os⟩):wpAny MP A (pyNext (.ref a)) Q E s:=by
 obtain⟨oa,oC,oI,oJ,I,J,rfl,h1,h2,h3,h4,gs,h5,h6⟩:=x;have PW:j<(aJ xs).length:=by
  rcases M6 j (aJ xs).length with h|h
  ·exact h
  ·rw[NP h] at hv;cases hv
 obtain⟨m,hm⟩:∃ m,(aJ xs).length-j=m+1:=⟨(aJ xs).length-j-1,s1 PW⟩;rw[hm] at h6;have hoa:=h4 (a,oa) (Nc ..);have hG:s.heap.IsGen a g:=let ⟨nm,qn,r1,r2,r3⟩:=h3;⟨oa,nm,qn,hoa,r1,r2,r3⟩;refine nw (P:=fun n Qs P1=>n=0/\dh nb C Qs P1) hh hl Qc hG h5 (h6 _ (fun p hp=>h4 p hp) (fun p hp=>Sl p hp)) (fun v' P1 T9 hb hy=>?_) (fun P1 hp h' hk=>?_)
 ·obtain⟨Uy,⟨h₁,Tx,rfl,R1⟩,Qq,I',J',Q3,oJ',hI',hJ',R9,WI⟩:=hy
  rw[show (aJ xs).length-1-(m+1-1)=j from s5 hm,hv] at Uy
  cases Uy;refine hQ _ _ _ [(a,oa),(C,Qq),(I',Q3),(J',oJ')] ⟨oa,Qq,Q3,oJ',I',J',rfl,by exact L3 [_,_,_,_] V0 V3 1 (.a V0 W1) V1 1 (.a V1 W1) V2 1 V2 V3 rfl TI Si hI',by exact L3 [_,_,_,_] V0 V3 1 (.a V0 W1) V1 1 (.a V1 W1) V2 1 V2 V3 rfl TI Si hJ',h3,?_,T9,setGen_self (gs:= .running) (setGen_self h5),fun Qj ha hs=>?_⟩ (fun b o hb hc e=>R1 b o hb hc e) fun QE=>?_
  ·intro p hp
   rcases KI.mp hp with rfl|hp
   ·exact R1 a oa Si (MH (K8 TI)) hoa
   ·exact R9 p hp
  ·exact aa (show (aJ xs).length-(j+1)=m from sP hm) (WI Qj (fun p hp=>ha p (List.mem_cons_of_mem _ hp)) hs)
  ·exact GenOnlyQ.bare (GenOnlyQ.of ((GenOnly.setGen s g .running).trans (GenOnly.setGen _ g T9)) (setGen_self (gs:= .running) (setGen_self h5)) hb) QE
 ·exact absurd hp.1 (Pp m)
theorem fk.done{nb C L cL:Nat}{xs:jh}{a:Nat}{g j:Nat}{own:X6}{Q:Option Value->Shared->Prop}(hh:A.handled=none)(hl:s.heap.NoLimit)(Qc:A.depth<recursionLimit)
  (x:fk A nb C L cL xs a g j own s) (Sl:bH s.heap (bI L cL xs)) (Q5:∀ p∈bI L cL xs,p.1<nb/\p.1≠C) (hj:j=(aJ xs).length)
  (hQ:∀ h' tk Qg,(∀ b o,b<nb->b≠C->s.heap.get? b=some o->h'.get? b=some o)->(AllBare s.gens->AllBare Qg)->Q none ⟨h',Qg,s.drawn,tk,s.os⟩):wpAny MP A (pyNext (.ref a)) Q E s:=by
 obtain⟨oa,oC,oI,oJ,I,J,rfl,h1,h2,h3,h4,gs,h5,h6⟩:=x;subst hj;rw[OZ] at h6;have hG:s.heap.IsGen a g:=let ⟨nm,qn,r1,r2,r3⟩:=h3;⟨oa,nm,qn,h4 (a,oa) (Nc ..),r1,r2,r3⟩;refine nw (P:=fun n Qs P1=>n=0/\dh nb C Qs P1) hh hl Qc hG h5 (h6 _ (fun p hp=>h4 p hp) (fun p hp=>Sl p hp)) (fun v' P1 T9 hb hy=>?_) (fun P1 hp h' hk=>?_)
 ·obtain⟨_,⟨h₁,Tx,rfl,R1⟩,Qq,I',J',Q3,oJ',_,_,R9,WI⟩:=hy
  exact False.elim (WI _ R9 fun p hp=>R1 p.1 p.2 (Q5 p hp).1 (Q5 p hp).2 (Sl p hp))
 ·obtain⟨_,h₁,Tx,rfl,R1⟩:=hp
  refine hQ _ _ _ (fun b o hb hc e=>hk b o (R1 b o hb hc e)) fun QE=>?_;exact GenOnlyQ.bare (GenOnlyQ.of ((GenOnly.setGen s g .running).trans (GenOnly.setGen _ g .finished)) (setGen_self (gs:= .running) (setGen_self h5)) rfl) QE
def A5(h₀:Heap)(L':Addr)(own:X6)(J:X7->X6->Prop)(Wb:Array GenState)(os:OsState)(Q:Flow->Shared->Prop)(f:Flow)(s':Shared):Prop:=
 match f with
 | .next| .cont=>iy (fun m' PZ=>Fr h₀ L' s'.heap m') (fun _ PZ=>News h₀ L' s'.heap (own++PZ)) (fun m' PZ=>J m' PZ) (fun _ _=>s'.gens=Wb) (fun _ _=>s'.os=os)
 | .brk=>Q .next s'
 | .ret v=>Q (.ret v) s'
inductive oj(A:Around)(h₀:Heap)(env:Env)(PO:X9)(body:Yd)(Q:Flow->Shared->Prop)(E:X8)(xv:Value)(P1:Shared):Prop
 |mk (nb C L cL a g:Nat) (xs:jh) (own:X6) (J:Nat->X7->X6->Prop) (m:X7) (news:X6):xv=.ref a->A.handled=none->h₀.NoLimit->A.depth<recursionLimit->C<a->a<nb->h₀.objs.size<=C->env.locals<C->fk A nb C L cL xs a g 0 own P1->Fr h₀ env.locals P1.heap m->News h₀ env.locals P1.heap news->AllBare P1.gens->(∀ j m news,J j m news->(∀ p∈news,p.1<C)/\∀ p∈bI L cL xs,p∈news∨h₀.get? p.1=some p.2)->J 0 m news->(∀ j v SJ Rf (oa oC oI oJ:Obj) (I J':Nat) h₁ Wb XS Tx,(aJ xs)[j]?=some v->J j SJ Rf->C<=I->C<=J'->AllBare Wb->Fr h₀ env.locals h₁ SJ->News h₀ env.locals h₁ ([(a,oa),(C,oC),(I,oI),(J',oJ)]++Rf)->
   wpAny MP A (assign PO env v) (fun _ TG=>wpAny MP A (execs body env)
    (A5 h₀ env.locals [(a,oa),(C,oC),(I,oI),(J',oJ)] (J (j+1)) Wb P1.os Q) E TG) E ⟨h₁,Wb,XS,Tx,P1.os⟩)->(∀ h' tk d' Qg m' PZ,Fr h₀ env.locals h' m'->News h₀ env.locals h' PZ->AllBare Qg->J (aJ xs).length m' PZ->Q .next ⟨h',Qg,d',tk,P1.os⟩)->oj A h₀ env PO body Q E xv P1
theorem uD(ho:s.heap.get? a=some o)(hg:oY o g)(h:Q () s):wpAny MP A (letOwnedTupleGo PO (.ref a) v) Q E s:=by
 obtain⟨nm,qn,hc,hd,_⟩:=hg;obtain⟨oc,od,dt,sl⟩:=o
 cases hc
 cases hd;unfold letOwnedTupleGo
 cases PO<;>first
  |exact KE h
  |(cases v<;>first
    |exact KE h
    |(refine Kz (wpAny_load ho ?_);dsimp only;rw[show ["enumerate","zip","dict_itemiterator","dict_reverseitemiterator","odict_iterator","itertools.zip_longest","itertools.pairwise"].contains "generator"=false from by decide+kernel,Bool.false_and,KO KR];exact KE h))
theorem xV(_F:Fr h₀ env.locals s.heap X4)
  (h:wpAny MP A (eval iter env) (fun xv P1=>oj A h₀ env PO body Q E xv P1) E s)
  (hs:∀ x,foldedSetIterable iter env x=pure x:=by intro _;rfl) (hE:PassesOwn MP A env E:=by passes_own):
  wpAny MP A (exec (.For PO iter body [] pos) env) Q E s:=by
 refine wpAny_For (K9 h (fun xv P1 h₁=>?_) fun _ _ e=>e) hs;obtain⟨nb,C,L,cL,a,g,xs,own,J,m,news,rfl,hh,T0,Qc,TI,Si,hhC,hlC,hG,F,N,QE,RF,Te,step,last⟩:=h₁;have hIs:∀ (j:Nat) (own:X6) (s:Shared),fk A nb C L cL xs a g j own s->s.heap.IsGen a g:=fun j own s x=>by
  obtain⟨oa,oC,oI,oJ,I,J,rfl,h1,h2,⟨nm,qn,r1,r2,r3⟩,h4,_⟩:=x;exact⟨oa,nm,qn,h4 (a,oa) (Nc ..),r1,r2,r3⟩
 refine wpAny_pyIter_gen (hIs _ _ _ hG) ?_;have Q5:∀ j m news,J j m news->∀ p∈bI L cL xs,p.1<nb/\p.1≠C:=fun j m news hj p hp=>by
  have PW:p.1<C:=by
   rcases(RF j m news hj).2 p hp with h|h
   ·exact(RF j m news hj).1 p h
   ·exact Lb (KQ h) hhC
  exact⟨Mh (Mh PW TI) Si,K8 PW⟩
 have hnb:∀ b,b<C->b<nb/\b≠C:=fun b hb=>⟨Mh (Mh hb TI) Si,K8 hb⟩;have Xh:∀ (s:Shared) (h':Heap) m news j,J j m news->Fr h₀ env.locals s.heap m->News h₀ env.locals s.heap news->(∀ b o,b<nb->b≠C->s.heap.get? b=some o->h'.get? b=some o)->Fr h₀ env.locals h' m/\News h₀ env.locals h' news:=by
  intro s h' m news j hj F N hk;refine⟨⟨F.ns.at' fun o e=>hk _ o (hnb _ hlC).1 (hnb _ hlC).2 e,fun b o e=>?_,F.above⟩,fun p hp=>⟨hk _ _ (hnb _ ((RF j m news hj).1 p hp)).1 (hnb _ ((RF j m news hj).1 p hp)).2 (N p hp).1,(N p hp).2⟩⟩;have hb:b<C:=Lb (KQ e) hhC;exact hk b o (hnb b hb).1 (hnb b hb).2 (F.keep b o e)
 have hshH:∀ (h:Heap) m news j,J j m news->Fr h₀ env.locals h m->News h₀ env.locals h news->bH h (bI L cL xs):=fun h m news j hj F N p hp=>by
  rcases(RF j m news hj).2 p hp with h'|h'
  ·exact(N p h').1
  ·exact F.keep _ _ h'
 refine codeAny_forLoop_any (I:=fun n s=>md (fun j own m news=>j<=(aJ xs).length) (fun j _ _ _=>n=(aJ xs).length-j) (fun j own _ _=>fk A nb C L cL xs a g j own s) (fun _ _ m _=>Fr h₀ env.locals s.heap m) (fun _ _ _ news=>News h₀ env.locals s.heap news) (fun _ _ _ _=>AllBare s.gens) (fun j _ m news=>J j m news) (fun _ _ _ _=>s.os=P1.os)) (fun n s hI=>?_) (aJ xs).length ⟨0,own,m,news,K6 _,s0,hG,F,N,QE,Te,rfl⟩;obtain⟨j,own,m,news,hj,rfl,hG,F,N,QE,hJ,Rv⟩:=hI;have hl:s.heap.NoLimit:=T0.keeps F.keep;have Sl:=hshH _ _ _ _ hJ F N;rcases M6 j (aJ xs).length with PW|hge
 ·refine fk.item (v:=(aJ xs)[j]) hh hl Qc TI Si hG Sl (by simp[PW]) fun h' tk Qg WY hG' hk hb=>?_
  obtain⟨F',N'⟩:=Xh s h' m news j hJ F N hk;obtain⟨oa,oC,oI,oJ,I,J',Wn,hCI,hCJ,hga,Xb,gs,Un,hgo⟩:=id hG';refine uD (Xb (a,oa) (by refine aa Wn ?_;exact Nc ..)) hga ?_;have Nall:News h₀ env.locals h' ([(a,oa),(C,oC),(I,oI),(J',oJ)]++news):=by
   intro p hp;rcases KM.mp hp with hp|hp
   ·have hCp:C<=p.1:=hG'.lies (LF TI) p (by refine aa Wn ?_;exact hp)
    refine⟨Xb p (by refine aa Wn ?_;exact hp),MH (K8 (Lb hlC hCp)),?_⟩
    cases hq:h₀.get? p.1 with
    |none=>rfl
    |some o=>exact absurd (Lb (KQ hq) hhC) (MZ.mpr hCp)
   ·exact N' p hp
  have st:=step j (aJ xs)[j] m news oa oC oI oJ I J' h' Qg s.drawn tk (by simp[PW]) hJ hCI hCJ (hb QE) F' Nall;rw[←Rv] at st;refine K9 st (fun _ TG Se=>K9 Se (fun f Ri R5=>?_) fun _ _ e=>hE _ _ e) fun _ _ e=>hE _ _ e;have Sg:(iy (fun m' PZ=>Fr h₀ env.locals Ri.heap m') (fun _ PZ=>News h₀ env.locals Ri.heap ([(a,oa),(C,oC),(I,oI),(J',oJ)]++PZ)) (fun m' PZ=>J (j+1) m' PZ) (fun _ _=>Ri.gens=Qg) (fun _ _=>Ri.os=s.os))->
    ∃ n,n<(aJ xs).length-j/\md (fun j own m news=>j<=(aJ xs).length) (fun j _ _ _=>n=(aJ xs).length-j) (fun j own _ _=>fk A nb C L cL xs a g j own Ri) (fun _ _ m _=>Fr h₀ env.locals Ri.heap m) (fun _ _ _ news=>News h₀ env.locals Ri.heap news) (fun _ _ _ _=>AllBare Ri.gens) (fun j _ m news=>J j m news) (fun _ _ _ _=>Ri.os=P1.os):=by
   rintro⟨m',PZ,F4,N4,Vn,hg4,ho4⟩;refine⟨(aJ xs).length-(j+1),xP PW,j+1,WY,m',PZ,PW,rfl,hG'.to (fun p hp=>(N4 p (KA _ (by refine ae Wn ?_;exact hp))).1) hg4,F4,fun p hp=>N4 p (KB _ hp),by refine aa hg4 ?_;exact hb QE,Vn,ho4.trans Rv⟩
  cases f with
  |next=>exact Sg R5
  |cont=>exact Sg R5
  |brk=>exact R5
  |ret v=>exact R5
 ·have S4:j=(aJ xs).length:=aS hj hge
  refine fk.done hh hl Qc hG Sl (Q5 _ _ _ hJ) S4 fun h' tk Qg hk hb=>?_;obtain⟨F',N'⟩:=Xh s h' m news j hJ F N hk;refine wpAny_execs_nil ?_;exact aa Rv (last _ _ _ _ _ _ F' N' (hb QE) (S4▸hJ))
variable{L:Addr}{h₀:Heap}{m mg mb:X7}{news:X6}{Qv:ExcName->Option Value}
theorem rT{K:Frag}{Q:X8}{name qual:Str}{params:Arguments}{p0 p1 p2 p3 p4 p5 p6 p7 p8:Pos}{scope:Scope}{dV kV doc pm PX ct oc:Value}{an od:Option Addr}{RN:Array (Option Value)}{f:Addr}{args:Yb}{wv:Value}{Ln cL:Nat}{xs:jh}
  (F:Fr h₀ L s.heap m) (VY:K.In h₀) (N:News h₀ L s.heap news) (T:TT Qv mg mb h₀)
  (ho:K.lookup f=some ⟨oc,od, .func (fnOf name qual params [lA p0 p1 p2 p3 p4 p5 p6 p7 p8] scope dV kV doc pm an PX ct),RN⟩) (Q1:codeIn K PX qual=true) (Qc:A.depth<recursionLimit)
  (Qx:BindsTo s (fnOf name qual params [lA p0 p1 p2 p3 p4 p5 p6 p7 p8] scope dV kV doc pm an PX ct) ⟨args,[]⟩ [("self",wv),("ns_stack", .ref Ln),("_reversed", .type "reversed")])
  (RB:∀ y∈([("self",wv),("ns_stack", .ref Ln),("_reversed", .type "reversed")]:List (Str×Value)),scope.names.lookup y.1=some .local)
  (Q2:scope.isCoroutine=false) (QX:scope.isGenerator=true) (hk:scope.kind=.function) (P8:∀ x∈scope.names,x.2≠ .cell) (hn:scope.names.lookup (Ye "namespaces")=some .local)
  (Sl:bH s.heap (bI Ln cL xs)) (QK:∀ x∈xs,(x.2.1.length:Int)<2^63) (hh:A.handled=none)
  (h:∀ (C:Nat) h' Qg tk own,C=s.heap.objs.size->fk A (C+2) C Ln cL xs (C+1) s.gens.size 0 own ⟨h',Qg,s.drawn,tk,s.os⟩->Fr h₀ L h' m->News h₀ L h' news->(AllBare s.gens->AllBare Qg)->L<C->h₀.objs.size<=C->(∀ p∈news,p.1<C)->Q (.ref (C+1)) ⟨h',Qg,s.drawn,tk,s.os⟩):
  wpAny MP A (call (.ref f) args) Q E s:=by
 have T0:s.heap.NoLimit:=T.nolimit.keeps F.keep;refine OK (codeAny_call_generator (body:=[lA p0 p1 p2 p3 p4 p5 p6 p7 p8]) Qc ((VY.keeps F.keep) _ _ ho) rfl Q2 QX rfl (codeRec_of (VY.keeps F.keep) Q1) (Qx _ _ _ _ ?_));refine wpAny_newFunctionEnv P8 RB (fun h₁ UY Q5=>⟨T0.fresh _ Q5,?_⟩) hk;have Qh:h₁.objs.size=s.heap.objs.size+1:=by exact aa Q5.1 (aa (L8 _ _) rfl)
 have XG:∀ b o,s.heap.get? b=some o->h₁.get? b=some o:=fun b o e=>Q5.extBut b o (K8 (KQ e)) (KN _ e);have hsz':h₁.objs.size=s.heap.objs.size+1:=Qh;obtain⟨og,hog,hgo⟩:aO (fun(og:Obj)=>oY og s.gens.size) (fun og=>og={cls:=Value.type "generator",data:=Data.fields #[.int s.gens.size 0, .str name (s.toks+3), .str qual (s.toks+3+1)]}):=⟨_,⟨_,_,rfl,rfl,rfl⟩,rfl⟩;show Q (.ref h₁.objs.size) ⟨h₁.push {cls:=Value.type "generator",data:=Data.fields #[.int s.gens.size 0, .str name (s.toks+3), .str qual (s.toks+3+1)]},s.gens.push _,s.drawn,_,s.os⟩;refine aa Qh (ae hgo ?_);have hof:og.isFreed=false:=aa hgo rfl;have Ww:∀ (o':Obj) b o,s.heap.get? b=some o->(h₁.push o').get? b=some o:=fun o' b o e=>KN _ (XG b o e);obtain⟨oC,es,ep,hC1,hC2⟩:=id UY;have hCget:h₁.get? s.heap.objs.size=some oC:=hC1;have hagt:∀ o':Obj,o'.isFreed=false->(h₁.push o').get? (s.heap.objs.size+1)=some o':=fun o' hf=>ae Qh (Lc _ hf);refine h s.heap.objs.size _ _ _ [(s.heap.objs.size+1,og),(s.heap.objs.size,oC),(s.heap.objs.size,oC),(s.heap.objs.size,oC)] rfl
  ⟨og,oC,oC,oC,s.heap.objs.size,s.heap.objs.size,rfl,K1 _,K1 _,hog,?_,_,Array.getElem?_push_size ..,fun Qj QE hs=>⟨rfl,?_⟩⟩
  ⟨F.ns.at' fun o e=>Ww _ _ o e,fun b o e=>Ww _ b o (F.keep b o e),F.above⟩ (fun p hp=>⟨Ww _ _ _ (N p hp).1,(N p hp).2⟩) (fun QE=>QE.push rfl) F.ns.lt (KH F.above (LF F.ns.lt)) fun p hp=>KQ (N p hp).1
 ·intro p hp
  simp only[KI,LH,O1] at hp;rcases hp with rfl|rfl|rfl|rfl
  ·exact hagt _ hof
  all_goals exact KN _ hCget
 ·refine aa (Nat.sub_zero _) ?_
  have PW:∀ p∈bI Ln cL xs,p.1<s.heap.objs.size:=fun p hp=>KQ (Sl p hp);have g1:(s.heap.objs.size:Nat)<s.heap.objs.size+2:=Nat.lt_add_of_pos_right (by decide);have g2:s.heap.objs.size+2<=Qj.heap.objs.size:=KQ (QE _ (Nc ..));have g3:Qj.heap.Ns s.heap.objs.size (fun x=>([("self",wv),("ns_stack", .ref Ln),("_reversed", .type "reversed")]:List (Str×Value)).reverse.lookup x):=⟨oC,es,ep,QE (s.heap.objs.size,oC) (by simp),hC2⟩;have l1:=RB ("_reversed", .type "reversed") (by simp);have l2:=RB ("ns_stack", .ref Ln) (by simp);refine yK (A:=A.in1) (nb:=s.heap.objs.size+2) (env:=newEnv scope s.heap.objs.size mainGlobals [] (qual++Ye ".<locals>.") (some f) PX none builtinsNs) (m:=fun x=>([("self",wv),("ns_stack", .ref Ln),("_reversed", .type "reversed")]:List (Str×Value)).reverse.lookup x) hh ?a1 ?a2 ?a3 QK ?a4 ?a5 ?a6 ?a7 ?a8 rfl rfl Qj ?a9 ?a10 hs
  case a1=>exact g1
  case a2=>exact fun p hp=>K8 (PW p hp)
  case a3=>exact fun p hp=>Mh (PW p hp) g1
  case a4=>exact hn
  case a5=>exact l1
  case a6=>exact l2
  case a7=>exact hk
  case a8=>(unfold interactive newEnv;simp[hk])
  case a9=>exact g2
  case a10=>exact g3
variable{P1:Shared}
end
theorem ph(N:News h₀ L h news)(K:mi news P4 h')(N':News h₀ L h' Wa)(hr:∀ p∈rest,p∈news/\∀ q∈P4,q.1≠p.1):News h₀ L h' (Wa++rest):=by
 intro p hp;rcases KM.mp hp with hp|hp
 ·exact N' p hp
 ·obtain⟨h1,h2⟩:=hr p hp
  exact⟨K p h1 h2,(N p h1).2⟩
section
variable{M:Model}{A:Around}{E:X8}{s':Shared}{base g TD:Heap}{outer:List Env}{L e t:Addr}{m:X7}{env:Env}{Q:Unit->Shared->Prop}{news Yr:X6}
theorem o6(K:Below A base outer g)(hf:env.frame=some L)(F:Fr g L TD m)(R:RaisedS base TD (env::outer) e cls t vs news s'.heap)(Rn:TD.UpToSlots s'.heap)
  (RA:∀ q∈Yr,q∈news∨(TD.get? q.1=some q.2/\q.1≠L)) (hcg:∀ q∈Yr,g.get? q.1=none)
  (hQ:∀ h',RaisedS base g outer e cls t vs Yr h'->g.UpToSlots h'->Q () {s' with heap:=h'}):
  wpAny M (A.deeper env) (leaving env (.ref e)) Q E s':=by
 obtain⟨⟨B,hB,hBG,hl,Qk,Rm⟩,htup⟩:=R;have Rl:∀ {b:Addr},b∈(env::outer).filterMap (·.frame)->b=L∨b∈outer.filterMap (·.frame):=fun {b} hm=>by
  obtain⟨env',he,hf'⟩:=OW.mp hm;rcases KI.mp he with rfl|he
  ·rw[hf] at hf';exact .inl (Mr hf').symm
  ·exact .inr (OW.mpr ⟨env',he,hf'⟩)
 refine wpAny_leaves_onW (Around.frames_deeper K.stack) hf Qk fun h' x1 x2=>?_;refine hQ h' ⟨⟨B,hB,fun b o q nm=>hBG b o (F.keep b o q) (fun hm=>?_),fun q hq=>?_,x1,Rm⟩,htup.of_slots x2⟩ ((Heap.UpToSlots.of_keeps F.keep).trans (Rn.trans x2))
 ·rcases Rl hm with z|z
  ·rw[z,kts_self F] at q;cases q
  ·exact nm z
 ·refine⟨?_,hcg q hq,fresh_of_stays K.stays (hcg q hq)⟩
  rcases RA q hq with h|⟨h1,h2⟩
  ·exact(hl q h).1
  ·refine hBG _ _ h1 fun hm=>?_
   rcases Rl hm with z|z
   ·exact h2 z
   ·obtain⟨o,ho,_⟩:=(K.frames.mem z).2
    rw[hcg q hq] at ho;cases ho
structure Pr where
 a:Nat
 YC:Str
 pre:Str
 tu:Tok
 tp:Tok
def Pr.val(p:Pr):Value:= .ref p.a
noncomputable abbrev bm (x y:Value) (n:Nat):Obj:={cls:= .type "tuple",data:= .seq #[x,y] n}
noncomputable def Pr.ent (p:Pr):Addr×Obj:=(p.a,bm (.str p.YC p.tu) (.str p.pre p.tp) 0)
abbrev az:=List (Nat×List Pr×Nat)
noncomputable def az.stk (ns:az):jh:=ns.map fun x=>(x.1,x.2.1.map Pr.val,x.2.2)
noncomputable def az.flat (ns:az):List Pr:=ns.reverse.flatMap (·.2.1)
noncomputable def az.lists (ns:az):X6:=ns.map fun x=>(x.1,lO (x.2.1.map Pr.val) x.2.2)
noncomputable def az.read (ns:az):X6:=ns.lists++ns.flat.map Pr.ent
noncomputable def az.refs (ns:az):Yb:=ns.map fun x=>Value.ref x.1
theorem GX(ns:az):aJ ns.stk=ns.flat.map Pr.val:=by
 unfold aJ az.stk az.flat;exact ae List.map_reverse (aa (List.flatMap_map _ _ _) (aa Pk rfl))
theorem HV(ns:az)(L c:Nat):bI L c ns.stk=(L,lO ns.refs c)::ns.lists:=by
 unfold bI az.stk az.lists az.refs;simp only[M4]
 rfl
noncomputable def az.uriOf (ns:az) (x:Str):Option Str:=(ns.flat.find? fun p=>p.pre==x).map (·.YC)
end
theorem pV{l:List (Str×Tok)}{x y:Str}(h:l.map (fun z=>z.1)=[x,y]):l9 (fun t u=>l=[(x,t),(y,u)]):=by
 obtain⟨⟨_,t⟩,l2,rfl,rfl,h2⟩:=List.map_eq_cons_iff.mp h;obtain⟨⟨_,u⟩,l3,rfl,rfl,h3⟩:=List.map_eq_cons_iff.mp h2
 cases List.map_eq_nil_iff.mp h3;exact⟨t,u,rfl⟩
theorem Il{ns:az}{x:Str}(h:∀ i,i<(aJ ns.stk).length->∀ p,ns.flat[i]?=some p->p.pre≠x):ns.uriOf x=none:=by
 unfold az.uriOf;rw[Oo,NL];intro p hp;obtain⟨i,hi,he⟩:=LQ.mp hp;have:=h i (by refine aa (GX _) (aa (KG _) ?_);exact hi) p (by exact aa (KL hi) (aa he rfl));simpa using this
theorem Im{ns:az}{x:Str}{j:Nat}{p:Pr}(hp:ns.flat[j]?=some p)(e:p.pre=x)(h:∀ i,i<j->∀ p,ns.flat[i]?=some p->p.pre≠x):ns.uriOf x=some p.YC:=by
 unfold az.uriOf;rw[Lv];refine⟨p,?_,rfl⟩;rw[List.find?_eq_some_iff_getElem];obtain⟨hj,he⟩:=Ll.mp hp;refine⟨by simpa using e,j,hj,he,fun i hi=>?_⟩;have:=h i hi _ (KL (Mh hi hj));simpa using this
theorem iM(N:News h₀ L h (x::l)):News h₀ L h l:=fun p hp=>N p (.tail _ hp)
theorem uG:(Ye ":").length=1:=by decide+kernel
theorem uH:(Ye "{").length=1:=by decide+kernel
theorem Ah:(Ye "}").length=1:=by decide+kernel
theorem Cj:(Ye "<").length=1:=by decide+kernel
theorem wG:(Ye " ").length=1:=by decide+kernel
theorem Af:(Ye "=\"").length=2:=by decide+kernel
theorem Ag:(Ye "\"").length=1:=by decide+kernel
theorem wH:(Ye "xmlns:").length=6:=by decide+kernel
noncomputable def b9 (pm:List (Str×Str)) (u:Str):Option Str:=(pm.find? fun x=>x.1==u).map (·.2)
inductive gw:List (Str×Value)->List (Str×Str)->Prop
 |nil:gw [] []
 |cons (k v:Str) (t:Tok) {r:List (Str×Value)} {q:List (Str×Str)}:gw r q->gw ((k, .str v t)::r) ((k,v)::q)
def gv(po:Obj)(pm:List (Str×Str)):Prop:=aO (fun PP=>po.IsDictOf (PySem.strKind PR w) PP) (fun PP=>gw PP pm)
theorem gw.len(h:gw r q):r.length=q.length:=by
 induction h with
 |nil=>rfl
 |cons _ _ _ _ ih=>exact congrArg Nat.succ ih
theorem gw.get(h:gw r q):(b9 q u=none/\valueAt r u=none)∨bE (fun(x:Str) (_:Tok)=>b9 q u=some x) (fun x t=>valueAt r u=some (.str x t)):=by
 unfold b9 valueAt
 induction h with
 |nil=>exact .inl ⟨rfl,rfl⟩
 |cons k v t _ ih=>
  refine aa MM (aa MM ?_)
  by_cases e:k=u
  ·subst e
   exact .inr ⟨v,t,by simp,by simp⟩
  ·exact aa (LN.mpr e) (aa (K0 e) ih)
theorem gw.put(h:gw r q)(hn:b9 q u=none):gw (PySem.stored r u (.str x t)) (q++[(u,x)]):=by
 have e:∀ {r q},gw r q->b9 q u=none->gw (r++[(u, .str x t)]) (q++[(u,x)])/\(r.any fun e=>decide (e.1=u))=false:=by
  intro r q h
  induction h with
  |nil=>exact fun _=>⟨.cons _ _ _ .nil,rfl⟩
  |cons k v t' _ ih=>
   intro hn;unfold b9 at hn ih;rw[MM] at hn
   by_cases e:k=u
   ·subst e;simp at hn
   ·rw[LN.mpr e] at hn
    obtain⟨a,b⟩:=ih hn;refine⟨.cons _ _ _ a,?_⟩;refine aa List.any_cons (aa b (aa (K0 e) ?_));rfl
 obtain⟨a,b⟩:=e h hn;unfold PySem.stored;exact aa b a
noncomputable def az.preOf (ns:az) (u:Str):Option Str:=(ns.flat.find? fun p=>p.YC==u).map (·.pre)
noncomputable abbrev ip (x y z:Value) (n:Nat):Obj:={cls:= .type "tuple",data:= .seq #[x,y,z] n}
noncomputable def fY (ns:az) (j:Nat) (x:Str):Bool:=(ns.flat.take j).any fun p=>p.pre==x
theorem qz(hp:ns.flat[j]?=some p):fY ns (j+1)=fun x=>fY ns j x||decide (x=p.pre):=by
 funext x
 unfold fY;obtain⟨hj,he⟩:=Ll.mp hp;refine aa (List.take_succ_eq_append_getElem hj) (aa List.any_append (aa he ?_));simp only[List.any_cons,List.any_nil,Bool.or_false]
 congr 1
 rw[M2,Mz,decide_eq_true_iff];exact eq_comm
theorem Ij{ns:az}{x:Str}(h:∀ i,i<(aJ ns.stk).length->∀ p,ns.flat[i]?=some p->p.YC≠x):ns.preOf x=none:=by
 unfold az.preOf;rw[Oo,NL];intro p hp;obtain⟨i,hi,he⟩:=LQ.mp hp;have:=h i (by refine aa (GX _) (aa (KG _) ?_);exact hi) p (by exact aa (KL hi) (aa he rfl));simpa using this
theorem Ik{ns:az}{x:Str}{j:Nat}{p:Pr}(hp:ns.flat[j]?=some p)(e:p.YC=x)(h:∀ i,i<j->∀ p,ns.flat[i]?=some p->p.YC≠x):ns.preOf x=some p.pre:=by
 unfold az.preOf;rw[Lv];refine⟨p,?_,rfl⟩;rw[List.find?_eq_some_iff_getElem];obtain⟨hj,he⟩:=Ll.mp hp;refine⟨by simpa using e,j,hj,he,fun i hi=>?_⟩;have:=h i hi _ (KL (Mh hi hj));simpa using this
theorem iQ(h:b9 pm u=some x):(u,x)∈pm:=by
 unfold b9 at h;rw[Lv] at h;obtain⟨y,h1,rfl⟩:=h;have h2:=List.find?_some h1;have h3:=List.mem_of_find?_eq_some h1;have e:y.1=u:=by simpa using h2
 exact ae e h3
abbrev UP:=Str×Str
def aZ(l:List UP)(u:Str):Option Str:=(l.find? fun x=>x.1==u).map (·.2)
def cH(pm:List UP):Str:=Ye "n"++Ye (toString ((pm.length:Nat):Int))
def aM(Yo:List UP)(st:List UP×List UP)(u:Str):Str×(List UP×List UP):=
 match aZ (st.1++Yo) u with
 |some x=>(x,st)
 |none=>match b9 st.2 u with
  |some x=>(x,(st.1++[(u,x)],st.2))
  |none=>(cH st.2,(st.1++[(u,cH st.2)],st.2++[(u,cH st.2)]))
def Pr.up(p:Pr):UP:=(p.YC,p.pre)
theorem IA(ns:az)(u:Str):ns.preOf u=aZ (ns.flat.map Pr.up) u:=by
 unfold az.preOf aZ;exact aa Nz (aa (O3 _ _ _) rfl)
theorem cy(init:az)(al:Nat)(Ym:List Pr)(cl:Nat):(init++[(al,Ym,cl)]:az).flat=Ym++init.flat:=by
 unfold az.flat;refine aa Nx ?_;simp
theorem rh:∀ i,i<64->∀ j,j<64->Ye (toString ((i:Nat):Int))=Ye (toString ((j:Nat):Int))->i=j:=by decide+kernel
theorem gC{a b c:Str}(h:a++b=a++c):b=c:=by
 have e:(a++b).cps=(a++c).cps:=by exact aa h rfl
 have e1:∀ x y:Str,(x++y).cps=x.cps++y.cps:=fun x y=>rfl;rw[e1,e1] at e
 cases b;cases c;exact congrArg Str.mk (Array.append_right_inj _|>.mp e)
theorem wJ:∀ i,i<64->Ye "n"++Ye (toString ((i:Nat):Int))≠Ye "xml":=by decide+kernel
theorem nR:∀ i,i<64->(Ye "n"++Ye (toString ((i:Nat):Int))).length<=1000/\0<(Ye "n"++Ye (toString ((i:Nat):Int))).length:=by decide+kernel
def bt:UP:=(Ye "http://www.w3.org/XML/1998/namespace",Ye "xml")
theorem yS:bt.1.length<=1000/\bt.2.length<=1000/\0<bt.2.length:=by decide+kernel
structure bL(pm:List UP):Prop where
 nm:∀ i x,pm[i]?=some x->x.2=Ye "n"++Ye (toString ((i:Nat):Int))
 nd:(pm.map (·.1)).Nodup
 ul:∀ x∈pm,x.1.length<=1000
def bk(l pm:List UP):Prop:=∀ x∈l,x∈pm∨x=bt
theorem bL.pre(h:bL pm)(hz:pm.length<=60):∀ x∈pm,x.2.length<=1000/\0<x.2.length:=fun x hx=>by
 obtain⟨i,hi,rfl⟩:=LQ.mp hx;refine aa (h.nm i _ (KL hi)) ?_;exact nR i (by exact L2 [_,_] (.a V1 W1) (.n 64) 1 V0 (.n 60) 1 (.a V1 W1) V0 rfl hz hi)
theorem bL.inj{pm:List UP}(h:bL pm)(hz:pm.length<=60){x y:UP}(hx:x∈pm)(hy:y∈pm)(e:x.2=y.2):x.1=y.1:=by
 obtain⟨i,hi,rfl⟩:=LQ.mp hx;obtain⟨j,hj,rfl⟩:=LQ.mp hy;rw[h.nm i _ (KL hi),h.nm j _ (KL hj)] at e;have:=rh i (by exact L2 [_,_] (.a V1 W1) (.n 64) 1 V0 (.n 60) 1 (.a V1 W1) V0 rfl hz hi) j (by exact L2 [_,_] (.a V1 W1) (.n 64) 1 V0 (.n 60) 1 (.a V1 W1) V0 rfl hz hj) (gC e);subst this
 rfl
theorem bk.inj(d:bk l pm)(h:bL pm)(hz:pm.length<=60)(hx:x∈l)(hy:y∈l)(e:x.2=y.2):x.1=y.1:=by
 have Qd:∀ z,z∈pm->z.2≠bt.2:=fun z hz' q=>by
  obtain⟨i,hi,rfl⟩:=LQ.mp hz';rw[h.nm i _ (KL hi)] at q;exact wJ i (by exact L2 [_,_] (.a V1 W1) (.n 64) 1 V0 (.n 60) 1 (.a V1 W1) V0 rfl hz hi) q
 rcases d x hx with hx|rfl
 ·rcases d y hy with hy|rfl
  ·exact h.inj hz hx hy e
  ·exact absurd e (Qd _ hx)
 ·rcases d y hy with hy|rfl
  ·exact absurd e.symm (Qd _ hy)
  ·rfl
theorem bk.len(d:bk l pm)(h:bL pm)(hz:pm.length<=60)(hx:x∈l):x.1.length<=1000/\x.2.length<=1000/\0<x.2.length:=by
 rcases d x hx with q|rfl
 ·exact⟨h.ul x q,h.pre hz x q⟩
 ·exact yS
theorem sn(h:b9 pm u=none):u∉pm.map (·.1):=by
 unfold b9 at h;rw[Oo,NL] at h;intro hm;obtain⟨x,hx,rfl⟩:=KK.mp hm;exact h x hx (by simp)
theorem AI(h:bL pm)(hg:b9 pm u=none)(hu:u.length<=1000):bL (pm++[(u,cH pm)]):=by
 refine⟨fun i x hx=>?_,?_,fun x hx=>?_⟩
 ·rcases Nat.lt_trichotomy i pm.length with q|q|q
  ·rw[Mu q] at hx
   exact h.nm i x hx
  ·subst q
   rw[LU (K1 _),OZ] at hx
   cases hx
   rfl
  ·rw[LU (LF q)] at hx
   rw[NP (by simp;exact sG q)] at hx
   cases hx
 ·refine aa KP ?_
  refine Nq.mpr ⟨h.nd,by simp,fun a ha b hb=>?_⟩;simp only[LB,OV,KF] at hb;subst hb;rintro rfl;exact sn hg ha
 ·rcases KM.mp hx with hx|hx
  ·exact h.ul x hx
  ·rw[KF] at hx;subst hx;exact hu
theorem fe(h:aZ l u=some x):(u,x)∈l:=iQ h
theorem ik(h:bL pm)(d:bk (cur++Yo) pm)(hu:u.length<=1000):
  bL (aM Yo (cur,pm) u).2.2/\bk ((aM Yo (cur,pm) u).2.1++Yo) (aM Yo (cur,pm) u).2.2/\(aM Yo (cur,pm) u).2.2.length<=pm.length+1/\(aM Yo (cur,pm) u).2.1.length<=cur.length+1/\
   (u,(aM Yo (cur,pm) u).1)∈(aM Yo (cur,pm) u).2.1++Yo/\∃ more,(aM Yo (cur,pm) u).2.1=cur++more:=by
 unfold aM
 cases h1:aZ (cur++Yo) u with
 |some x=>exact⟨h,d,MG _,MG _,fe h1,[],by simp⟩
 |none=>
  dsimp only
  cases h2:b9 pm u with
  |some x=>
   refine⟨h,fun y hy=>?_,MG _,by simp,by simp,_,rfl⟩;simp only[KS,KM,KF] at hy;rcases hy with hy|rfl|hy
   ·exact d y (KA _ hy)
   ·exact .inl (iQ h2)
   ·exact d y (KB _ hy)
  |none=>
   refine⟨AI h h2 hu,fun y hy=>?_,by simp,by simp,by simp,_,rfl⟩;have up:∀ z,z∈pm∨z=bt->z∈pm++[(u,cH pm)]∨z=bt:=fun z q=>q.elim (fun q=> .inl (KA _ q)) .inr;simp only[KS,KM,KF] at hy;rcases hy with hy|rfl|hy
   ·exact up _ (d y (KA _ hy))
   ·exact .inl (KB _ (KF.mpr rfl))
   ·exact up _ (d y (KB _ hy))
def aH(Yo:List UP):(List UP×List UP)->List Str->List Str×(List UP×List UP)
 |st,[]=>([],st)
 |st,u::r=>((aM Yo st u).1::(aH Yo (aM Yo st u).2 r).1,(aH Yo (aM Yo st u).2 r).2)
theorem vd(Yo:List UP)(st:List UP×List UP)(u:Str)(r:List Str):aH Yo st (u::r)=((aM Yo st u).1::(aH Yo (aM Yo st u).2 r).1,(aH Yo (aM Yo st u).2 r).2):=rfl
theorem gm(Yo:List UP):∀ (l:List Str) (st:List UP×List UP) (u:Str),aH Yo st (l++[u])=((aH Yo st l).1++[(aM Yo (aH Yo st l).2 u).1],(aM Yo (aH Yo st l).2 u).2)
 |[],_,_=>rfl
 |v::l,st,u=>by
  (refine aa Md (aa (vd _ _ _ _) ?_);refine aa (gm Yo l _ _) ?_)
  rfl
theorem fW(Yo:List UP):∀ (l:List Str) (st:List UP×List UP),(aH Yo st l).1.length=l.length
 |[],_=>rfl
 |v::l,st=>by refine aa (vd _ _ _ _) (aa Le (aa (fW Yo l _) ?_));rfl
theorem jc:∀ (l:List Str) (st:List UP×List UP),bL st.2->bk (st.1++Yo) st.2->(∀ u∈l,u.length<=1000)->
  bL (aH Yo st l).2.2/\bk ((aH Yo st l).2.1++Yo) (aH Yo st l).2.2/\(aH Yo st l).2.2.length<=st.2.length+l.length/\(aH Yo st l).2.1.length<=st.1.length+l.length
 |[],st,h,d,_=>⟨h,d,K1 _,K1 _⟩
 |v::l,(cur,pm),h,d,hu=>by
  obtain⟨a1,a2,a3,a4,_,_⟩:=ik h d (hu v (.head _));obtain⟨b1,b2,b3,b4⟩:=jc l (aM Yo (cur,pm) v).2 a1 a2 fun u h=>hu u (.tail _ h);refine⟨b1,b2,?_,?_⟩
  ·show (aH Yo (aM Yo (cur,pm) v).2 l).2.2.length<=_
   refine aa Le ?_;dsimp only at a3⊢;exact L2 [_,_,_,_] V2 (.a V1 (.a V3 W1)) 1 V0 (.a V1 W1) 1 V2 (.a V0 V3) rfl a3 b3
  ·show (aH Yo (aM Yo (cur,pm) v).2 l).2.1.length<=_
   refine aa Le ?_;dsimp only at a4⊢;exact L2 [_,_,_,_] V2 (.a V1 (.a V3 W1)) 1 V0 (.a V1 W1) 1 V2 (.a V0 V3) rfl a4 b4
abbrev NotIn(x:Str)(y:String):Prop:=¬(!(Builtin.Str.occurrences x (Ye y) 0 x.length 1).isEmpty)=true
def bo(x:Str):Prop:=∀ c∈x.cps.toList,c≠38/\c≠60/\c≠62/\c≠34/\c≠9/\c≠10/\c≠13
theorem eo(c:Nat)(e:Ye y=⟨#[c]⟩)(h:c∉x.cps.toList):NotIn x y:=by
 unfold NotIn;exact aa e (aa (StrLaws.found_one _ _) (aa MJ h))
theorem bo.c38(h:bo x):NotIn x "&":=eo 38 (by decide+kernel) fun q=>(h _ q).1 rfl
theorem bo.c60(h:bo x):NotIn x "<":=eo 60 (by decide+kernel) fun q=>(h _ q).2.1 rfl
theorem bo.c62(h:bo x):NotIn x ">":=eo 62 (by decide+kernel) fun q=>(h _ q).2.2.1 rfl
theorem bo.c34(h:bo x):NotIn x "\"":=eo 34 (by decide+kernel) fun q=>(h _ q).2.2.2.1 rfl
theorem bo.c9(h:bo x):NotIn x "\t":=eo 9 (by decide+kernel) fun q=>(h _ q).2.2.2.2.1 rfl
theorem bo.c10(h:bo x):NotIn x "\n":=eo 10 (by decide+kernel) fun q=>(h _ q).2.2.2.2.2.1 rfl
theorem bo.c13(h:bo x):NotIn x "\r":=eo 13 (by decide+kernel) fun q=>(h _ q).2.2.2.2.2.2 rfl
noncomputable def cV:Array Nat:=#[14,4,0,3,4294967295,6,0,24,9,1,4294967295,13,4,8,14,0,1,16,58,24,9,1,4294967295,13,4,8,14,0,1,6,5,1]
theorem oz(i:Nat)(hi:i=11∨i=23)(c:Nat)(seen:Sre.Seen):∃ s',Sre.accepts cV i c seen=.ok (Sre.isWordUni c,s'):=by
 have Qd:∀ i,i=11∨i=23->Sre.accepts cV i c seen=(Sre.category 14 c).bind fun b=>if b=true then .ok (true,((seen.add 8).add 69)) else .ok (false,((seen.add 8).add 69).add 0):=by
  rintro i (rfl|rfl)<;>rfl
 refine aa (Qd i hi) ?_;have e:Sre.category 14 c=.ok (Sre.isWordUni c):=by
  show Except.map (· !=false) (.ok (Sre.isWordUni c))=_;show Except.ok (Sre.isWordUni c !=false)=_
  cases Sre.isWordUni c<;>rfl
 refine aa e ?_
 cases h:Sre.isWordUni c
 ·exact⟨_,rfl⟩
 ·exact⟨_,rfl⟩
theorem xO(T:Array Nat)(i n p f:Nat)(seen:Sre.Seen):Sre.run cV T i (n+1) p f seen=(Sre.accepts cV i (T.getD p 0) seen>>=fun x=>if x.1 then Sre.run cV T i n (p+1) (f+1) x.2 else pure (f,x.2)):=rfl
theorem io(T:Array Nat)(i:Nat)(hi:i=11∨i=23):∀ (k n p f:Nat) (seen:Sre.Seen),k<=n->(∀ q,q<k->Sre.isWordUni (T.getD (p+q) 0)=true)->(k=n∨Sre.isWordUni (T.getD (p+k) 0)=false)->
  ∃ s',Sre.run cV T i n p f seen=.ok (f+k,s')
 |0,0,p,f,seen,_,_,_=>⟨seen,rfl⟩
 |0,n+1,p,f,seen,_,_,h=>by
  rcases h with h|h
  ·cases h
  ·obtain⟨s',e⟩:=oz i hi (T.getD p 0) seen
   refine⟨s',?_⟩;refine aa (xO _ _ _ _ _ _) (aa e ?_);rw[Nat.add_zero] at h;exact aa h rfl
 |k+1,0,_,_,_,h,_,_=>absurd h (OF _)
 |k+1,n+1,p,f,seen,hk,hw,WH=>by
  obtain⟨s',e⟩:=oz i hi (T.getD p 0) seen;have h0:=hw 0 (MR _);rw[Nat.add_zero] at h0;obtain⟨s2,e2⟩:=io T i hi k n (p+1) (f+1) s' (Ph hk) (fun q hq=>by refine aa (show p+1+q=p+(q+1) from LE [_,_] (.a (.a V0 W1) V1) (.a V0 (.a V1 W1)) rfl) ?_;exact hw _ (Po hq)) (WH.imp (fun e=>aS (L1 [_,_] V0 V1 1 (.a V0 W1) (.a V1 W1) rfl (eL e)) (by exact L1 [_,_] V1 V0 1 (.a V1 W1) (.a V0 W1) rfl (eG e))) fun e=>by refine aa (show p+1+k=p+(k+1) from LE [_,_] (.a (.a V0 W1) V1) (.a V0 (.a V1 W1)) rfl) ?_;exact e);refine⟨s2,?_⟩;refine aa (xO _ _ _ _ _ _) (aa e (aa h0 ?_));show Sre.run cV T i n (p+1) (f+1) s'=_;refine aa e2 ?_;exact aa (show f+1+k=f+(k+1) from LE [_,_] (.a (.a V0 W1) V1) (.a V0 (.a V1 W1)) rfl) rfl
open Sre in
theorem wt(m:M){n:Nat}{seen:Sre.Seen}(h:ops[m.word 0]?=some .REPEAT_ONE)(hr:¬((m.word 2:Int)>(m.lim:Int)-m.pos))
  (T1:run m.code m.text (m.pc+4) (min (m.word 3) ((m.lim:Int)-m.pos).toNat) m.pos 0 ((m.seen.add (m.word 0)).add (m.word 4))=.ok (n,seen)):
  m.exec=if n<m.word 2 then({m with seen:=seen}:M).say false else({m with seen:=seen,pos:=m.pos+n}:M).afterRun .giveBack n (m.keep m.inner.isSome):=by
 unfold M.exec;refine aa h ?_;dsimp only;have hw:∀ (s:Sre.Seen) k,({m with seen:=s}:M).word k=m.word k:=fun _ _=>rfl;simp only[hw,Bool.false_eq_true,if_false];exact aa (KO hr) (aa T1 rfl)
noncomputable abbrev av(c0 v1 v2 v3 v4 v5 v6 v7 v8 v9:Nat):Array Nat:=#[107,49,95,c0,58,v1,v2,v3,v4,v5,v6,v7,v8,v9]
def fi(T:Array Nat):Sre.M:=Sre.forMatch cV T 0 0 14 false false
theorem eO(m:Sre.M):∀ a b,m.runFor (a+b)=(m.runFor a).runFor b:=by
 intro a
 induction a generalizing m with
 |zero=>intro b;refine aa (Nn _) ?_;rfl
 |succ a ih=>
  intro b;refine aa (show a+1+b=(a+b)+1 from LE [_,_] (.a (.a V0 W1) V1) (.a (.a V0 V1) W1) rfl) ?_;show (if m.outcome.isSome then m else Sre.M.runFor (a+b) m.step)=(if m.outcome.isSome then m else Sre.M.runFor a m.step).runFor b
  cases h:m.outcome.isSome with
  |true=>
   (rw[KZ rfl];refine aa (KZ rfl) ?_)
   cases b with
   |zero=>rfl
   |succ b=>show m=if m.outcome.isSome then m else _;refine aa h ?_;rfl
  |false=>refine aa (KO KR) (aa (KO KR) ?_);exact ih _ b
def eN(T:Array Nat)(n:Nat)(seen:Sre.Seen):Sre.M:=
 let m:=(fi T).runFor 1
 ({m with seen:=seen,pos:=m.pos+n}:Sre.M).afterRun .giveBack n (m.keep m.inner.isSome)
theorem rm(m:Sre.M){n p:Nat}{l:Nat}{i:Nat}{T:Array Nat}{seen:Sre.Seen}(Wm:m.outcome.isSome=false)(hans:m.answer=none)(hpc':Nat.blt m.pc m.code.size=true)(h:Sre.ops[m.word 0]?=some .REPEAT_ONE)(h2:m.word 2=1)(h3:m.word 3=4294967295)
  (hc:m.code=cV) (hT:m.text=T) (hi:m.pc+4=i) (hp:m.pos=p) (hl:m.lim=14) (hlp:p+l=14) (S5:1<=l)
  (T1:Sre.run cV T i l p 0 ((m.seen.add (m.word 0)).add (m.word 4))=.ok (n,seen)) (k:Nat):
  m.runFor (1+k)=(if n<1 then({m with seen:=seen}:Sre.M).say false else({m with seen:=seen,pos:=m.pos+n}:Sre.M).afterRun .giveBack n (m.keep m.inner.isSome)).runFor k:=by
 have UZ:m.pc<m.code.size:=KC hpc';refine aa (eO _ 1 _) ?_
 congr 1
 show (if m.outcome.isSome then m else Sre.M.runFor 0 m.step)=_;refine aa Wm (aa (KO KR) ?_);show m.step=_;unfold Sre.M.step;refine aa Wm (aa (KO KR) (aa hans ?_));dsimp only;exact aa (KZ UZ) (aa (wt m (n:=n) (seen:=seen) h (by rw[h2,hl,hp];exact EZ hlp S5) (by rw[hc,hT,hi,h3,hp,hl,show min 4294967295 (((14:Nat):Int)-(p:Nat)).toNat=l from E0 hlp S5];exact T1)) (aa h2 (aa hans rfl)))
section
variable(c0 v1 v2 v3 v4 v5 v6 v7 v8 v9:Nat)
theorem rk(n:Nat)(seen:Sre.Seen)(hn:1<=n)(T1:Sre.run cV (av c0 v1 v2 v3 v4 v5 v6 v7 v8 v9) 11 14 0 0 (((((fi (av c0 v1 v2 v3 v4 v5 v6 v7 v8 v9)).runFor 1).seen.add (((fi (av c0 v1 v2 v3 v4 v5 v6 v7 v8 v9)).runFor 1).word 0))).add (((fi (av c0 v1 v2 v3 v4 v5 v6 v7 v8 v9)).runFor 1).word 4))=.ok (n,seen))(k:Nat):
  (fi (av c0 v1 v2 v3 v4 v5 v6 v7 v8 v9)).runFor (2+k)=(eN (av c0 v1 v2 v3 v4 v5 v6 v7 v8 v9) n seen).runFor k:=by
 refine aa (show 2+k=1+(1+k) from LE [_] (.a (.n 2) V0) (.a W1 (.a W1 V0)) rfl) (aa (eO _ 1 _) (aa ((rm ((fi (av c0 v1 v2 v3 v4 v5 v6 v7 v8 v9)).runFor 1) (n:=n) (p:=0) (l:=14) (i:=11) (T:=av c0 v1 v2 v3 v4 v5 v6 v7 v8 v9) (seen:=seen) (by kernel_rfl) (by kernel_rfl) (by kernel_rfl) (by kernel_rfl) (by kernel_rfl) (by kernel_rfl) (by kernel_rfl) (by kernel_rfl) (by kernel_rfl) (by kernel_rfl) (by kernel_rfl) rfl (by decide) T1) _) (aa (KO (MZ.mpr hn)) ?_)));unfold eN
 rfl
def ss(T:Array Nat)(n:Nat)(s1 seen:Sre.Seen):Sre.M:=
 let m:=(eN T 4 s1).runFor 1
 ({m with seen:=seen,pos:=m.pos+n}:Sre.M).afterRun .giveBack n (m.keep m.inner.isSome)
theorem yG(n:Nat)(s1 seen:Sre.Seen)(T1:Sre.run cV (av c0 v1 v2 v3 v4 v5 v6 v7 v8 v9) 23 9 5 0 (((((eN (av c0 v1 v2 v3 v4 v5 v6 v7 v8 v9) 4 s1).runFor 1).seen.add (((eN (av c0 v1 v2 v3 v4 v5 v6 v7 v8 v9) 4 s1).runFor 1).word 0))).add (((eN (av c0 v1 v2 v3 v4 v5 v6 v7 v8 v9) 4 s1).runFor 1).word 4))=.ok (n,seen))(k:Nat):
  (eN (av c0 v1 v2 v3 v4 v5 v6 v7 v8 v9) 4 s1).runFor (2+k)=(if n<1 then({(eN (av c0 v1 v2 v3 v4 v5 v6 v7 v8 v9) 4 s1).runFor 1 with seen:=seen}:Sre.M).say false else ss (av c0 v1 v2 v3 v4 v5 v6 v7 v8 v9) n s1 seen).runFor k:=by
 exact aa (show 2+k=1+(1+k) from LE [_] (.a (.n 2) V0) (.a W1 (.a W1 V0)) rfl) (aa (eO _ 1 _) (aa ((rm ((eN (av c0 v1 v2 v3 v4 v5 v6 v7 v8 v9) 4 s1).runFor 1) (n:=n) (p:=5) (l:=9) (i:=23) (T:=av c0 v1 v2 v3 v4 v5 v6 v7 v8 v9) (seen:=seen) (by kernel_rfl) (by kernel_rfl) (by kernel_rfl) (by kernel_rfl) (by kernel_rfl) (by kernel_rfl) (by kernel_rfl) (by kernel_rfl) (by kernel_rfl) (by kernel_rfl) (by kernel_rfl) rfl (by decide) T1) _) rfl))
noncomputable def dN (m:Sre.M):Option Bool:=match m.outcome with|some .matched=>some true|some .failed=>some false|_=>none
theorem fA(s1:Sre.Seen)(h:c0=45∨c0=63):dN ((eN (av c0 v1 v2 v3 v4 v5 v6 v7 v8 v9) 3 s1).runFor 82)=some false:=by
 rcases h with rfl|rfl<;>kernel_rfl
def gO(c:Nat):Prop:=c=98∨c=99∨c=100∨c=108∨c=112∨c=115
theorem fB(s1 s2:Sre.Seen)(h:gO c0):dN ((({(eN (av c0 v1 v2 v3 v4 v5 v6 v7 v8 v9) 4 s1).runFor 1 with seen:=s2}:Sre.M).say false).runFor 80)=some false:=by
 rcases h with rfl|rfl|rfl|rfl|rfl|rfl<;>kernel_rfl
theorem Eg(s1 s2:Sre.Seen)(h:gO c0):dN ((ss (av c0 v1 v2 v3 v4 v5 v6 v7 v8 45) 8 s1 s2).runFor 80)=some false:=by
 rcases h with rfl|rfl|rfl|rfl|rfl|rfl<;>kernel_rfl
theorem fC(s1 s2:Sre.Seen)(h:gO c0)(n:Nat)(h1:1<=n)(h2:n<=7):dN ((ss (av c0 v1 v2 v3 v4 v5 v6 v7 v8 v9) n s1 s2).runFor 80)=some false:=by
 have:n=1∨n=2∨n=3∨n=4∨n=5∨n=6∨n=7:=EK h1 h2;rcases this with rfl|rfl|rfl|rfl|rfl|rfl|rfl<;>(rcases h with rfl|rfl|rfl|rfl|rfl|rfl<;>kernel_rfl)
theorem fD(s1 s2:Sre.Seen):dN ((ss (av c0 v1 v2 v3 v4 v5 v6 v7 v8 v9) 9 s1 s2).runFor 80)=some true:=by kernel_rfl
end
theorem wx(l:List Nat)(h:∀ v∈l,v=45∨Sre.isWordUni v=true):fJ (fun k=>k<=l.length) (fun k=>(∀ q,q<k->Sre.isWordUni (l.getD q 0)=true)) (fun k=>((k=l.length/\∀ v∈l,v≠45)∨(k<l.length/\l.getD k 0=45))):=by
 have w45:Sre.isWordUni 45=false:=by decide+kernel
 induction l with
 |nil=>exact⟨0,K1 _,fun q hq=>absurd hq (LM _), .inl ⟨rfl,fun _ h=>(nomatch h)⟩⟩
 |cons a l ih=>
  by_cases ha:a=45
  ·exact⟨0,K6 _,fun q hq=>absurd hq (LM _), .inr ⟨MR _,ha⟩⟩
  ·obtain⟨k,h1,h2,h3⟩:=ih fun v hv=>h v (.tail _ hv)
   refine⟨k+1,Mt h1,fun q hq=>?_,?_⟩
   ·cases q with
    |zero=>exact(h a (.head _)).resolve_left ha
    |succ q=>exact h2 q (On hq)
   ·rcases h3 with⟨h3,h4⟩|⟨h3,h4⟩
    ·refine .inl ⟨by refine aa h3 ?_;rfl,fun v hv=>?_⟩
     rcases KI.mp hv with rfl|hv
     ·exact ha
     ·exact h4 v hv
    ·exact .inr ⟨Po h3,h4⟩
theorem AN(h0:(c0=45∨c0=63)∨gO c0)(hv:∀ v∈[v1,v2,v3,v4,v5,v6,v7,v8,v9],v=45∨Sre.isWordUni v=true):
  (dN ((fi (av c0 v1 v2 v3 v4 v5 v6 v7 v8 v9)).runFor 84)=some true/\gO c0/\∀ v∈[v1,v2,v3,v4,v5,v6,v7,v8,v9],v≠45)∨
  (dN ((fi (av c0 v1 v2 v3 v4 v5 v6 v7 v8 v9)).runFor 84)=some false/\¬(gO c0/\∀ v∈[v1,v2,v3,v4,v5,v6,v7,v8,v9],v≠45)):=by
 have w1:Sre.isWordUni 107=true:=by decide+kernel
 have w2:Sre.isWordUni 49=true:=by decide+kernel
 have w3:Sre.isWordUni 95=true:=by decide+kernel
 have w4:Sre.isWordUni 58=false:=by decide+kernel
 rcases h0 with h0|h0
 ·have w0:Sre.isWordUni c0=false:=by rcases h0 with rfl|rfl<;>decide+kernel
  have n6:¬gO c0:=by unfold gO;exact E1 h0
  obtain⟨s1,e1⟩:=io (av c0 v1 v2 v3 v4 v5 v6 v7 v8 v9) 11 (.inl rfl) 3 14 0 0 (((((fi (av c0 v1 v2 v3 v4 v5 v6 v7 v8 v9)).runFor 1).seen.add (((fi (av c0 v1 v2 v3 v4 v5 v6 v7 v8 v9)).runFor 1).word 0))).add (((fi (av c0 v1 v2 v3 v4 v5 v6 v7 v8 v9)).runFor 1).word 4)) (by decide) (fun q hq=>by
   have:q=0∨q=1∨q=2:=BQ hq;rcases this with rfl|rfl|rfl
   ·exact w1
   ·exact w2
   ·exact w3) (.inr w0)
  refine .inr ⟨?_,fun h=>n6 h.1⟩;exact aa (show 84=2+82 by rfl) (aa ((rk c0 v1 v2 v3 v4 v5 v6 v7 v8 v9 3 s1 (by decide) (by simpa using e1)) _) (fA c0 v1 v2 v3 v4 v5 v6 v7 v8 v9 s1 h0))
 ·have w0:Sre.isWordUni c0=true:=by rcases h0 with rfl|rfl|rfl|rfl|rfl|rfl<;>decide+kernel
  obtain⟨s1,e1⟩:=io (av c0 v1 v2 v3 v4 v5 v6 v7 v8 v9) 11 (.inl rfl) 4 14 0 0 (((((fi (av c0 v1 v2 v3 v4 v5 v6 v7 v8 v9)).runFor 1).seen.add (((fi (av c0 v1 v2 v3 v4 v5 v6 v7 v8 v9)).runFor 1).word 0))).add (((fi (av c0 v1 v2 v3 v4 v5 v6 v7 v8 v9)).runFor 1).word 4)) (by decide) (fun q hq=>by
   have:q=0∨q=1∨q=2∨q=3:=EJ hq;rcases this with rfl|rfl|rfl|rfl
   ·exact w1
   ·exact w2
   ·exact w3
   ·exact w0) (.inr w4)
  refine aa (show 84=2+(2+80) by rfl) (aa ((rk c0 v1 v2 v3 v4 v5 v6 v7 v8 v9 4 s1 (by decide) (by simpa using e1)) _) ?_);obtain⟨k,k1,k2,k3⟩:=wx _ hv;have tl:∀ q,(av c0 v1 v2 v3 v4 v5 v6 v7 v8 v9).getD (5+q) 0=[v1,v2,v3,v4,v5,v6,v7,v8,v9].getD q 0:=fun q=>by
   refine aa NI (aa KU ?_);have e:(av c0 v1 v2 v3 v4 v5 v6 v7 v8 v9)[5+q]?=([107,49,95,c0,58]++[v1,v2,v3,v4,v5,v6,v7,v8,v9])[5+q]?:=ae Array.getElem?_toList rfl;refine aa e (aa (LU (by simp)) ?_)
   congr 2
   simp
  have w45:Sre.isWordUni 45=false:=by decide+kernel
  obtain⟨s2,e2⟩:=io (av c0 v1 v2 v3 v4 v5 v6 v7 v8 v9) 23 (.inr rfl) k 9 5 0 (((((eN (av c0 v1 v2 v3 v4 v5 v6 v7 v8 v9) 4 s1).runFor 1).seen.add (((eN (av c0 v1 v2 v3 v4 v5 v6 v7 v8 v9) 4 s1).runFor 1).word 0))).add (((eN (av c0 v1 v2 v3 v4 v5 v6 v7 v8 v9) 4 s1).runFor 1).word 4)) k1 (fun q hq=>by refine aa (tl _) ?_;exact k2 q hq)
   (k3.imp (fun h=>h.1) fun h=>by refine aa (tl _) (aa h.2 ?_);exact w45)
  refine aa ((yG c0 v1 v2 v3 v4 v5 v6 v7 v8 v9 k s1 s2 (by simpa using e2)) _) ?_;rcases k3 with⟨k3,k4⟩|⟨k3,k4⟩
  ·have k9:k=9:=k3
   subst k9;exact .inl ⟨by refine aa (KO (by decide)) ?_;exact fD c0 v1 v2 v3 v4 v5 v6 v7 v8 v9 s1 s2,h0,k4⟩
  ·refine .inr ⟨?_,fun h=>?_⟩
   ·have k9:k<9:=k3
    by_cases UQ:k<1
    ·refine aa (KZ UQ) ?_;exact fB c0 v1 v2 v3 v4 v5 v6 v7 v8 v9 s1 s2 h0
    ·refine aa (KO UQ) ?_
     by_cases hk8:k=8
     ·subst hk8
      have:v9=45:=k4;subst this;exact Eg c0 v1 v2 v3 v4 v5 v6 v7 v8 s1 s2 h0
     ·exact fC c0 v1 v2 v3 v4 v5 v6 v7 v8 v9 s1 s2 h0 k (EP UQ) (EY k9 hk8)
   ·refine h.2 _ ?_ k4
    exact aa KU (aa (KL k3) (M8 _))
theorem gD{α:Type}{env:Addr->Option Obj}{M:Model}{A:Around}{Q:α->Shared->Prop}{E:X8}{s:Shared}(h:∀ a o,env a=some o->s.heap.get? a=some o){r:α}(q:Q r s){t:Sem α}
  (e:(ie env ⟨M.prog,M.w.params⟩ t).map (·.2)=some r):wpAny M A t Q E s:=by
 obtain⟨⟨as,r'⟩,e1,e2⟩:=Lv.mp e
 cases e2;exact lW q e1 fun a _=>h a
section
open Builtin.Re
variable{M:Model}{A:Around}{E:X8}{s:Shared}
theorem lM(h:dN m=some b):m.outcome=some (if b then .matched else .failed):=by
 revert h;unfold dN
 cases m.outcome with
 |none=>intro h;cases h
 |some o=>cases o<;>intro h<;>cases h<;>rfl
theorem nO(m:Sre.M)(h:m.outcome.isSome=true):∀ k,m.runFor k=m
 |0=>rfl
 |k+1=>by show (if m.outcome.isSome then m else _)=m;refine aa h ?_;rfl
theorem pZ:∀ (k:Nat) (n:Nat) (m:Sre.M),k<n->dN (m.runFor (4*k+4))=some b->(∀ m',dN m'=some b->Q m' s)->wpAny M A (reDrive n m) Q E s
 |k,0,_,h,_,_=>absurd h (LM _)
 |k,n+1,m,hk,h,hQ=>by
  show wpAny M A (if (m.runFor 4).outcome.isSome=true then pure (m.runFor 4) else rule "sre.turn">>=fun _=>reDrive n (m.runFor 4)) Q E s
  cases ho:(m.runFor 4).outcome.isSome with
  |true=>
   refine aa (KZ rfl) ?_;refine KE (hQ _ ?_);rw[show 4*k+4=4+4*k from LE [_] (.a (.m 4 V0) (.n 4)) (.a (.n 4) (.m 4 V0)) rfl,eO,nO _ ho] at h;exact h
  |false=>
   refine aa (KO KR) ?_;refine Kz (MC ?_)
   cases k with
   |zero=>
    rw[Nat.mul_zero,Nn] at h;rw[lM h] at ho
    cases ho
   |succ k=>
    refine pZ k n _ (by exact L1 [_,_] (.a V0 W1) V1 1 (.a (.a V0 W1) W1) (.a V1 W1) rfl hk) ?_ hQ;refine ae (eO _ _ _) ?_;rwa [show 4+(4*k+4)=4*(k+1)+4 from LE [_] (.a (.n 4) (.a (.m 4 V0) (.n 4))) (.a (.m 4 (.a V0 W1)) (.n 4)) rfl]
theorem xk(k n:Nat)(hk:k<2^64)(hn:4*k+4=n)(h:dN (m.runFor n)=some b)(hQ:∀ m',Q (if b then some m' else none) s):wpAny M A (reRunToEnd m) Q E s:=by
 unfold reRunToEnd;subst hn;refine Kz (pZ k _ m hk h fun m' hm'=>?_);refine Kz (wpAny_forIn_list _ (fun _ _ s'=>s'=s) _ (fun i rest u s' e=>?_) (fun u s' e=>?_) _ _ rfl)
 ·subst e
  split
  ·exact Kz (MC (KE rfl))
  ·exact KE rfl
 ·subst e
  refine aa (lM hm') ?_
  cases b with
  |true=>exact KE (hQ m')
  |false=>exact KE (hQ m')
end
theorem nM:entryFor table "re.Pattern.match"=some Builtin.«re.Pattern.match»:=OJ (by kernel_rfl)
def nQ(a:Addr):Option Obj:=if a=43 then some Aw else if a=42 then some Av else none
theorem vf(c0 v1 v2 v3 v4 v5 v6 v7 v8 v9:Nat)(tk:Tok)(S:Setting):(ie nQ S (Builtin.Re.reTarget "re.Pattern.match" "match" ⟨[.ref 43, .str ⟨av c0 v1 v2 v3 v4 v5 v6 v7 v8 v9⟩ tk],[]⟩)).map (·.2)=
  some {pattern:= .ref 43,string:= .str ⟨av c0 v1 v2 v3 v4 v5 v6 v7 v8 v9⟩ tk,code:=cV,text:=av c0 v1 v2 v3 v4 v5 v6 v7 v8 v9,kind:=0,groups:=0,pos:=0,lim:=14}:=by kernel_rfl
theorem wZ(x:Str)(tk:Tok)(S:Setting):(ie nQ S (checkBoundCall "re.Pattern.match" ⟨[.ref 43, .str x tk],[]⟩)).map (·.2)=some ():=by kernel_rfl
theorem pU(a:Addr)(vs:Array Value)(S:Setting):∃ k,ie (fun _=>some {cls:= .type "re.Match",data:= .fields vs}) S (truthy (.ref a))=some (List.replicate k a,true):=by
 first
 |exact⟨1,by kernel_rfl!⟩
 |exact⟨2,by kernel_rfl!⟩
 |exact⟨3,by kernel_rfl!⟩
 |exact⟨4,by kernel_rfl!⟩
def kb(x:Str)(b:Bool):Prop:=xm (fun c0 v1 v2 v3 v4 v5 v6 v7 v8 v9=>x=⟨av c0 v1 v2 v3 v4 v5 v6 v7 v8 v9⟩) (fun c0 v1 v2 v3 v4 v5 v6 v7 v8 v9=>dN ((fi (av c0 v1 v2 v3 v4 v5 v6 v7 v8 v9)).runFor 84)=some b)
noncomputable abbrev nV(vs:Array Value):Obj:={cls:= .type "re.Match",data:= .fields vs}
section
variable{A:Around}{E:X8}{s:Shared}{h₀:Heap}{L:Addr}{m:X7}{news:X6}
theorem zw(X:(ao P).In h):∀ a o,nQ a=some o->h.get? a=some o:=fun a o e=>by
 unfold nQ at e
 split at e
 ·cases e;rename_i q;subst q;exact X 43 Aw (by k_is)
 ·split at e
  ·cases e;rename_i q;subst q;exact X 42 Av (by k_is)
  ·cases e
theorem qh(_X:(ao w.params).In h₀)
  (h:wpAny MP A (spliced (backTo pos (starEach [e] env))) (fun vs P1=>(ao w.params).In P1.heap/\wpAny MP A (call (.ref 52) vs) Q E P1) E s)
  (he:starEach [e] env=[(false,eval e env)]:=by rfl):
  wpAny MP A (callWith pos (.ref 52) [] (backTo pos (starEach [e] env)) []) Q E s:=by
 rw[he] at h⊢;exact callWith_of (P:=fun h=>(ao w.params).In h) rfl (fun h hq=>⟨.machine, .inr (.inl rfl),(Looks.ld (part:=none) (hq 52 Ax (by k_is))).andThen .now⟩) (evalArgs_plain h)
theorem yd(F:Fr h₀ L s.heap m)(X:(ao w.params).In h₀)(N:News h₀ L s.heap news)(hx:kb x b)
  (h1:b=true->∀ (a:Nat) h' vs,Fr h₀ L h' m->News h₀ L h' ((a,nV vs)::news)->(∀ p∈news,p.1<a)->Q (.ref a) {s with heap:=h'})
  (h2:b=false->Q .none s):wpAny MP A (call (.ref 52) [.str x tk]) Q E s:=by
 obtain⟨c0,v1,v2,v3,v4,v5,v6,v7,v8,v9,rfl,hr⟩:=hx;have X':=X.keeps F.keep;refine qN (id:="re.Pattern.match") (b:=Builtin.«re.Pattern.match») (self:= .ref 43) (X' 52 Ax (by k_is)) (by decide+kernel) nM (fun Q' E' hQ=>gD (zw X') hQ (wZ _ _ _)) ?_;show wpAny _ _ (Builtin.Re.reTarget "re.Pattern.match" "match" ⟨[.ref 43, .str _ tk],[]⟩>>=fun t=>Builtin.Re.reAnswer t (Sre.forMatch t.code t.text t.groups t.pos t.lim false false)) _ _ _;refine Kz (gD (zw X') ?_ (vf c0 v1 v2 v3 v4 v5 v6 v7 v8 v9 tk _));unfold Builtin.Re.reAnswer;show wpAny _ _ (Builtin.Re.reRunToEnd (fi (av c0 v1 v2 v3 v4 v5 v6 v7 v8 v9))>>=_) _ _ _;refine Kz ?_;have Qd:=fun Q E s=>@xk MP A.in1 E s b Q (fi (av c0 v1 v2 v3 v4 v5 v6 v7 v8 v9)) 20 84 (by decide) rfl hr
 with_reducible refine Qd _ _ _ ?_
 intro m'
 cases b with
 |false=>exact KE ⟨_,rfl,h2 rfl⟩
 |true=>
  show wpAny _ _ (Builtin.Re.reNewMatch _ _ _ _ _ _>>=fun v=>ret v) _ _ _;unfold Builtin.Re.reNewMatch;dsimp only;refine Kz (Kz (LY ?_ (by show (2:Nat)<=sizeLine;decide)));refine LY ?_ (by size_fits);refine KE ⟨_,rfl,?_⟩;exact h1 rfl _ _ _ ((F.push _).push _) (fun p hp=>(KI.mp hp).elim (fun e=>by subst e;exact(NW (F.push _) News.nil _) _ (.head _)) fun hp=>(NW (F.push _) (iM (NW F N _)) _) p (.tail _ hp)) fun p hp=>by
   have:=KQ (N p hp).1;rw[L8];exact LI this
theorem vu(N:News h₀ L s.heap news)(hm:(a,nV vs)∈news)(h:Q true s):wpAny MP A (truthy (.ref a)) Q E s:=by
 obtain⟨k,e⟩:=pU a vs ⟨PR,w.params⟩;exact gE e (fun b hb=>by refine aa (OU hb) ?_;exact(N _ hm).1) h
variable{A₀:Around}{base:Heap}{outer:List Env}{env:Env}{P4:X6}{R:Result->Shared->Prop}{name qual:Str}{params:Arguments}{body:Yd}{scope:Scope}{dV kV doc pm PX ct:Value}{an:Option Addr}{fo:Obj}{f:Addr}{args:Args}{binds:List (Str×Value)}
theorem qg(B:Below A₀ base outer h₀)(F:Fr h₀ L s.heap m)(N:News h₀ L s.heap news)(T0:h₀.NoLimit)(hA:A.frames=some (env::outer))(hf:env.frame=some L)(SG:env.scope.kind=.function)
  (ST:∀ p∈P4,p∈news)
  (ho:s.heap.get? f=some fo) (hd:fo.data=.func (fnX name qual params body scope [] dV kV doc pm an PX ct)) (Q1:s.heap.CodeRec PX qual) (Qc:A.depth<recursionLimit)
  (Qx:BindsTo s (fnX name qual params body scope [] dV kV doc pm an PX ct) args binds)
  (P6:∀ n,∀ x∈binds,scope.names.lookup x.1=some .local∨(scope.names.lookup x.1=some .cell/\((cellsFrom n scope.names []).lookup x.1).isSome=true))
  (RS:((cellsFrom 0 scope.names []).map (·.1)).Nodup)
  (h:∀ g L' h₁ tk cells,Fr h₀ L g m->Fr g L' h₁ (bindL (envOfC qual scope L' f PX).kindOf binds fun _=>none)->News g L' h₁ (cells++P4)->
   CellsAre (bindC (envOfC qual scope L' f PX).kindOf binds fun _=>none) (cellsFrom (L'+1) scope.names []) cells->Below A base (env::outer) g->h₀.StaysIn g->(∀ p∈news,p.1<L')->
   (∀ p∈news,(∀ q∈P4,q.1≠p.1)->g.get? p.1=some p.2)->(∀ p∈P4,g.get? p.1=none)->
   wpAny MP (A.deeper (envOfC qual scope L' f PX)) (execs body (envOfC qual scope L' f PX))
    (fun fl s'=>LeaveK h₀ L m g (fun r s'=>mi news P4 s'.heap->R r s') (match fl with| .ret v=>v|_=> .none) s')
    (fun e s'=>wpAny MP (A.deeper (envOfC qual scope L' f PX)) (leaving (envOfC qual scope L' f PX) e) (fun _ Qj=>R (.error e) Qj) (fun e' Qj=>R (.error e') Qj) s')
    {s with heap:=h₁,toks:=tk})
  (Q2:scope.isCoroutine=false:=by rfl) (QX:scope.isGenerator=false:=by rfl) (hk:scope.kind=.function:=by rfl):codeAny MP A (.call (.ref f) args) R s:=by
 have N':News h₀ L s.heap P4:=fun p hp=>N p (ST p hp);obtain⟨FG,BG,st,lv⟩:=groundX (R:=R) B F N' hA hf SG;have hg:∀ p∈news,(∀ q∈P4,q.1≠p.1)->(hideAll s.heap (P4.map (·.1))).get? p.1=some p.2:=fun p hp hq=>hideAll_get _ (N p hp).1 fun hm=>by
  obtain⟨q,h1,h2⟩:=KK.mp hm;exact hq q h1 h2
 refine codeAny_call_function Qc ho hd Q2 QX rfl Q1 (Qx _ _ _ _ ?_);refine wpAny_newFunctionEnv_cells hk (P6 _) fun env' he s' x=>?_;subst he;refine⟨(T0.keeps F.keep).keeps x.toInCall.keep,codeAny_func ?_⟩;obtain⟨h₁,tk,rfl,_⟩:=x.done;have R1:=x.toInCall.keep;obtain⟨cells,NC,Y⟩:=Cl.news (h₀:=s.heap) (K1 _) fun n c hm=>⟨x.cell n c (lookup_of_mem_nodup (cellsFrom_names scope.names 0 (s.heap.objs.size+1) [] [] rfl▸RS) hm),x.above n c hm⟩;refine K9 (h _ s.heap.objs.size h₁ tk cells FG ⟨x.toInCall.ns,fun b o e=>R1 b o (of_hideAll _ e),Mf (hideAll_size _ _)⟩ (fun p hp=>?_) Y BG st (fun p hp=>KQ (N p hp).1) hg (fun p hp=>hideAll_none _ (KW hp))) (fun fl s' hl=>lv _ _ ?_) fun _ _ y=>y
 ·rcases KM.mp hp with hp|hp
  ·refine⟨(NC p hp).1,(NC p hp).2.1,?_⟩
   cases q:(hideAll s.heap (P4.map (·.1))).get? p.1 with
   |none=>rfl
   |some o=>have:=of_hideAll _ q;rw[(NC p hp).2.2] at this;cases this
  ·exact⟨R1 _ _ (N' p hp).1,K8 (KQ (N' p hp).1),hideAll_none _ (KW hp)⟩
 ·obtain⟨L',m',PZ,F',Vk,k⟩:=hl
  exact⟨L',m',PZ,F',Vk,fun a b=>k a b fun p hp hq=>F'.keep _ _ (hg p hp hq)⟩
variable{mg mb:X7}{Qv:ExcName->Option Value}
theorem kD{K:Frag}{env:Env}{outer:List Env}{R:Result->Shared->Prop}{name qual:Str}{params:Arguments}{body:Yd}{scope:Scope}{dV kV doc pm PX ct oc:Value}{an od:Option Addr}{RN:Array (Option Value)}{f:Addr}{args:Args}{binds:List (Str×Value)}
  (B:Below A₀ base outer h₀) (F:Fr h₀ L s.heap m) (VY:K.In h₀) (N:News h₀ L s.heap news) (T:TT Qv mg mb h₀) (hA:A.frames=some (env::outer)) (hf:env.frame=some L) (SG:env.scope.kind=.function)
  (ST:∀ p∈P4,p∈news)
  (ho:K.lookup f=some ⟨oc,od, .func (fnOf name qual params body scope dV kV doc pm an PX ct),RN⟩) (Q1:codeIn K PX qual=true) (Qc:A.depth<recursionLimit)
  (Qx:BindsTo s (fnOf name qual params body scope dV kV doc pm an PX ct) args binds) (P6:(binds.all fun y=>scope.names.lookup y.1==some .local||scope.names.lookup y.1==some .cell)=true)
  (RS:((cellsFrom 0 scope.names []).map (·.1)).Nodup)
  (h:∀ g L' h₁ tk cells,Fr h₀ L g m->Fr g L' h₁ (bindL (envOfC qual scope L' f PX).kindOf binds fun _=>none)->News g L' h₁ (cells++P4)->
   CellsAre (bindC (envOfC qual scope L' f PX).kindOf binds fun _=>none) (cellsFrom (L'+1) scope.names []) cells->Below A base (env::outer) g->K.In g->TT Qv mg mb g->(∀ p∈news,p.1<L')->
   (∀ p∈news,(∀ q∈P4,q.1≠p.1)->g.get? p.1=some p.2)->(∀ p∈P4,g.get? p.1=none)->
   wpAny MP (A.deeper (envOfC qual scope L' f PX)) (execs body (envOfC qual scope L' f PX))
    (fun fl s'=>LeaveK h₀ L m g (fun r s'=>mi news P4 s'.heap->R r s') (match fl with| .ret v=>v|_=> .none) s')
    (fun e s'=>wpAny MP (A.deeper (envOfC qual scope L' f PX)) (leaving (envOfC qual scope L' f PX) e) (fun _ Qj=>R (.error e) Qj) (fun e' Qj=>R (.error e') Qj) s')
    {s with heap:=h₁,toks:=tk})
  (Q2:scope.isCoroutine=false) (QX:scope.isGenerator=false) (hk:scope.kind=.function):codeAny MP A (.call (.ref f) args) R s:=
 qg B F N T.nolimit hA hf SG ST ((VY.keeps F.keep) _ _ ho) rfl (codeRec_of (VY.keeps F.keep) Q1) Qc Qx (kindsX P6) RS (fun g L' h₁ tk cells FG F' N' Y B' st l hg hn=>h g L' h₁ tk cells FG F' N' Y B' (VY.keeps st) (T.keeps st) l hg hn) Q2 QX hk
noncomputable def cj (mode c p:Int):Int:=c*16+((mode.fdiv (8^p.toNat)).fmod 8).fdiv 2*4+(mode.fdiv (2^(9+p).toNat)).fmod 2+((mode.fdiv (8^p.toNat)).fmod 8).fmod 2*(3-2*(mode.fdiv (2^(9+p).toNat)).fmod 2)
noncomputable def bg (mode:Int):Int:=cj mode (cj mode (cj mode ([1,6,3,1,4,1,2,1,0,1,5,1,7,1,1,1].getD (mode.fdiv 4096).toNat 0) 2) 1) 0
def ey(x:Str)(code p:Int)(t:String):Str:=x++Txt.item (Ye "-r") (((code.fdiv (16^p.toNat)).fmod 16).fdiv 8)++Txt.item (Ye "-w") ((((code.fdiv (16^p.toNat)).fmod 16).fdiv 4).fmod 2)++Txt.item (Ye t) (((code.fdiv (16^p.toNat)).fmod 16).fmod 4)
def ac(code:Int):Str:=ey (ey (ey (Txt.item (Ye "-?bcdlps") (code.fdiv 4096)) code 2 "-Ssx") code 1 "-Ssx") code 0 "-Ttx"
def cG(mode:Int)(tab:List (Int×String)):Str:=((tab.find? fun p=>Builtin.bitAnd mode p.1==p.1).map fun p=>Ye p.2).getD (Ye "-")
def i9(mode:Int)(tab:List (Int×String)):Str:=((tab.find? fun p=>Builtin.bitAnd mode 61440==p.1).map fun p=>Ye p.2).getD (Ye "?")
end
noncomputable def yp:List (Int×String):=[(40960,"l"),(49152,"s"),(32768,"-"),(24576,"b"),(16384,"d"),(8192,"c"),(4096,"p")]
theorem jI(n i:Nat):(Builtin.bitAnd ((n:Nat):Int) ((2^i:Nat):Int)==((2^i:Nat):Int))=decide (n/2^i%2=1):=by
 (refine aa (bitAnd_pp (K7 _) (K7 _)) (aa (La _) (aa (La _) (ae Nat.testBit_eq_decide_div_mod_eq ?_)));rw[M2,Mz,Int.ofNat_inj])
 constructor
 ·intro h
  have q:=congrArg (·.testBit i) h;simpa [OQ,Nat.testBit_two_pow_self] using q
 ·intro h
  refine OD fun j=>?_;refine aa (OQ _ _ _) (aa Nat.testBit_two_pow ?_)
  by_cases e:i=j
  ·subst e;refine aa h ?_;rfl
  ·exact aa (K0 e) (aa (Bool.and_false _) rfl)
theorem xW(n x y:Nat):(Builtin.bitAnd ((n:Nat):Int) ((x|||y:Nat):Int)==((x|||y:Nat):Int))=((Builtin.bitAnd ((n:Nat):Int) ((x:Nat):Int)==((x:Nat):Int))&&(Builtin.bitAnd ((n:Nat):Int) ((y:Nat):Int)==((y:Nat):Int))):=by
 refine aa (bitAnd_pp (K7 _) (K7 _)) (aa (bitAnd_pp (K7 _) (K7 _)) (aa (bitAnd_pp (K7 _) (K7 _)) ?_));simp only[La]
 (rw[M2];refine aa (Ny _ _) ?_)
 simp only[Mz,Int.ofNat_inj]
 constructor
 ·intro h
  constructor<;>refine OD fun i=>?_<;>have q:=congrArg (·.testBit i) h<;>simp only[OQ,Nat.testBit_or] at q⊢<;>revert q<;>cases n.testBit i<;>cases x.testBit i<;>cases y.testBit i<;>simp
 ·rintro⟨h1,h2⟩
  refine OD fun i=>?_;have q1:=congrArg (·.testBit i) h1;have q2:=congrArg (·.testBit i) h2;simp only[OQ,Nat.testBit_or] at q1 q2⊢;revert q1 q2
  cases n.testBit i<;>cases x.testBit i<;>cases y.testBit i<;>simp
theorem jb(n i:Nat)(v:Int)(c:String)(hv:v=((2^i:Nat):Int)):cG n [(v,c)]=if n/2^i%2=1 then Ye c else Ye "-":=by
 subst hv;unfold cG;refine aa MM (aa (jI _ _) ?_)
 by_cases h:n/2^i%2=1
 ·refine aa (KY h) (aa (KZ h) ?_);rfl
 ·refine aa (K0 h) (aa (KO h) ?_);rfl
theorem sk(n i j:Nat)(v a b:Int)(c1 c2 c3:String)(hv:v=((2^i|||2^j:Nat):Int))(ha:a=((2^i:Nat):Int))(hb:b=((2^j:Nat):Int)):cG n [(v,c1),(a,c2),(b,c3)]=
  if n/2^i%2=1 then(if n/2^j%2=1 then Ye c1 else Ye c2) else if n/2^j%2=1 then Ye c3 else Ye "-":=by
 subst hv;subst ha;subst hb;unfold cG;refine aa MM (aa MM (aa MM (aa (xW _ _ _) (aa (jI _ _) (aa (jI _ _) ?_)))))
 by_cases h:n/2^i%2=1
 ·by_cases h':n/2^j%2=1
  ·refine aa (KY h) (aa (KY h') (aa (KZ h) (aa (KZ h') ?_)));rfl
  ·refine aa (KY h) (aa (K0 h') (aa (KZ h) (aa (KO h') ?_)));rfl
 ·by_cases h':n/2^j%2=1
  ·refine aa (K0 h) (aa (KY h') (aa (KO h) (aa (KZ h') ?_)));rfl
  ·refine aa (K0 h) (aa (K0 h') (aa (KO h) (aa (KO h') ?_)));rfl
theorem my(n:Nat)(h:n<65536):Builtin.bitAnd ((n:Nat):Int) 61440=((n/4096*4096:Nat):Int):=by
 refine aa (bitAnd_pp (iX) (iX)) (aa (La _) ?_)
 congr 1
 show n&&& 61440=_;have e:(61440:Nat)=(2^4-1)*2^12:=rfl;refine OD fun i=>?_;refine aa (OQ _ _ _) (aa (show n/4096*4096=(n/2^12)*2^12 from rfl) (aa e ?_));refine ae (Nat.shiftLeft_eq _ _) (ae (Nat.shiftLeft_eq _ _) (aa (Nat.testBit_shiftLeft _) (aa (Nat.testBit_shiftLeft _) (ae (Nat.shiftRight_eq_div_pow _ _) (aa (Nat.testBit_shiftRight _) (aa (Nat.testBit_two_pow_sub_one _ _) ?_))))))
 by_cases hi:12<=i
 ·(refine aa (KY (show i≥12 from hi)) ?_;rw[Bool.true_and,Bool.true_and];refine aa (show 12+(i-12)=i from sA hi) ?_)
  by_cases h4:i-12<4
  ·exact aa (KY h4) (aa (Bool.and_true _) rfl)
  ·refine aa (K0 h4) (aa (Bool.and_false _) ?_)
   symm
   refine Nat.testBit_lt_two_pow (Lb h ?_);exact Nat.pow_le_pow_right (n:=2) (i:=16) (by decide) (Fa h4)
 ·(refine aa (K0 (show¬i≥12 from hi)) ?_;rw[Bool.false_and];exact aa (Bool.false_and _) (aa (Bool.and_false _) rfl))
noncomputable def b7 (r w x s:Nat):Nat:=(2*r+w)*4+s+x*(3-2*s)
theorem eW{r w x s:Nat}(hr:r<2)(hw:w<2)(hx:x<2)(hs:s<2):b7 r w x s<16:=by
 exact(by decide:∀ r,r<2->∀ w,w<2->∀ x,x<2->∀ s,s<2->b7 r w x s<16) r hr w hw x hx s hs
theorem jO{r w x s:Nat}(hr:r<2)(hw:w<2)(hx:x<2)(hs:s<2):
  Txt.item (Ye "-r") (((b7 r w x s:Nat):Int).fdiv 8)=(if r=1 then Ye "r" else Ye "-")/\
  Txt.item (Ye "-w") ((((b7 r w x s:Nat):Int).fdiv 4).fmod 2)=(if w=1 then Ye "w" else Ye "-")/\
  Txt.item (Ye "-Ssx") (((b7 r w x s:Nat):Int).fmod 4)=(if s=1 then(if x=1 then Ye "s" else Ye "S") else if x=1 then Ye "x" else Ye "-")/\
  Txt.item (Ye "-Ttx") (((b7 r w x s:Nat):Int).fmod 4)=(if s=1 then(if x=1 then Ye "t" else Ye "T") else if x=1 then Ye "x" else Ye "-"):=
 (by decide+kernel:∀ r,r<2->∀ w,w<2->∀ x,x<2->∀ s,s<2->(
  Txt.item (Ye "-r") (((b7 r w x s:Nat):Int).fdiv 8)=(if r=1 then Ye "r" else Ye "-")/\
  Txt.item (Ye "-w") ((((b7 r w x s:Nat):Int).fdiv 4).fmod 2)=(if w=1 then Ye "w" else Ye "-")/\
  Txt.item (Ye "-Ssx") (((b7 r w x s:Nat):Int).fmod 4)=(if s=1 then(if x=1 then Ye "s" else Ye "S") else if x=1 then Ye "x" else Ye "-")/\
  Txt.item (Ye "-Ttx") (((b7 r w x s:Nat):Int).fmod 4)=(if s=1 then(if x=1 then Ye "t" else Ye "T") else if x=1 then Ye "x" else Ye "-"))) r hr w hw x hx s hs
theorem jW(n a b:Nat)(c p:Int)(ha:(8:Int)^p.toNat=(a:Nat))(hb:(2:Int)^(9+p).toNat=(b:Nat))(ha0:0<a)(hb0:0<b):
  cj n c p=c*16+((b7 (n/a/4%2) (n/a/2%2) (n/a%2) (n/b%2):Nat):Int):=by
 unfold cj;refine aa ha (aa hb ?_);have f1:((n:Nat):Int).fdiv (a:Nat)=((n/a:Nat):Int):=aa (LK _ (K7 _)) rfl;have f2:((n:Nat):Int).fdiv (b:Nat)=((n/b:Nat):Int):=aa (LK _ (K7 _)) rfl;refine aa f1 (aa f2 ?_);generalize n/a=q;generalize n/b=z;simp only[LK _ (show (0:Int)<=2 by decide),Mp _ (show (0:Int)<=8 by decide),Mp _ (show (0:Int)<=2 by decide)];unfold b7;have h4:q/4%2=q%8/4:=(Nat.mod_mul_right_div_self q 4 2).symm;have h2:q/2%2=q%8/2%2:=by exact aa (show q%8/2=q/2%4 from Nat.mod_mul_right_div_self q 2 4) (aa (Nat.mod_mod_of_dvd _ (by decide)) rfl)
 have h1:q%2=q%8%2:=(Nat.mod_mod_of_dvd _ (by decide)).symm;refine aa h4 (aa h2 (aa h1 (aa (Int.add_assoc _ _ _) (aa (Int.add_assoc _ _ _) ?_))));exact congrArg (c*16+·) ((by decide:∀ f,f<8->∀ s,s<2->(((f:Nat):Int)/2*4+(((s:Nat):Int)+((f:Nat):Int)%2*(3-2*((s:Nat):Int))))=((b7 (f/4) (f/2%2) (f%2) s:Nat):Int)) (q%8) (Ma _ (by decide)) (z%2) (Ma _ (by decide)))
noncomputable def jP (k:Nat):Nat:=[1,6,3,1,4,1,2,1,0,1,5,1,7,1,1,1].getD k 0
theorem jt(n:Nat)(h:n<65536):bg n=((((jP (n/4096)*16+b7 (n/256%2) (n/128%2) (n/64%2) (n/2048%2))*16+b7 (n/32%2) (n/16%2) (n/8%2) (n/1024%2))*16+b7 (n/4%2) (n/2%2) (n%2) (n/512%2):Nat):Int):=by
 unfold bg;refine aa (jW n 1 512 _ 0 rfl rfl (by decide) (by decide)) (aa (jW n 8 1024 _ 1 rfl rfl (by decide) (by decide)) (aa (jW n 64 2048 _ 2 rfl rfl (by decide) (by decide)) ?_));have f1:((n:Nat):Int).fdiv 4096=((n/4096:Nat):Int):=aa (LK _ (by decide)) rfl;have hk:([1,6,3,1,4,1,2,1,0,1,5,1,7,1,1,1]:Yc).getD (((n:Nat):Int).fdiv 4096).toNat 0=((jP (n/4096):Nat):Int):=by
  refine aa f1 (aa (La _) ?_);exact(by decide:∀ k,k<16->([1,6,3,1,4,1,2,1,0,1,5,1,7,1,1,1]:Yc).getD k 0=((jP k:Nat):Int)) _ (Mq h)
 refine aa hk ?_;simp only[M5,Nat.div_one,Nat.reduceMul]
 push_cast
 rfl
theorem uy(k:Nat)(h:k<16):Txt.item (Ye "-?bcdlps") ((jP k:Nat):Int)=((yp.find? fun p=>((k*4096:Nat):Int)==p.1).map fun p=>Ye p.2).getD (Ye "?"):=
 (by decide+kernel:∀ k,k<16->Txt.item (Ye "-?bcdlps") ((jP k:Nat):Int)=((yp.find? fun p=>((k*4096:Nat):Int)==p.1).map fun p=>Ye p.2).getD (Ye "?")) k h
theorem kY(k f2 f1 f0:Nat)(h2:f2<16)(h1:f1<16)(h0:f0<16):ac ((((k*16+f2)*16+f1)*16+f0:Nat):Int)=
  Txt.item (Ye "-?bcdlps") ((k:Nat):Int)++Txt.item (Ye "-r") (((f2:Nat):Int).fdiv 8)++Txt.item (Ye "-w") ((((f2:Nat):Int).fdiv 4).fmod 2)++Txt.item (Ye "-Ssx") (((f2:Nat):Int).fmod 4)
   ++Txt.item (Ye "-r") (((f1:Nat):Int).fdiv 8)++Txt.item (Ye "-w") ((((f1:Nat):Int).fdiv 4).fmod 2)++Txt.item (Ye "-Ssx") (((f1:Nat):Int).fmod 4)
   ++Txt.item (Ye "-r") (((f0:Nat):Int).fdiv 8)++Txt.item (Ye "-w") ((((f0:Nat):Int).fdiv 4).fmod 2)++Txt.item (Ye "-Ttx") (((f0:Nat):Int).fmod 4):=by
 unfold ac ey;have d:∀ (x:Nat) (y:Nat),0<y->((x:Nat):Int).fdiv ((y:Nat):Int)=((x/y:Nat):Int):=fun x y _=>aa (LK _ (K7 _)) rfl;have m:∀ (x:Nat) (y:Nat),((x:Nat):Int).fmod ((y:Nat):Int)=((x%y:Nat):Int):=fun x y=>aa (Mp _ (K7 _)) rfl;have a:∀ x f:Nat,f<16->(x*16+f)/16=x:=fun x f h=>by exact aa (Nat.mul_comm _ _) (aa ((Nat.mul_add_div (by decide)) _ _) (aa (Nat.div_eq_of_lt h) (aa (Nat.add_zero _) rfl)))
 have b:∀ x f:Nat,f<16->(x*16+f)%16=f:=fun x f h=>by exact aa (Nat.mul_comm _ _) (aa (Nat.mul_add_mod _ _ _) (aa (Nat.mod_eq_of_lt h) rfl))
 have n1:=a ((k*16+f2)*16+f1) f0 h0;have n2:(((k*16+f2)*16+f1)*16+f0)/256=k*16+f2:=by exact aa (show 256=16*16 from rfl) (ae (M5 _ _ _) (aa n1 (aa (a _ _ h1) rfl)))
 have n3:(((k*16+f2)*16+f1)*16+f0)/4096=k:=by exact aa (show 4096=256*16 from rfl) (ae (M5 _ _ _) (aa n2 (aa (a _ _ h2) rfl)))
 have m0:=b ((k*16+f2)*16+f1) f0 h0;have m1:(((k*16+f2)*16+f1)*16+f0)/16%16=f1:=by exact aa n1 (aa (b _ _ h1) rfl)
 have m2:(((k*16+f2)*16+f1)*16+f0)/256%16=f2:=by exact aa n2 (aa (b _ _ h2) rfl)
 generalize ((k*16+f2)*16+f1)*16+f0=n at n3 m0 m1 m2;have e4:((n:Nat):Int).fdiv 4096=((k:Nat):Int):=by exact aa (show (4096:Int)=((4096:Nat):Int) from rfl) (aa (d _ _ (by decide)) (aa n3 rfl))
 have e2:(((n:Nat):Int).fdiv (16^(2:Int).toNat)).fmod 16=((f2:Nat):Int):=by exact aa (show (16:Int)^(2:Int).toNat=((256:Nat):Int) from rfl) (aa (d _ _ (by decide)) (aa (show (16:Int)=((16:Nat):Int) from rfl) (aa (m _ _) (aa m2 rfl))))
 have e1:(((n:Nat):Int).fdiv (16^(1:Int).toNat)).fmod 16=((f1:Nat):Int):=by exact aa (show (16:Int)^(1:Int).toNat=((16:Nat):Int) from rfl) (aa (d _ _ (by decide)) (aa (show (16:Int)=((16:Nat):Int) from rfl) (aa (m _ _) (aa m1 rfl))))
 have e0:(((n:Nat):Int).fdiv (16^(0:Int).toNat)).fmod 16=((f0:Nat):Int):=by exact aa (show (16:Int)^(0:Int).toNat=((1:Nat):Int) from rfl) (aa (d _ _ (by decide)) (aa (show (16:Int)=((16:Nat):Int) from rfl) (aa (m _ _) (aa (Nat.div_one _) (aa m0 rfl)))))
 exact aa e4 (aa e2 (aa e1 (aa e0 rfl)))
def aP(mode:Int):Str:=i9 mode yp++cG mode [(256,"r")]++cG mode [(128,"w")]++cG mode [(2112,"s"),(2048,"S"),(64,"x")]++cG mode [(32,"r")]++cG mode [(16,"w")]++cG mode [(1032,"s"),(1024,"S"),(8,"x")]++cG mode [(4,"r")]++cG mode [(2,"w")]++cG mode [(513,"t"),(512,"T"),(1,"x")]
theorem um(n:Nat)(h:n<65536):aP n=ac (bg n):=by
 have b:∀ x:Nat,x%2<2:=fun x=>Ma _ (by decide);obtain⟨a1,a2,a3,_⟩:=jO (b (n/256)) (b (n/128)) (b (n/64)) (b (n/2048));obtain⟨c1,c2,c3,_⟩:=jO (b (n/32)) (b (n/16)) (b (n/8)) (b (n/1024));obtain⟨d1,d2,_,d4⟩:=jO (b (n/4)) (b (n/2)) (b n) (b (n/512));refine aa (jt n h) (aa (kY _ _ _ _ (eW (b _) (b _) (b _) (b _)) (eW (b _) (b _) (b _) (b _)) (eW (b _) (b _) (b _) (b _))) (aa a1 (aa a2 (aa a3 (aa c1 (aa c2 (aa c3 (aa d1 (aa d2 (aa d4 (aa (uy _ (hD h)) ?_)))))))))));unfold aP;refine aa (jb n 8 256 "r" rfl) (aa (jb n 7 128 "w" rfl) (aa (sk n 11 6 2112 2048 64 "s" "S" "x" rfl rfl rfl) (aa (jb n 5 32 "r" rfl) (aa (jb n 4 16 "w" rfl) (aa (sk n 10 3 1032 1024 8 "s" "S" "x" rfl rfl rfl) (aa (jb n 2 4 "r" rfl) (aa (jb n 1 2 "w" rfl) (aa (sk n 9 0 513 512 1 "t" "T" "x" rfl rfl rfl) ?_))))))));unfold i9;refine aa (my n h) ?_;simp only[Nat.reducePow,Nat.div_one]
noncomputable abbrev cS (it:Addr) (i:Int) (SL:Value):Obj:={cls:= .type "enumerate",dict:=none,data:= .fields #[.none, .bool false, .ref it,rawInt i, .none,SL],slots:=#[]}
theorem rV{prog:Program}{w:World}{A:Around}{E:X8}{s:Shared}{cls:Value}{Q:Bool->Shared->Prop}(h:∀ b,Q b s):wpAny (model prog w) A (Builtin.SmallTypes.calledThroughType cls) Q E s:=by
 unfold Builtin.SmallTypes.calledThroughType;exact Kz (wpAny_stack_any fun st=>KE (h _))
theorem qu(l:Addr)(items:Array Value)(n:Nat):
  Meets (Builtin.«enumerate.__new__» ⟨[.type "enumerate", .ref l],[]⟩) (fun _ R s=>s.heap.get? l=some {cls:= .type "tuple",dict:=none,data:= .seq items n,slots:=#[]}/\
   R (.ok (.ret (.ref (s.heap.push {cls:= .type "tuple_iterator",data:= .fields #[.ref l, .int 0 0]}).objs.size)))
    {s with heap:=(s.heap.push {cls:= .type "tuple_iterator",data:= .fields #[.ref l, .int 0 0]}).push {cls:= .type "enumerate",data:= .fields #[.none, .bool false, .ref s.heap.objs.size,rawInt 0, .none, .none]}}):=
 .of_wp fun prog w A R s h=>by
  obtain⟨hp,g,d,tk,os⟩:=s;obtain⟨hl,h⟩:=h;have VK:=sub_enumerate;have hL:Heap.IsTuple (Shared.heap ⟨hp,g,d,tk,os⟩) l items:=⟨_,hl,rfl,n,rfl⟩
  wp_walk using OS hl,rV
  intro b
  cases b
  ·wp_walk using OS hl,wpAny_pyIter_tuple hL
   exact⟨_,rfl,h⟩
  ·wp_walk using OS hl,wpAny_pyIter_tuple hL
   exact⟨_,rfl,h⟩
section
variable{A:Around}{E:X8}{s:Shared}
theorem sg{it l:Addr}{i:Nat}{items:Array Value}{x:Value}{Q:X8}(QG:s.heap.IsTupleIter it l i)(ht:s.heap.IsTuple l items)(hx:items[i]?=some x)
  (hQ:∀ h',h'.IsTupleIter it l (i+1)->Heap.SameBut it s.heap h'->Q x {s with heap:=h'}):wpAny MP A (Builtin.SmallTypes.nextOf (.ref it)) Q E s:=by
 obtain⟨oi,g1,g2,g3⟩:=id QG;obtain⟨ot,k1,_,nt,k2⟩:=ht;unfold Builtin.SmallTypes.nextOf;refine Kz (Mo (name:=Ye "__next__") QG.typeIs NR
  (LS NR QG.typeIs F.entry_tuple_iterator_next ?_ (F.args_tuple_iterator_next_1 _)))
 show wpAny _ _ (field (.ref it) 0>>=_) _ _ s;refine Kz (Mg g1 g3 (x:= .ref l) rfl ?_);show wpAny _ _ (if (Value.ref l==Value.none)=true then _ else _) _ _ s;refine aa (KO (show¬((Value.ref l==Value.none)=true) from KR)) ?_;show wpAny _ _ (field (.ref it) 1>>=_) _ _ s;refine Kz (Mg g1 g3 (x:= .int i 0) rfl ?_);show wpAny _ _ (seqItems? (.ref l)>>=_) _ _ s;refine Kz (NZ k1 k2 ?_);simp only[La,hx];refine Kz (O5 g1 g3 (by simp) (KE ⟨x,rfl,KE (hQ _ ?_ (Lp ..))⟩));exact⟨_,MO _ g1 (Ow (NN g3 _)),(Obj.cls_mapFields ..).trans g2,by refine aa (NN g3 _) ?_;simp[rawInt]⟩
theorem uS{it l:Addr}{i:Nat}{items:Array Value}{Q:X8}(hh:A.handled=none)(QG:s.heap.IsTupleIter it l i)(ht:s.heap.IsTuple l items)(hx:items[i]?=none)
  (hE:∀ h' e,Heap.ExtBut it s.heap h'->(aO (fun o=>h'.get? e=some o) (fun o=>o.cls=.type "StopIteration"))->E (.ref e) {s with heap:=h'}):wpAny MP A (Builtin.SmallTypes.nextOf (.ref it)) Q E s:=by
 obtain⟨oi,g1,g2,g3⟩:=id QG;obtain⟨ot,k1,_,nt,k2⟩:=ht;unfold Builtin.SmallTypes.nextOf;refine Kz (Mo (name:=Ye "__next__") QG.typeIs NR
  (LS NR QG.typeIs F.entry_tuple_iterator_next ?_ (F.args_tuple_iterator_next_1 _)))
 show wpAny _ _ (field (.ref it) 0>>=_) _ _ s;refine Kz (Mg g1 g3 (x:= .ref l) rfl ?_);show wpAny _ _ (if (Value.ref l==Value.none)=true then _ else _) _ _ s;refine aa (KO (show¬((Value.ref l==Value.none)=true) from KR)) ?_;show wpAny _ _ (field (.ref it) 1>>=_) _ _ s;refine Kz (Mg g1 g3 (x:= .int i 0) rfl ?_);show wpAny _ _ (seqItems? (.ref l)>>=_) _ _ s;refine Kz (NZ k1 k2 ?_);simp only[La,hx];refine Kz (MC (Kz (O5 g1 g3 (by simp) ?_)));refine ft hh ?_;exact hE _ _ (((Lp ..).extBut.push _).push _) ⟨_,Lc _ rfl,rfl⟩
theorem rX{e it l:Addr}{i:Nat}{items:Array Value}{x SL:Value}{Q:Option Value->Shared->Prop}(he:IsEnum s.heap e it i SL)(QG:s.heap.IsTupleIter it l i)(ht:s.heap.IsTuple l items)(hx:items[i]?=some x)(P5:e≠it)
  (hQ:∀ a h',IsEnumOut h' e it ((i:Int)+1) x a->h'.IsTupleIter it l (i+1)->(∃ t,h'.get? a=some {cls:= .type "tuple",data:= .seq #[.int i t,x]})->s.heap.objs.size<=a->
   (∀ b o,b≠e->b≠it->s.heap.get? b=some o->h'.get? b=some o)->Q (some (.ref a)) {s with heap:=h',toks:=s.toks+1}):
  wpAny MP A (pyNext (.ref e)) Q E s:=by
 have hT:s.TypeIs (.ref e) "enumerate":=⟨_,he,rfl⟩;unfold pyNext;refine Kz (Nw (Mo (name:=Ye "__next__") hT Os (LS Os hT F.entry_enumerate_next ?_ (F.args_enumerate_next_1 _))));obtain⟨hp,g,d,tk,os⟩:=s;show wpAny _ _ (field (.ref e) 2>>=_) _ _ _;refine Kz (Mg he rfl (x:= .ref it) rfl ?_);refine Kz (sg QG ht hx fun h₁ Wj U4=>?_);replace U4:Heap.SameBut it hp h₁:=U4;have W7:IsEnum h₁ e it i SL:=(U4.2 e P5).trans he;show wpAny _ _ (field (.ref e) 3>>=_) _ _ ⟨h₁,g,d,tk,os⟩;refine Kz (Mg W7 rfl (x:=rawInt i) rfl ?_);show wpAny _ _ (field (.ref e) 4>>=_) _ _ ⟨h₁,g,d,tk,os⟩;refine Kz (Mg W7 rfl (x:= .none) rfl ?_);show wpAny _ _ (mkInt i>>=_) _ _ ⟨h₁,g,d,tk,os⟩;refine Kz (wpAny_mkInt ?_);show wpAny _ _ (setField (.ref e) 3 (rawInt ((i:Int)+1))>>=_) _ _ ⟨h₁,g,d,tk+1,os⟩;refine Kz (Ol W7 (by simp) fun Sa W8 S9=>?_);replace S9:Heap.SameBut e h₁ Sa:=S9;replace W8:IsEnum Sa e it ((i:Int)+1) SL:=W8;show wpAny _ _ (setField (.ref e) 4 .none>>=_) _ _ ⟨Sa,g,d,tk+1,os⟩;refine Kz (Ol W8 (by simp) fun Se W9 V9=>?_);replace V9:Heap.SameBut e Sa Se:=V9;replace W9:IsEnum Se e it ((i:Int)+1) SL:=W9;show wpAny _ _ (newTuple [.int i tk,x]>>=_) _ _ ⟨Se,g,d,tk+1,os⟩;refine Kz (wpAny_newTuple ?_);have keep:∀ b o,b≠e->b≠it->hp.get? b=some o->Se.get? b=some o:=fun b o hb RZ q=>V9.extBut b o hb (S9.extBut b o hb (U4.extBut b o RZ q));have size:hp.objs.size=Se.objs.size:=by exact aa V9.1 (aa S9.1 (aa U4.1 rfl))
 have XU:Se.IsTupleIter it l (i+1):=(Wj.at fun o q=>S9.extBut it o (MH P5) q).at fun o q=>V9.extBut it o (MH P5) q;clear W8 S9 W7 U4 Wj V9 Sa h₁;have Xu:IsEnum (Se.push {cls:= .type "tuple",data:= .seq #[.int i tk,x]}) e it ((i:Int)+1) SL:=KN _ W9;have ht₄:(Se.push {cls:= .type "tuple",data:= .seq #[.int i tk,x]}).get? Se.objs.size=some {cls:= .type "tuple",data:= .seq #[.int i tk,x]}:=Lc _ rfl;have XV:(Se.push {cls:= .type "tuple",data:= .seq #[.int i tk,x]}).IsTupleIter it l (i+1):=XU.at fun o q=>KN _ q;have XH:∀ b o,b≠e->b≠it->hp.get? b=some o->(Se.push {cls:= .type "tuple",data:= .seq #[.int i tk,x]}).get? b=some o:=fun b o hb RZ q=>KN _ (keep b o hb RZ q);have Uj:e<Se.objs.size:=KQ W9;generalize Se.objs.size=a at*;generalize Se.push {cls:= .type "tuple",data:= .seq #[.int i tk,x]}=R5 at*;show wpAny _ _ (Builtin.SmallTypes.ownedTupleIsFree (.ref e)>>=_) _ _ ⟨R5,g,d,tk+1,os⟩;refine Kz ?_;unfold Builtin.SmallTypes.ownedTupleIsFree;refine Kz (Mg Xu rfl (x:= .none) rfl (KE ?_));simp only[if_true];refine Kz (MC ?_);refine Kz (Mg Xu rfl (x:=SL) rfl ?_);refine Kz (Ol Xu (by simp) fun Xk Xv Xy=>?_);replace Xy:Heap.SameBut e R5 Xk:=Xy;replace Xv:IsEnum Xk e it ((i:Int)+1) x:=Xv;show wpAny _ _ (Builtin.SmallTypes.ownedTupleHandOut (.ref e) (.ref a)>>=_) _ _ ⟨Xk,g,d,tk+1,os⟩;refine Kz ?_;unfold Builtin.SmallTypes.ownedTupleHandOut;refine Kz (Ol Xv (by simp) fun XW Xw Xz=>?_);replace Xz:Heap.SameBut e Xk XW:=Xz;replace Xw:IsEnumOut XW e it ((i:Int)+1) x a:=Xw;refine Ol Xw (by simp) fun XF Xx XA=>?_;replace XA:Heap.SameBut e XW XF:=XA;replace Xx:IsEnumOut XF e it ((i:Int)+1) x a:=Xx;have k7:∀ b o,b≠e->R5.get? b=some o->XF.get? b=some o:=fun b o hb q=>XA.extBut b o hb (Xz.extBut b o hb (Xy.extBut b o hb q));exact Kz (wpAny_letGo (KE ⟨_,rfl,KE (hQ a XF Xx (XV.at fun o q=>k7 it o (MH P5) q) ⟨tk,k7 a _ (Mi Uj) ht₄⟩ (Mf size) fun b o hb RZ q=>k7 b o hb (XH b o hb RZ q))⟩))
theorem uh{e it l:Addr}{i:Nat}{items:Array Value}{SL:Value}{Q:Option Value->Shared->Prop}(hh:A.handled=none)(he:IsEnum s.heap e it i SL)(QG:s.heap.IsTupleIter it l i)(ht:s.heap.IsTuple l items)(hx:items[i]?=none)
  (hQ:∀ h',Heap.ExtBut it s.heap h'->Q none {s with heap:=h'}):wpAny MP A (pyNext (.ref e)) Q E s:=by
 have hT:s.TypeIs (.ref e) "enumerate":=⟨_,he,rfl⟩;unfold pyNext;refine Kz (Nw (Mo (name:=Ye "__next__") hT Os (LS Os hT F.entry_enumerate_next ?_ (F.args_enumerate_next_1 _))));show wpAny _ _ (field (.ref e) 2>>=_) _ _ _;refine Kz (Mg he rfl (x:= .ref it) rfl ?_);refine Kz (uS hh QG ht hx fun h' x k ⟨o,ho,hc⟩=>?_);exact Kz (NG (T:="StopIteration") (b:=true) ⟨o,ho,hc⟩ isSubtype_stop (KE (hQ _ k)))
theorem rS{l:Addr}{items:Array Value}{n:Nat}{Q:X8}(hl:s.heap.get? l=some {cls:= .type "tuple",dict:=none,data:= .seq items n,slots:=#[]})
  (h:∀ h',IsEnum h' (s.heap.objs.size+1) s.heap.objs.size 0 .none->h'.IsTupleIter s.heap.objs.size l 0->(∀ b o,s.heap.get? b=some o->h'.get? b=some o)->Q (.ref (s.heap.objs.size+1)) {s with heap:=h'}):
  wpAny MP A (call (.type "enumerate") [.ref l]) Q E s:=by
 refine callType_new F.called_enumerate (by decide) (F.typeCall_enumerate_1 _) (F.newCall_enumerate_1 _) (fun obj=>F.args_object_init_2 obj _) F.entry_enumerate_new (qu l items n) ⟨hl,?_⟩;have hz:(s.heap.push {cls:= .type "tuple_iterator",data:= .fields #[.ref l, .int 0 0]}).objs.size=s.heap.objs.size+1:=L8 ..;show _/\_;refine aa hz ?_;have he:IsEnum ((s.heap.push {cls:= .type "tuple_iterator",data:= .fields #[.ref l, .int 0 0]}).push {cls:= .type "enumerate",data:= .fields #[.none, .bool false, .ref s.heap.objs.size,rawInt 0, .none, .none]}) (s.heap.objs.size+1) s.heap.objs.size 0 .none:=by
  have:=Lc (s.heap.push {cls:= .type "tuple_iterator",data:= .fields #[.ref l, .int 0 0]}) (o:={cls:= .type "enumerate",data:= .fields #[.none, .bool false, .ref s.heap.objs.size,rawInt 0, .none, .none]}) rfl;rw[hz] at this;exact this
 exact⟨⟨_,he,rfl⟩,h _ he ⟨_,KN _ (Lc _ rfl),rfl,rfl⟩ fun b o x=>KN _ (KN _ x)⟩
def zF(h₀:Heap)(L':Addr)(I:Addr)(oI:Obj)(J:X7->X6->Prop)(os:OsState)(G:Array GenState->Drawn->Prop)(Q:Flow->Shared->Prop)(f:Flow)(s':Shared):Prop:=
 match f with
 | .next| .cont=>iy (fun m' PZ=>Fr h₀ L' s'.heap m') (fun _ PZ=>News h₀ L' s'.heap ((I,oI)::PZ)) (fun m' PZ=>J m' PZ) (fun _ _=>G s'.gens s'.drawn) (fun _ _=>s'.os=os)
 | .brk=>Q .next s'
 | .ret v=>Q (.ret v) s'
inductive i6(A:Around)(h₀:Heap)(env:Env)(PO:X9)(body orelse:Yd)(Q:Flow->Shared->Prop)(E:X8)(it:Value)(P1:Shared):Prop
 |mk (G:Array GenState->Drawn->Prop) (I:Addr) (fp:List Addr) (n:Nat) (P:Nat->Value->Prop) (St:Nat->Heap->Prop) (src:Addr->Obj) (J:Nat->X7->X6->Prop) (m:X7) (news:X6) (oI:Obj):it=.ref I->Walks PR w A I fp [I] n P St->St 0 P1.heap->env.locals≠I->h₀.get? I=none->Fr h₀ env.locals P1.heap m->News h₀ env.locals P1.heap ((I,oI)::news)->G P1.gens P1.drawn->J 0 m news->(∀ j m news,J j m news->(∀ p∈news,p.1≠I)/\∀ b∈fp,b≠I->(b,src b)∈news∨h₀.get? b=some (src b))->(∀ i h,St i h->∃ o,h.get? I=some o)->(∀ i (s':Shared) v (Q':Unit->Shared->Prop),St i s'.heap->Q' () s'->wpAny MP A (letOwnedTupleGo PO (.ref I) v) Q' E s')->(∀ i v SJ Rf (oI:Obj) h g d tk,i<n->P i v->J i SJ Rf->G g d->Fr h₀ env.locals h SJ->News h₀ env.locals h ((I,oI)::Rf)->
   wpAny MP A (assign PO env v) (fun _ TG=>wpAny MP A (execs body env) (zF h₀ env.locals I oI (J (i+1)) P1.os G Q) E TG) E ⟨h,g,d,tk,P1.os⟩)->(∀ h g d tk SJ Rf,J n SJ Rf->G g d->Fr h₀ env.locals h SJ->News h₀ env.locals h Rf->wpAny MP A (execs orelse env) Q E ⟨h,g,d,tk,P1.os⟩)->i6 A h₀ env PO body orelse Q E it P1
theorem zv(_F:Fr h₀ env.locals s.heap X4)
  (h:wpAny MP A (eval iter env) (fun xv P1=>wpAny MP A (pyIter xv) (fun it QU=>i6 A h₀ env PO body orelse Q E it QU) E P1) E s)
  (hs:∀ x,foldedSetIterable iter env x=pure x:=by intro _;rfl) (hE:PassesOwn MP A env E:=by passes_own):
  wpAny MP A (exec (.For PO iter body orelse pos) env) Q E s:=by
 refine wpAny_For (K9 h (fun xv P1 h₁=>K9 h₁ (fun it QU Sa=>?_) fun _ _ e=>e) fun _ _ e=>e) hs;obtain⟨G,I,fp,n,P,St,src,J,m,news,oI,rfl,W,hst,hLI,hI0,F,N,QE,Te,RF,hex,hgo,step,last⟩:=Sa;refine codeAny_forLoop_any (I:=fun k s=>md (fun j m news oI=>j<=n) (fun j _ _ _=>k=n-j) (fun j _ _ _=>St j s.heap) (fun _ m _ _=>Fr h₀ env.locals s.heap m) (fun _ _ news oI=>News h₀ env.locals s.heap ((I,oI)::news)) (fun _ _ _ _=>G s.gens s.drawn) (fun j m news _=>J j m news) (fun _ _ _ _=>s.os=QU.os)) (fun k s hI=>?_) n ⟨0,m,news,oI,K6 _,s0,hst,F,N,QE,Te,rfl⟩;obtain⟨j,m,news,oI,hj,rfl,hst,F,N,QE,hJ,Rv⟩:=hI;have Sv:∀ h',(∀ b o,b∉[I]->s.heap.get? b=some o->h'.get? b=some o)->Fr h₀ env.locals h' m:=fun h' hk=>
  ⟨F.ns.at' fun o e=>hk _ o (by simpa using hLI) e,fun b o e=>hk b o (by simp;rintro rfl;rw[hI0] at e;cases e) (F.keep b o e),F.above⟩
 have Sw:∀ h',(∀ b o,b∉[I]->s.heap.get? b=some o->h'.get? b=some o)->News h₀ env.locals h' news:=fun h' hk p hp=>
  ⟨hk _ _ (by simpa using(RF j m news hJ).1 p hp) (N p (.tail _ hp)).1,(N p (.tail _ hp)).2⟩
 rcases M6 j n with PW|hge
 ·refine W.item j s _ _ PW hst fun v h' tk hv T4 hk=>?_
  have F':=Sv h' hk;have N':=Sw h' hk;obtain⟨o',Ru⟩:=hex _ _ T4;have Vk:News h₀ env.locals h' ((I,o')::news):=fun p hp=>by
   rcases KI.mp hp with rfl|hp
   ·exact⟨Ru,MH hLI,hI0⟩
   ·exact N' p hp
  refine hgo (j+1) ⟨h',s.gens,s.drawn,tk,s.os⟩ v _ T4 ?_|>fun x=>K9 x (fun _ _ y=>y) fun _ _ e=>hE _ _ e;have st:=step j v m news o' h' s.gens s.drawn tk PW hv hJ QE F' Vk;rw[←Rv] at st;refine K9 st (fun _ TG Se=>K9 Se (fun f Ri R5=>?_) fun _ _ e=>hE _ _ e) fun _ _ e=>hE _ _ e;have VV:∀ h m news j,J j m news->Fr h₀ env.locals h m->News h₀ env.locals h news->∀ b∈fp,b≠I->h.get? b=some (src b):=fun h m news j hJ F N b hb QJ=>by
   rcases(RF j m news hJ).2 b hb QJ with q|q
   ·exact(N _ q).1
   ·exact F.keep _ _ q
  have Sg:(iy (fun m' PZ=>Fr h₀ env.locals Ri.heap m') (fun _ PZ=>News h₀ env.locals Ri.heap ((I,o')::PZ)) (fun m' PZ=>J (j+1) m' PZ) (fun _ _=>G Ri.gens Ri.drawn) (fun _ _=>Ri.os=s.os))->
    ∃ k,k<n-j/\md (fun j m news oI=>j<=n) (fun j _ _ _=>k=n-j) (fun j _ _ _=>St j Ri.heap) (fun _ m _ _=>Fr h₀ env.locals Ri.heap m) (fun _ _ news oI=>News h₀ env.locals Ri.heap ((I,oI)::news)) (fun _ _ _ _=>G Ri.gens Ri.drawn) (fun j m news _=>J j m news) (fun _ _ _ _=>Ri.os=QU.os):=by
   rintro⟨m',PZ,F4,N4,Vn,hb4,ho4⟩;refine⟨n-(j+1),xP PW,j+1,m',PZ,o',PW,rfl,W.frame _ h' _ T4 fun b hb o e=>?_,F4,N4,hb4,Vn,ho4.trans Rv⟩
   by_cases QJ:b=I
   ·rw[QJ,Ru] at e
    exact aa QJ (ae (Mr e) ((N4 _ (.head _)).1))
   ·have e1:=VV h' m news j hJ F' N' b hb QJ
    rw[e] at e1;cases e1;exact VV _ _ _ _ Vn F4 (fun p hp=>N4 p (.tail _ hp)) b hb QJ
  cases f with
  |next=>exact Sg R5
  |cont=>exact Sg R5
  |brk=>exact R5
  |ret v=>exact R5
 ·have S4:j=n:=aS hj hge
  subst S4;refine W.done s _ _ hst fun h' tk hk=>?_;have l:=last h' s.gens s.drawn tk m news hJ QE (Sv h' hk) (Sw h' hk);rw[←Rv] at l;exact K9 l (fun _ _ y=>y) fun _ _ e=>hE _ _ e
theorem vD(F:Fr h₀ L h m)(N:News h₀ L h news)(hs:(l,ol)∈news∨h₀.get? l=some ol):h.get? l=some ol:=hs.elim (fun q=>(N _ q).1) fun q=>F.keep _ _ q
theorem gz(F:Fr h₀ L h m)(hb:h.objs.size<=b):h₀.get? b=none:=by
 cases q:h₀.get? b with
 |none=>rfl
 |some o=>exact absurd (Lb (KQ (F.keep _ _ q)) hb) (Nv _)
structure qI where
 a:Nat
 bit:Int
 tb:Nat
 ch:String
 tc:Nat
end
noncomputable def oX:List (Nat×List qI):=[
 (190,[⟨183,40960,558,"l",593⟩,⟨184,49152,560,"s",594⟩,⟨185,32768,554,"-",595⟩,⟨186,24576,552,"b",596⟩,⟨187,16384,548,"d",597⟩,⟨188,8192,550,"c",598⟩,⟨189,4096,556,"p",599⟩]),
 (192,[⟨191,256,575,"r",600⟩]),
 (194,[⟨193,128,577,"w",601⟩]),
 (198,[⟨195,2112,602,"s",603⟩,⟨196,2048,569,"S",604⟩,⟨197,64,579,"x",605⟩]),
 (200,[⟨199,32,581,"r",606⟩]),
 (202,[⟨201,16,583,"w",607⟩]),
 (206,[⟨203,1032,608,"s",609⟩,⟨204,1024,571,"S",610⟩,⟨205,8,585,"x",611⟩]),
 (208,[⟨207,4,587,"r",612⟩]),
 (210,[⟨209,2,589,"w",613⟩]),
 (214,[⟨211,513,614,"t",615⟩,⟨212,512,573,"T",616⟩,⟨213,1,591,"x",617⟩])]
def qI.obj(p:qI):Obj:=bm (.int p.bit p.tb) (.str (Ye p.ch) p.tc) 0
noncomputable def gL (l:List qI):List (Int×String):=l.map fun p=>(p.bit,p.ch)
theorem uo(X:(ao P).In g):∀ t∈oX,g.get? t.1=some {cls:= .type "tuple",data:= .seq (t.2.map fun p=>Value.ref p.a).toArray 0}/\∀ p∈t.2,g.get? p.a=some p.obj:=
 KV.mpr ⟨⟨X _ _ (by k_is),KV.mpr ⟨X _ _ (by k_is),KV.mpr ⟨X _ _ (by k_is),KV.mpr ⟨X _ _ (by k_is),KV.mpr ⟨X _ _ (by k_is),KV.mpr ⟨X _ _ (by k_is),KV.mpr ⟨X _ _ (by k_is),KV.mpr ⟨X _ _ (by k_is),Mc _⟩⟩⟩⟩⟩⟩⟩⟩,
  KV.mpr ⟨⟨X _ _ (by k_is),KV.mpr ⟨X _ _ (by k_is),Mc _⟩⟩,
  KV.mpr ⟨⟨X _ _ (by k_is),KV.mpr ⟨X _ _ (by k_is),Mc _⟩⟩,
  KV.mpr ⟨⟨X _ _ (by k_is),KV.mpr ⟨X _ _ (by k_is),KV.mpr ⟨X _ _ (by k_is),KV.mpr ⟨X _ _ (by k_is),Mc _⟩⟩⟩⟩,
  KV.mpr ⟨⟨X _ _ (by k_is),KV.mpr ⟨X _ _ (by k_is),Mc _⟩⟩,
  KV.mpr ⟨⟨X _ _ (by k_is),KV.mpr ⟨X _ _ (by k_is),Mc _⟩⟩,
  KV.mpr ⟨⟨X _ _ (by k_is),KV.mpr ⟨X _ _ (by k_is),KV.mpr ⟨X _ _ (by k_is),KV.mpr ⟨X _ _ (by k_is),Mc _⟩⟩⟩⟩,
  KV.mpr ⟨⟨X _ _ (by k_is),KV.mpr ⟨X _ _ (by k_is),Mc _⟩⟩,
  KV.mpr ⟨⟨X _ _ (by k_is),KV.mpr ⟨X _ _ (by k_is),Mc _⟩⟩,
  KV.mpr ⟨⟨X _ _ (by k_is),KV.mpr ⟨X _ _ (by k_is),KV.mpr ⟨X _ _ (by k_is),KV.mpr ⟨X _ _ (by k_is),Mc _⟩⟩⟩⟩,
  Mc _⟩⟩⟩⟩⟩⟩⟩⟩⟩⟩
def bw(o:Obj)(m:X7):Prop:=bW (fun es ep=>o.data=.dict es ep) (fun es _=>StrKeys es) (fun es _=>∀ name,nsFind es name=m name)
theorem bw.ns{o:Obj}{m:X7}(x:bw o m){h:Heap}{a:Addr}(e:h.get? a=some o):h.Ns a m:=let ⟨es,ep,r1,r2,r3⟩:=x;⟨o,es,ep,e,r1,r2,r3⟩
theorem bw.of{h:Heap}{a:Addr}{m:X7}(x:h.Ns a m):aO (fun o=>h.get? a=some o) (fun o=>bw o m):=by obtain⟨o,es,ep,e,r1,r2,r3⟩:=x;exact⟨o,e,es,ep,r1,r2,r3⟩
section
variable{A:Around}{E:X8}{s:Shared}
def dL(Qb:List X9)(env:Env):Sem Bool:=forIn Qb true fun c r=>if r=true then do let ok←isTrue c env (eval c env);pure (ForInStep.yield ok) else pure (ForInStep.yield r)
noncomputable def eI (YL:Pos) (PO:X9) (Qb:List X9) (B:Sem Unit) (e:X9) (depth:Nat) (it PV:Value) (env:Env):Sem PySem.Fin:=
 standAt YL>>=fun _=>pyNext it>>=fun r=>match r with
  |none=>pure (.done .next)
  |some v=>letOwnedTupleGo PO it v>>=fun _=>assign PO env v>>=fun _=>dL Qb env>>=fun ok=>(if ok=true then B>>=fun _=>again (.compLoop e depth it PV env) else again (.compLoop e depth it PV env))
def fG(h₀:Heap)(L I C:Addr)(m:X7)(oI:Obj)(J:X7->X6->Prop)(os:OsState)(G:Array GenState->Drawn->Prop)(s':Shared):Prop:=
 vJ (fun mC oC PZ=>bw oC mC) (fun _ _ _=>Fr h₀ L s'.heap m) (fun _ oC PZ=>News h₀ L s'.heap ((I,oI)::(C,oC)::PZ)) (fun mC _ PZ=>J mC PZ) (fun _ _ _=>G s'.gens s'.drawn) (fun _ _ _=>s'.os=os)
theorem i8{h₀:Heap}{L I C:Addr}{m mC:X7}{oI oC:Obj}{J:X7->X6->Prop}{os:OsState}{G:Array GenState->Drawn->Prop}{s':Shared}{PZ:X6}
  (F:Fr h₀ L s'.heap m) (N:News h₀ L s'.heap ((I,oI)::(C,oC)::PZ)) (x:bw oC mC) (j:J mC PZ) (g:G s'.gens s'.drawn) (o:s'.os=os):fG h₀ L I C m oI J os G s':=⟨mC,oC,PZ,x,F,N,j,g,o⟩
def er(A:Around)(B:Sem Unit)(K:Shared->Prop)(E:X8)(ok:Bool)(s:Shared):Prop:=if ok=true then wpAny MP A B (fun _ s'=>K s') E s else K s
theorem kG{B:Sem Unit}{K:Shared->Prop}(h:wpAny MP A B (fun _ s'=>K s') E s):er A B K E true s:=by unfold er;refine aa (KZ rfl) ?_;exact h
theorem rW{B:Sem Unit}{K:Shared->Prop}(h:K s):er A B K E false s:=by unfold er;refine aa (KO KR) ?_;exact h
theorem tT(h:Q true s):wpAny MP A (dL [] env) Q E s:=KE h
theorem zP(h:wpAny MP A (isTrue c env (eval c env)) Q E s):wpAny MP A (dL [c] env) Q E s:=wpAny_tests_one h
theorem ye{e PO:X9}{Qb:List X9}{B:Sem Unit}{depth:Nat}{PV:Value}{Yl:Env}{YL:Pos}{I C L:Addr}{h₀:Heap}{fp:List Addr}{n:Nat}{P:Nat->Value->Prop}{St:Nat->Heap->Prop}
  {m mC:X7} {news:X6} {oI oC:Obj} {R:Result->Shared->Prop}
  (Uw:∀ it,compTurn e depth it PV Yl=eI YL PO Qb B e depth it PV Yl) (hq:(Code.compLoop e depth (.ref I) PV Yl).quiet=true)
  (TZ:MP.den (.compLoop e depth (.ref I) PV Yl)=(compTurn e depth (.ref I) PV Yl).onRaise (fun x=>do noteFrame x Yl;theTreesLotGoes x))
  (VN:A.under (.compLoop e depth (.ref I) PV Yl)=A)
  (W:Walks PR w A I fp [I] n P St) (src:Addr->Obj) (J:Nat->X7->X6->Prop) (G:Array GenState->Drawn->Prop)
  (hst:St 0 s.heap) (hLI:L≠I) (hI0:h₀.get? I=none) (SX:C≠I) (x0:bw oC mC) (F:Fr h₀ L s.heap m) (N:News h₀ L s.heap ((I,oI)::(C,oC)::news)) (QE:G s.gens s.drawn) (Te:J 0 mC news)
  (RF:∀ j mC news,J j mC news->(∀ p∈news,p.1≠I)/\∀ b∈fp,b≠I->(b,src b)∈news∨h₀.get? b=some (src b))
  (hex:∀ i h,St i h->∃ o,h.get? I=some o)
  (hgo:∀ i (s':Shared) v (Q':Unit->Shared->Prop) E',St i s'.heap->Q' () s'->wpAny MP A (letOwnedTupleGo PO (.ref I) v) Q' E' s')
  (step:∀ i v mC oC Rf (oI:Obj) h g d tk,i<n->P i v->bw oC mC->J i mC Rf->G g d->Fr h₀ L h m->News h₀ L h ((I,oI)::(C,oC)::Rf)->
   wpAny MP A (assign PO Yl v) (fun _ TG=>wpAny MP A (dL Qb Yl) (er A B (fG h₀ L I C m oI (J (i+1)) s.os G) (notedBy MP A Yl fun e s'=>R (.error e) s'))
    (notedBy MP A Yl fun e s'=>R (.error e) s') TG) (notedBy MP A Yl fun e s'=>R (.error e) s') ⟨h,g,d,tk,s.os⟩)
  (last:∀ h g d tk mC oC Rf,bw oC mC->J n mC Rf->G g d->Fr h₀ L h m->News h₀ L h ((C,oC)::Rf)->R (.ok .next) ⟨h,g,d,tk,s.os⟩):
  codeAny MP A (.compLoop e depth (.ref I) PV Yl) R s:=by
 refine codeAny_loop hq (I:=fun k s'=>vP (fun j mC oC news oI=>j<=n) (fun j _ _ _ _=>k=n-j) (fun j _ _ _ _=>St j s'.heap) (fun _ mC oC _ _=>bw oC mC) (fun _ _ _ _ _=>Fr h₀ L s'.heap m) (fun _ _ oC news oI=>News h₀ L s'.heap ((I,oI)::(C,oC)::news)) (fun _ _ _ _ _=>G s'.gens s'.drawn) (fun j mC _ news _=>J j mC news) (fun _ _ _ _ _=>s'.os=s.os)) (fun k s' hI=>?_) n ⟨0,mC,oC,news,oI,K6 _,s0,hst,x0,F,N,QE,Te,rfl⟩;obtain⟨j,mC,oC,news,oI,hj,rfl,hst,x,F,N,QE,hJ,Rv⟩:=hI;refine aa TZ (aa VN ?_);refine wpAny_noted ?_;refine aa (Uw _) ?_;unfold eI;refine Kz (LG (Kz ?_));have Sv:∀ h',(∀ b o,b∉[I]->s'.heap.get? b=some o->h'.get? b=some o)->Fr h₀ L h' m:=fun h' hk=>
  ⟨F.ns.at' fun o e=>hk _ o (by simpa using hLI) e,fun b o e=>hk b o (by simp;rintro rfl;rw[hI0] at e;cases e) (F.keep b o e),F.above⟩
 have Sw:∀ h',(∀ b o,b∉[I]->s'.heap.get? b=some o->h'.get? b=some o)->News h₀ L h' ((C,oC)::news):=fun h' hk p hp=>by
  refine⟨hk _ _ ?_ (N p (.tail _ hp)).1,(N p (.tail _ hp)).2⟩;rcases KI.mp hp with rfl|hp
  ·simpa using SX
  ·simpa using(RF j mC news hJ).1 p hp
 rcases M6 j n with PW|hge
 ·refine W.item j s' _ _ PW hst fun v h' tk hv T4 hk=>?_
  have F':=Sv h' hk;have N':=Sw h' hk;obtain⟨o',Ru⟩:=hex _ _ T4;have Vk:News h₀ L h' ((I,o')::(C,oC)::news):=fun p hp=>by
   rcases KI.mp hp with rfl|hp
   ·exact⟨Ru,MH hLI,hI0⟩
   ·exact N' p hp
  dsimp only;refine Kz (hgo (j+1) ⟨h',s'.gens,s'.drawn,tk,s'.os⟩ v _ _ T4 ?_);have st:=step j v mC oC news o' h' s'.gens s'.drawn tk PW hv x hJ QE F' Vk;rw[←Rv] at st;have Sg:∀ Ri:Shared,fG h₀ L I C m o' (J (j+1)) s'.os G Ri->
    ∃ k,k<n-j/\vP (fun j mC oC news oI=>j<=n) (fun j _ _ _ _=>k=n-j) (fun j _ _ _ _=>St j Ri.heap) (fun _ mC oC _ _=>bw oC mC) (fun _ _ _ _ _=>Fr h₀ L Ri.heap m) (fun _ _ oC news oI=>News h₀ L Ri.heap ((I,oI)::(C,oC)::news)) (fun _ _ _ _ _=>G Ri.gens Ri.drawn) (fun j mC _ news _=>J j mC news) (fun _ _ _ _ _=>Ri.os=s.os):=by
   rintro Ri ⟨RL,Qq,PZ,x4,F4,N4,Vn,hb4,ho4⟩;refine⟨n-(j+1),xP PW,j+1,RL,Qq,PZ,o',PW,rfl,W.frame _ h' _ T4 fun b hb o e=>?_,x4,F4,N4,hb4,Vn,ho4.trans Rv⟩
   by_cases QJ:b=I
   ·rw[QJ,Ru] at e
    exact aa QJ (ae (Mr e) ((N4 _ (.head _)).1))
   ·have VV:∀ h mC oC news j,J j mC news->Fr h₀ L h m->News h₀ L h ((C,oC)::news)->h.get? b=some (src b):=fun h mC oC news j hJ F N=>by
     rcases(RF j mC news hJ).2 b hb QJ with q|q
     ·exact(N _ (.tail _ q)).1
     ·exact F.keep _ _ q
    have e1:=VV h' mC oC news j hJ F' N';rw[e] at e1;cases e1;exact VV _ _ _ _ _ Vn F4 (fun p hp=>N4 p (.tail _ hp))
  refine Kz (K9 st (fun _ TG Se=>Kz (K9 Se (fun ok Ri R5=>?_) fun _ _ e=>e)) fun _ _ e=>e)
  cases ok with
  |false=>
   unfold er at R5;rw[KO KR] at R5⊢;exact KE ⟨rfl,Sg _ R5⟩
  |true=>
   unfold er at R5;rw[KZ rfl] at R5⊢;exact Kz (K9 R5 (fun _ s₅ Xk=>KE ⟨rfl,Sg _ Xk⟩) fun _ _ e=>e)
 ·have S4:j=n:=aS hj hge
  subst S4;refine W.done s' _ _ hst fun h' tk hk=>?_;dsimp only;have l:=last h' s'.gens s'.drawn tk mC oC news x hJ QE (Sv h' hk) (Sw h' hk);rw[←Rv] at l;exact KE l
noncomputable def dK (P2:X9) (PV:Value) (env:Env):Sem Unit:=eval P2 env>>=fun x=>call (.builtin "list.append") [PV,x]>>=fun _=>pure ()
noncomputable def dq (e:X9) (iter:X9) (PV:Value) (env:Env):Sem Unit:=
 eval iter env>>=fun x=>standAt iter.pos>>=fun _=>foldedSetIterable iter env x>>=fun x=>holding [x] (pyIter x)>>=fun it=>runOwn (.compStart e 1 it PV env) env>>=fun _=>pure ()
noncomputable def gI (k v:X9) (d:Addr) (env:Env):Sem Unit:=
 eval k env>>=fun kv=>holding [kv] (eval v env)>>=fun vv=>standAt {k.pos with endLine:=v.pos.endLine,endCol:=v.pos.endCol}>>=fun _=>holding [kv,vv] (dictSet d kv vv)
theorem rs(P2 PO iter:X9)(Qb:List X9)(scope:Scope)(pos:Pos)(PV:Value)(env:Env)(it:Value):
  compTurn (.ListComp P2 [⟨PO,iter,Qb,0⟩] scope pos) 0 it PV env=eI iter.pos PO Qb (dK P2 PV env) (.ListComp P2 [⟨PO,iter,Qb,0⟩] scope pos) 0 it PV env:=by rfl
theorem jY(P2 t1 i1 t2 i2:X9)(f1 f2:List X9)(scope:Scope)(pos:Pos)(PV:Value)(env:Env)(it:Value):
  compTurn (.ListComp P2 [⟨t1,i1,f1,0⟩,⟨t2,i2,f2,0⟩] scope pos) 0 it PV env=eI i1.pos t1 f1 (dq (.ListComp P2 [⟨t1,i1,f1,0⟩,⟨t2,i2,f2,0⟩] scope pos) i2 PV env) (.ListComp P2 [⟨t1,i1,f1,0⟩,⟨t2,i2,f2,0⟩] scope pos) 0 it PV env:=by
 unfold eI dq;simp only[bind_assoc,pure_bind]
 rfl
theorem xh(P2 t1 i1 t2 i2:X9)(f1 f2:List X9)(scope:Scope)(pos:Pos)(PV:Value)(env:Env)(it:Value):
  compTurn (.ListComp P2 [⟨t1,i1,f1,0⟩,⟨t2,i2,f2,0⟩] scope pos) 1 it PV env=eI i2.pos t2 f2 (dK P2 PV env) (.ListComp P2 [⟨t1,i1,f1,0⟩,⟨t2,i2,f2,0⟩] scope pos) 1 it PV env:=by rfl
theorem yP(k v PO iter:X9)(Qb:List X9)(scope:Scope)(pos:Pos)(d:Addr)(env:Env)(it:Value):
  compTurn (.DictComp k v [⟨PO,iter,Qb,0⟩] scope pos) 0 it (.ref d) env=eI iter.pos PO Qb (gI k v d env) (.DictComp k v [⟨PO,iter,Qb,0⟩] scope pos) 0 it (.ref d) env:=by rfl
structure fb(A:Around)(I:Addr)(n:Nat)(P:Nat->Value->Prop)(fp:List Addr)(St:Nat->Heap->Prop):Prop where
 W:Walks PR w A I fp [I] n P St
 hex:∀ i h,St i h->∃ o,h.get? I=some o
 hgo:∀ i PO (s':Shared) v (Q':Unit->Shared->Prop) E',St i s'.heap->Q' () s'->wpAny MP A (letOwnedTupleGo PO (.ref I) v) Q' E' s'
theorem kZ{PO:X9}{I:Addr}{x left c:Int}{v:Value}{Q':Unit->Shared->Prop}{s':Shared}(QG:IsRangeIter s'.heap I x left c)(h:Q' () s'):wpAny MP A (letOwnedTupleGo PO (.ref I) v) Q' E s':=by
 have ho:s'.heap.get? I=some {cls:= .type "range_iterator",data:= .fields #[rawInt x,rawInt left,rawInt c]}:=QG;unfold letOwnedTupleGo
 cases PO<;>first
  |exact KE h
  |(cases v<;>first
    |exact KE h
    |(refine Kz (wpAny_load ho ?_);exact KE h))
theorem pQ(hh:A.handled=none)(I l:Addr)(P5:l≠I)(items:Array Value):fb A I items.size (fun i v=>items[i]?=some v) [I,l] (fun i h=>h.IsListIter I l i/\h.IsList l items):=
 ⟨Walks.list hh I l P5 items,fun _ _ st=>let ⟨o,ho,_⟩:=st.1;⟨o,ho⟩,fun _ _ _ _ _ _ st q=>letGo_listiter st.1 q⟩
theorem vp(hh:A.handled=none)(I l:Addr)(P5:l≠I)(items:Array Value):fb A I items.size (fun i v=>items[i]?=some v) [I,l] (fun i h=>h.IsTupleIter I l i/\h.IsTuple l items):=
 ⟨Walks.tuple hh I l P5 items,fun _ _ st=>let ⟨o,ho,_⟩:=st.1;⟨o,ho⟩,fun _ _ _ _ _ _ st q=>letGo_tupleiter st.1 q⟩
theorem nG(hh:A.handled=none)(I:Addr)(a c:Int)(n:Nat):fb A I n (fun i v=>∃ t,v=.int (a+i*c) t) [I] (fun i h=>IsRangeIter h I (a+(i:Nat)*c) ((n:Int)-(i:Nat)) c):=
 ⟨Walks.range hh I a c n,fun _ _ st=>⟨_,st⟩,fun _ _ _ _ _ _ st q=>kZ st q⟩
variable{h₀:Heap}{L:Addr}{m:X7}{news:X6}
theorem ng(F:Fr h₀ L s.heap m)(N:News h₀ L s.heap news)(hc:ol.cls=.type "list")(hd:ol.data=.seq items c)(hs:(l,ol)∈news∨h₀.get? l=some ol)
  (k:∀ (I:Nat) oI h',I=s.heap.objs.size->l<I->Fr h₀ L h' m->News h₀ L h' ((I,oI)::news)->(∀ p∈news,p.1<I)->(h'.IsListIter I l 0/\h'.IsList l items)->h'.objs.size=I+1->Q (.ref I) {s with heap:=h'}):wpAny MP A (pyIter (.ref l)) Q E s:=by
 have hg:=vD F N hs;have hl:s.heap.IsList l items:=⟨ol,hg,hc,c,hd⟩;exact wpAny_pyIter_list hl (k _ _ _ rfl (KQ hg) (F.push _) (NW F N _) (fun p hp=>KQ (N p hp).1) ⟨⟨_,Lc _ rfl,rfl,rfl⟩,hl.at fun o e=>KN _ e⟩ (L8 _ _))
theorem r7(F:Fr h₀ L s.heap m)(N:News h₀ L s.heap news)(hc:ol.cls=.type "tuple")(hd:ol.data=.seq items c)(hs:(l,ol)∈news∨h₀.get? l=some ol)
  (k:∀ (I:Nat) oI h',I=s.heap.objs.size->l<I->Fr h₀ L h' m->News h₀ L h' ((I,oI)::news)->(∀ p∈news,p.1<I)->(h'.IsTupleIter I l 0/\h'.IsTuple l items)->h'.objs.size=I+1->Q (.ref I) {s with heap:=h'}):wpAny MP A (pyIter (.ref l)) Q E s:=by
 have hg:=vD F N hs;have hl:s.heap.IsTuple l items:=⟨ol,hg,hc,c,hd⟩;exact wpAny_pyIter_tuple hl (k _ _ _ rfl (KQ hg) (F.push _) (NW F N _) (fun p hp=>KQ (N p hp).1) ⟨⟨_,Lc _ rfl,rfl,rfl⟩,hl.at fun o e=>KN _ e⟩ (L8 _ _))
theorem kU(F:Fr h₀ L s.heap m)(N:News h₀ L s.heap news)(hr:IsRange s.heap r a b c t u v)(Rn:Builtin.Range.small a b c=true)(hn:Builtin.Range.rangeSize a b c=(n:Int))
  (k:∀ (I:Nat) oI h',I=s.heap.objs.size->Fr h₀ L h' m->News h₀ L h' ((I,oI)::news)->(∀ p∈news,p.1<I)->IsRangeIter h' I (a+(0:Nat)*c) ((n:Int)-(0:Nat)) c->h'.objs.size=I+1->Q (.ref I) {s with heap:=h'}):wpAny MP A (pyIter (.ref r)) Q E s:=by
 refine wpAny_pyIter_range hr Rn (k _ _ _ rfl (F.push _) (NW F N _) (fun p hp=>KQ (N p hp).1) ?_ (L8 _ _));refine aa hn ?_;have e1:a+((0:Nat):Int)*c=a:=by simp
 have e2:(n:Int)-((0:Nat):Int)=n:=by simp
 refine aa e1 (aa e2 ?_);exact Lc _ rfl
def nZ(A:Around)(h₀:Heap)(L C:Addr)(m:X7)(Yl:Env)(PO:X9)(Qb:List X9)(B:Sem Unit)(I:Addr)(oI:Obj)(J:X7->X6->Prop)(os:OsState)(G:Array GenState->Drawn->Prop)(v:Value)(s:Shared):Prop:=
 ∀ E':X8,wpAny MP A (assign PO Yl v) (fun _ TG=>wpAny MP A (dL Qb Yl) (er A B (fG h₀ L I C m oI J os G) E') E' TG) E' s
abbrev ru:=X7->Nat->Nat->X6->Shared->Prop
def ww(h₀:Heap)(L:Addr)(Q:X8):ru:=fun m D _ PY s=>∀ h',Fr h₀ L h' m->News h₀ L h' PY->Q (.ref D) {s with heap:=h'}
def rY(h₀:Heap)(L:Addr)(y:Str)(Q:Flow->Shared->Prop):ru:=fun m D _ PY s=>∀ h' tk,Fr h₀ L h' (fun z=>if z=y then some (.ref D) else m z)->News h₀ L h' PY->Q .next {s with heap:=h',toks:=tk}
inductive ix(A:Around)(h₀:Heap)(L:Addr)(env:Env)(scope:Scope)(cl:List (Str×Addr))(PO:X9)(Qb:List X9)(B:Addr->Env->Sem Unit)(Tc:Obj)(Fi:ru)(it:Value)(QU:Shared):Prop
 |mk (I n:Nat) (P:Nat->Value->Prop) (fp:List Addr) (St:Nat->Heap->Prop) (src:Addr->Obj) (oI:Obj) (m:X7) (news:X6):it=.ref I->fb A I n P fp St->St 0 QU.heap->Fr h₀ L QU.heap m->News h₀ L QU.heap ((I,oI)::news)->(∀ D C:Nat,D=QU.heap.objs.size->C=D+1->I<D->L<D->h₀.objs.size<=D->(∀ p∈news,p.1<D)->
   iy (fun(G:Array GenState->Drawn->Prop) (J:Nat->X7->X6->Prop)=>J 0 (fun _=>none) ((D,Tc)::news)) (fun G _=>G QU.gens QU.drawn) (fun _ J=>(∀ j mC n',J j mC n'->(∀ p∈n',p.1≠I/\p.1≠C)/\∀ b∈fp,b≠I->(b,src b)∈n'∨h₀.get? b=some (src b))) (fun G J=>(∀ i v mC oC PY (oI:Obj) h g d tk,i<n->P i v->bw oC mC->J i mC PY->G g d->Fr h₀ L h m->News h₀ L h ((I,oI)::(C,oC)::PY)->nZ A h₀ L C m (compEnvC scope cl C env) PO Qb (B D (compEnvC scope cl C env)) I oI (J (i+1)) QU.os G v ⟨h,g,d,tk,QU.os⟩)) (fun G J=>∀ h g d tk mC oC PY,bw oC mC->J n mC PY->G g d->Fr h₀ L h m->News h₀ L h ((C,oC)::PY)->Fi m D C PY ⟨h,g,d,tk,QU.os⟩))->ix A h₀ L env scope cl PO Qb B Tc Fi it QU
theorem oN
  (TZ:MP.den (.compStart e depth (.ref I) PV env)=(compStart e depth (.ref I) PV env).onRaise (fun x=>do noteFrame x env;standAt theWindowsPlace)) (VN:A.under (.compStart e depth (.ref I) PV env)=A)
  (hst:compStart e depth (.ref I) PV env=(ask>>=fun x=>if x.params.followText "comprehension-iter-twice"=true then again (.compLoop e depth (.ref I) PV env) else rule "comprehension.iter-twice">>=fun _=>standAt YL>>=fun _=>pyIter (.ref I)>>=fun it=>again (.compLoop e depth it PV env)))
  (hq:(Code.compLoop e depth (.ref I) PV env).quiet=true)
  (h:codeAny MP A (.compLoop e depth (.ref I) PV env) R s) (RJ:∀ (Q:X8) E',Q (.ref I) s->wpAny MP A (pyIter (.ref I)) Q E' s):
  codeAny MP A (.compStart e depth (.ref I) PV env) R s:=by
 refine NQ ?_;refine aa TZ (aa VN ?_);refine wpAny_notedAt ?_;refine aa hst ?_;refine Kz (MW (wpAny_ite ?_))
 split
 ·exact KE ⟨hq,h⟩
 ·exact Kz (MC (Kz (LG (Kz (RJ _ _ (KE ⟨hq,h⟩))))))
theorem gV{e PO:X9}{Qb:List X9}{B:Sem Unit}{depth:Nat}{PV:Value}{Yl:Env}{YL:Pos}{I C:Addr}{n:Nat}{P:Nat->Value->Prop}{fp:List Addr}{St:Nat->Heap->Prop}{src:Addr->Obj}
  {mC:X7} {news:X6} {oI oC:Obj} {R:Result->Shared->Prop}
  (TZ:MP.den (.compStart e depth (.ref I) PV Yl)=(compStart e depth (.ref I) PV Yl).onRaise (fun x=>do noteFrame x Yl;standAt theWindowsPlace)) (VN:A.under (.compStart e depth (.ref I) PV Yl)=A)
  (hst:compStart e depth (.ref I) PV Yl=(ask>>=fun x=>if x.params.followText "comprehension-iter-twice"=true then again (.compLoop e depth (.ref I) PV Yl) else rule "comprehension.iter-twice">>=fun _=>standAt YL>>=fun _=>pyIter (.ref I)>>=fun it=>again (.compLoop e depth it PV Yl)))
  (Uw:∀ it,compTurn e depth it PV Yl=eI YL PO Qb B e depth it PV Yl) (hq:(Code.compLoop e depth (.ref I) PV Yl).quiet=true)
  (Wh:MP.den (.compLoop e depth (.ref I) PV Yl)=(compTurn e depth (.ref I) PV Yl).onRaise (fun x=>do noteFrame x Yl;theTreesLotGoes x)) (WT:A.under (.compLoop e depth (.ref I) PV Yl)=A)
  (S:fb A I n P fp St) (J:Nat->X7->X6->Prop) (G:Array GenState->Drawn->Prop)
  (h0:St 0 s.heap) (SX:C≠I) (x0:bw oC mC) (F:Fr h₀ L s.heap m) (N:News h₀ L s.heap ((I,oI)::(C,oC)::news)) (QE:G s.gens s.drawn) (Te:J 0 mC news)
  (RF:∀ j mC n',J j mC n'->(∀ p∈n',p.1≠I)/\∀ b∈fp,b≠I->(b,src b)∈n'∨h₀.get? b=some (src b))
  (step:∀ i v mC oC PY (oI:Obj) h g d tk,i<n->P i v->bw oC mC->J i mC PY->G g d->Fr h₀ L h m->News h₀ L h ((I,oI)::(C,oC)::PY)->nZ A h₀ L C m Yl PO Qb B I oI (J (i+1)) s.os G v ⟨h,g,d,tk,s.os⟩)
  (last:∀ h g d tk mC oC PY,bw oC mC->J n mC PY->G g d->Fr h₀ L h m->News h₀ L h ((C,oC)::PY)->R (.ok .next) ⟨h,g,d,tk,s.os⟩):
  codeAny MP A (.compStart e depth (.ref I) PV Yl) R s:=by
 have hI:=N _ (.head _);refine oN TZ VN hst hq (ye Uw hq Wh WT S.W src J G h0 (MH hI.2.1) hI.2.2 SX x0 F N QE Te RF S.hex (fun i s' v Q' E'=>S.hgo i PO s' v Q' E') (fun i v mC oC PY oI h g d tk a1 a2 a3 a4 a5 a6 a7=>step i v mC oC PY oI h g d tk a1 a2 a3 a4 a5 a6 a7 _) last) fun Q E' q=>S.W.self 0 _ _ _ h0 q
theorem fO
  (hFi:∀ m D C oC mC PY (s':Shared),bw oC mC->Fr h₀ L s'.heap m->News h₀ L s'.heap ((C,oC)::PY)->(∀ p∈PY,p.1≠C)->Fi m D C PY s'->compPost MP A E use Q (.ref D) C (.ok .next) s')
  (QW:clausesOf e=g::gs) (hs:∀ x,foldedSetIterable g.iter env x=pure x) (Ql:closureFor scope env=pure cl) (P6:scope.kind=.function) (P9:∀ x∈scope.names,x.2=.local->scope.names.lookup x.1=some .local) (P8:∀ y∈scope.names,y.2≠ .cell)
  (hacc:∀ (s:Shared) (Q:X8),Q (.ref s.heap.objs.size) {s with heap:=s.heap.push Tc}->wpAny MP A XB Q E s) (Um:Tc.isFreed=false)
  (TZ:∀ I PV Yl,MP.den (.compStart e 0 (.ref I) PV Yl)=(compStart e 0 (.ref I) PV Yl).onRaise (fun x=>do noteFrame x Yl;standAt theWindowsPlace)) (VN:∀ I PV Yl,A.under (.compStart e 0 (.ref I) PV Yl)=A)
  (hst:∀ I PV Yl,compStart e 0 (.ref I) PV Yl=(ask>>=fun x=>if x.params.followText "comprehension-iter-twice"=true then again (.compLoop e 0 (.ref I) PV Yl) else rule "comprehension.iter-twice">>=fun _=>standAt YL>>=fun _=>pyIter (.ref I)>>=fun it=>again (.compLoop e 0 it PV Yl)))
  (Uw:∀ it D Yl,compTurn e 0 it (.ref D) Yl=eI YL PO Qb (B D Yl) e 0 it (.ref D) Yl) (hq:∀ I PV Yl,(Code.compLoop e 0 (.ref I) PV Yl).quiet=true)
  (Wh:∀ I PV Yl,MP.den (.compLoop e 0 (.ref I) PV Yl)=(compTurn e 0 (.ref I) PV Yl).onRaise (fun x=>do noteFrame x Yl;theTreesLotGoes x)) (WT:∀ I PV Yl,A.under (.compLoop e 0 (.ref I) PV Yl)=A)
  (h:wpAny MP A first (fun xv P1=>wpAny MP A (pyIter xv) (ix A h₀ L env scope cl PO Qb B Tc Fi) E P1) E s):
  wpAny MP A (comprehension e scope env pos XB false first use) Q E s:=by
 refine wpAny_comprehension_free (use:=use) QW hs Ql P6 P9 (K9 h (fun xv P1 h₁=>K9 h₁ (fun it QU Sa=>?_) fun _ _ e=>e) fun _ _ e=>e);obtain⟨I,n,P,fp,St,src,oI,m,news,rfl,S,h0,F,N,k⟩:=Sa;refine hacc _ _ ?_;refine wpAny_newFunctionEnv P8 (by intro y hy;simp at hy) (fun h₁ WK WQ=>?_) P6;dsimp only at WK WQ⊢;have hI:=N _ (.head _);obtain⟨G,J,Te,QE,RF,step,last⟩:=k QU.heap.objs.size (QU.heap.objs.size+1) rfl rfl (KQ hI.1) F.ns.lt (KH F.above (LF F.ns.lt)) fun p hp=>KQ (N p (.tail _ hp)).1;have hC:(QU.heap.push Tc).objs.size=QU.heap.objs.size+1:=L8 _ _;rw[hC] at WK WQ⊢;have SL:∀ b o,(QU.heap.push Tc).get? b=some o->b≠QU.heap.objs.size+1->h₁.get? b=some o:=fun b o e hb=>WQ.extBut b o hb (KN _ e);have VR:∀ b o,QU.heap.get? b=some o->h₁.get? b=some o:=fun b o e=>SL b o (KN _ e) (K8 (LI (KQ e)));have F':Fr h₀ L h₁ m:=⟨F.ns.at' fun o e=>VR _ o e,fun b o e=>VR b o (F.keep b o e),F.above⟩;have fresh:∀ b,QU.heap.objs.size<=b->h₀.get? b=none:=fun b hb=>by
  cases q:h₀.get? b with
  |none=>rfl
  |some o=>exact absurd (Lb (KQ (F.keep _ _ q)) hb) (Nv _)
 obtain⟨oC,hoC,xC⟩:=bw.of WK;have hLD:∀ b,QU.heap.objs.size<=b->b≠L:=fun b hb=>MH (K8 (Lb F.ns.lt hb));have N':News h₀ L h₁ ((I,oI)::(QU.heap.objs.size+1,oC)::(QU.heap.objs.size,Tc)::news):=fun p hp=>by
  rcases KI.mp hp with rfl|hp
  ·exact⟨VR _ _ hI.1,hI.2⟩
  ·rcases KI.mp hp with rfl|hp
   ·exact⟨hoC,hLD _ (MG _),fresh _ (MG _)⟩
   ·rcases KI.mp hp with rfl|hp
    ·exact⟨SL _ _ (Lc _ Um) (K8 (LR _)),hLD _ (K1 _),fresh _ (K1 _)⟩
    ·exact⟨VR _ _ (N p (.tail _ hp)).1,(N p (.tail _ hp)).2⟩
 have SX:QU.heap.objs.size+1≠I:=Mi (LI (KQ hI.1));refine gV (Yl:=compEnvC scope cl (QU.heap.objs.size+1) env) (src:=src) (TZ _ _ _) (VN _ _ _) (hst _ _ _) (fun it=>Uw it _ _) (hq _ _ _) (Wh _ _ _) (WT _ _ _) S J G (S.W.frame _ _ _ h0 fun b _ o e=>VR b o e) SX xC F' N' QE Te
  (fun j mC n' q=>⟨fun p hp=>((RF j mC n' q).1 p hp).1,(RF j mC n' q).2⟩) step ?_
 intro h g d tk mC Qq PY x hJ hg Xi Xj;exact hFi m _ _ Qq mC PY _ x Xi Xj (fun p hp=>((RF _ _ _ hJ).1 p hp).2) (last h g d tk mC Qq PY x hJ hg Xi Xj)
theorem qQ(F:Fr h₀ L h m)(N:News h₀ L h ((C,oC)::PY))(hn:∀ p∈PY,p.1≠C)(hs:Heap.SameBut C h h'):Fr h₀ L h' m/\News h₀ L h' PY:=by
 have hC:=N _ (.head _);refine⟨⟨F.ns.sameBut hs hC.2.1.symm,fun b o e=>hs.extBut b o (fun q=>by have e2:=hC.2.2;rw[←(show b=C from q)] at e2;rw[e2] at e;cases e) (F.keep b o e),F.above⟩,fun p hp=>?_⟩;exact⟨hs.extBut _ _ (hn p hp) (N p (.tail _ hp)).1,(N p (.tail _ hp)).2⟩
theorem mY:∀ m D C oC mC PY (s':Shared),bw oC mC->Fr h₀ L s'.heap m->News h₀ L s'.heap ((C,oC)::PY)->(∀ p∈PY,p.1≠C)->ww h₀ L Q m D C PY s'->compPost MP A E none Q (.ref D) C (.ok .next) s':=
 fun m D C oC mC PY s' x F N hn k=>⟨mC,x.ns (N _ (.head _)).1,fun h' hs=>let ⟨a,b⟩:=qQ F N hn hs;k h' a b⟩
theorem gi(hy:env.kindOf y=some .local)(hL:env.locals=L)(hp:(env.scope.kind== .class||(env.scope.kind== .module&&env.locals !=env.globals))=false):
  ∀ m D C oC mC PY (s':Shared),bw oC mC->Fr h₀ L s'.heap m->News h₀ L s'.heap ((C,oC)::PY)->(∀ p∈PY,p.1≠C)->rY h₀ L y Q m D C PY s'->compPost MP A E (some (assign (.Name y py) env)) (fun _ s'=>Q .next s') (.ref D) C (.ok .next) s':=
 fun m D C oC mC PY s' x F N hn k=>by
  subst hL;show wpAny _ A (assign (.Name y py) env (.ref D)) _ _ _;refine Oq (wpAny_storeName_local hy F.ns (fun Sa V7 S9=>?_) hp);have N2:=N.set S9;refine⟨mC,x.ns (N2 _ (.head _)).1,fun h' hs=>?_⟩;obtain⟨a,b⟩:=qQ (F.set V7 S9) N2 hn hs;exact k h' _ a b
theorem nK
  (Ql:closureFor scope env=pure cl) (P6:scope.kind=.function) (P9:∀ x∈scope.names,x.2=.local->scope.names.lookup x.1=some .local) (P8:∀ y∈scope.names,y.2≠ .cell)
  (h:wpAny MP A (eval iter env) (fun xv P1=>wpAny MP A (pyIter xv) (ix A h₀ L env scope cl PO Qb (fun D Yl=>dK P2 (.ref D) Yl) (listOf #[] 0) (ww h₀ L Q)) E P1) E s)
  (hs:∀ x,foldedSetIterable iter env x=pure x:=by intro _;rfl):
  wpAny MP A (eval (.ListComp P2 [⟨PO,iter,Qb,0⟩] scope pos) env) Q E s:=by
 exact aa (eval_ListComp _ _ _ _) (fO mY (YL:=iter.pos) (B:=fun D Yl=>dK P2 (.ref D) Yl) rfl hs Ql P6 P9 P8 (fun s Q q=>LY q) rfl (fun _ _ _=>rfl) (fun _ _ _=>rfl) (fun _ _ _=>rfl) (fun it D Yl=>rs ..) (fun _ _ _=>rfl) (fun _ _ _=>rfl) (fun _ _ _=>rfl) h)
theorem nL
  (Ql:closureFor scope env=pure cl) (P6:scope.kind=.function) (P9:∀ x∈scope.names,x.2=.local->scope.names.lookup x.1=some .local) (P8:∀ y∈scope.names,y.2≠ .cell)
  (h:wpAny MP A (eval i1 env) (fun xv P1=>wpAny MP A (pyIter xv) (ix A h₀ L env scope cl t1 f1 (fun D Yl=>dq (.ListComp P2 [⟨t1,i1,f1,0⟩,⟨t2,i2,f2,0⟩] scope pos) i2 (.ref D) Yl) (listOf #[] 0) (ww h₀ L Q)) E P1) E s)
  (hs:∀ x,foldedSetIterable i1 env x=pure x:=by intro _;rfl):
  wpAny MP A (eval (.ListComp P2 [⟨t1,i1,f1,0⟩,⟨t2,i2,f2,0⟩] scope pos) env) Q E s:=by
 exact aa (eval_ListComp _ _ _ _) (fO mY (YL:=i1.pos) (B:=fun D Yl=>dq (.ListComp P2 [⟨t1,i1,f1,0⟩,⟨t2,i2,f2,0⟩] scope pos) i2 (.ref D) Yl) rfl hs Ql P6 P9 P8 (fun s Q q=>LY q) rfl (fun _ _ _=>rfl) (fun _ _ _=>rfl) (fun _ _ _=>rfl) (fun it D Yl=>jY ..) (fun _ _ _=>rfl) (fun _ _ _=>rfl) (fun _ _ _=>rfl) h)
theorem j0
  (Ry:swapsWith (.DictComp k v [⟨PO,iter,Qb,0⟩] scope pos) (some (.Name y py)) Rb.line env=pure true)
  (Ql:closureFor scope env=pure cl) (P6:scope.kind=.function) (P9:∀ x∈scope.names,x.2=.local->scope.names.lookup x.1=some .local) (P8:∀ y∈scope.names,y.2≠ .cell)
  (hy:env.kindOf y=some .local) (hL:env.locals=L) (hp:(env.scope.kind== .class||(env.scope.kind== .module&&env.locals !=env.globals))=false)
  (h:wpAny MP A (eval iter env) (fun xv P1=>wpAny MP A (pyIter xv) (ix A h₀ L env scope cl PO Qb (fun D Yl=>gI k v D Yl) {cls:= .type "dict",data:= .dict #[]} (rY h₀ L y Q)) E P1) E s)
  (hs:∀ x,foldedSetIterable iter env x=pure x:=by intro _;rfl):
  wpAny MP A (exec (.Assign [.Name y py] (.DictComp k v [⟨PO,iter,Qb,0⟩] scope pos) Rb) env) Q E s:=by
 refine aa (Oz _ _ _ _ Ry) ?_;refine Kz (LG (Kz ?_));show wpAny _ A (do let _←comprehension (.DictComp k v [⟨PO,iter,Qb,0⟩] scope pos) scope env _ newDict false (eval iter env) (some (assign (.Name y py) env))) _ _ s;refine Kz (K9 (fO (Q:=fun _ s'=>Q .next s') (gi hy hL hp) (YL:=iter.pos) (B:=fun D Yl=>gI k v D Yl) rfl hs Ql P6 P9 P8 (fun s Q q=>LY q) rfl (fun _ _ _=>rfl) (fun _ _ _=>rfl) (fun _ _ _=>rfl) (fun it D Yl=>yP ..) (fun _ _ _=>rfl) (fun _ _ _=>rfl) (fun _ _ _=>rfl) h) (fun _ s' hq=>KE (KE hq)) fun _ _ e=>e)
theorem fF
  (Ry:swapsWith (.ListComp P2 [⟨PO,iter,Qb,0⟩] scope pos) (some (.Name y py)) Rb.line env=pure true)
  (Ql:closureFor scope env=pure cl) (P6:scope.kind=.function) (P9:∀ x∈scope.names,x.2=.local->scope.names.lookup x.1=some .local) (P8:∀ y∈scope.names,y.2≠ .cell)
  (hy:env.kindOf y=some .local) (hL:env.locals=L) (hp:(env.scope.kind== .class||(env.scope.kind== .module&&env.locals !=env.globals))=false)
  (h:wpAny MP A (eval iter env) (fun xv P1=>wpAny MP A (pyIter xv) (ix A h₀ L env scope cl PO Qb (fun D Yl=>dK P2 (.ref D) Yl) (listOf #[] 0) (rY h₀ L y Q)) E P1) E s)
  (hs:∀ x,foldedSetIterable iter env x=pure x:=by intro _;rfl):
  wpAny MP A (exec (.Assign [.Name y py] (.ListComp P2 [⟨PO,iter,Qb,0⟩] scope pos) Rb) env) Q E s:=by
 refine aa (Oz _ _ _ _ Ry) ?_;refine Kz (LG (Kz ?_));show wpAny _ A (do let _←comprehension (.ListComp P2 [⟨PO,iter,Qb,0⟩] scope pos) scope env _ (newList []) false (eval iter env) (some (assign (.Name y py) env))) _ _ s;refine Kz (K9 (fO (Q:=fun _ s'=>Q .next s') (gi hy hL hp) (YL:=iter.pos) (B:=fun D Yl=>dK P2 (.ref D) Yl) rfl hs Ql P6 P9 P8 (fun s Q q=>LY q) rfl (fun _ _ _=>rfl) (fun _ _ _=>rfl) (fun _ _ _=>rfl) (fun it D Yl=>rs ..) (fun _ _ _=>rfl) (fun _ _ _=>rfl) (fun _ _ _=>rfl) h) (fun _ s' hq=>KE (KE hq)) fun _ _ e=>e)
inductive xl(A:Around)(h₀:Heap)(L C:Addr)(m:X7)(Yl:Env)(PO:X9)(Qb:List X9)(B:Sem Unit)(K:Shared->Prop)(it:Value)(QU:Shared):Prop
 |mk (I n:Nat) (P:Nat->Value->Prop) (fp:List Addr) (St:Nat->Heap->Prop) (src:Addr->Obj) (oI oC:Obj) (mC:X7) (news:X6):it=.ref I->fb A I n P fp St->St 0 QU.heap->Fr h₀ L QU.heap m->News h₀ L QU.heap ((I,oI)::(C,oC)::news)->bw oC mC->C≠I->iy (fun(G:Array GenState->Drawn->Prop) (J:Nat->X7->X6->Prop)=>J 0 mC news) (fun G _=>G QU.gens QU.drawn) (fun _ J=>(∀ j mC n',J j mC n'->(∀ p∈n',p.1≠I)/\∀ b∈fp,b≠I->(b,src b)∈n'∨h₀.get? b=some (src b))) (fun G J=>(∀ i v mC oC PY (oI:Obj) h g d tk,i<n->P i v->bw oC mC->J i mC PY->G g d->Fr h₀ L h m->News h₀ L h ((I,oI)::(C,oC)::PY)->nZ A h₀ L C m Yl PO Qb B I oI (J (i+1)) QU.os G v ⟨h,g,d,tk,QU.os⟩)) (fun G J=>∀ h g d tk mC oC PY,bw oC mC->J n mC PY->G g d->Fr h₀ L h m->News h₀ L h ((C,oC)::PY)->K ⟨h,g,d,tk,QU.os⟩)->xl A h₀ L C m Yl PO Qb B K it QU
theorem we{P2 t1 i1 t2 i2:X9}{f1 f2:List X9}{scope:Scope}{pos:Pos}{Yl:Env}{C D:Addr}{K:Unit->Shared->Prop}
  (h:wpAny MP A (eval i2 Yl) (fun xv P1=>wpAny MP A (pyIter xv) (xl A h₀ L C m Yl t2 f2 (dK P2 (.ref D) Yl) (K ())) E P1) E s)
  (hs:∀ x,foldedSetIterable i2 Yl x=pure x:=by intro _;rfl):
  wpAny MP A (dq (.ListComp P2 [⟨t1,i1,f1,0⟩,⟨t2,i2,f2,0⟩] scope pos) i2 (.ref D) Yl) K E s:=by
 unfold dq;refine Kz (K9 h (fun xv P1 h₁=>?_) fun _ _ e=>e);refine Kz (LG ?_);refine aa (hs _) ?_;refine Kz (KE (Kz (Lk (K9 h₁ (fun it QU Sa=>?_) fun _ _ e=>e))));obtain⟨I,n,P,fp,St,src,oI,oC,mC,news,rfl,S,h0,F,N,x0,SX,G,J,Te,QE,RF,step,last⟩:=Sa;refine Kz (wpAny_runOwn ?_);exact aa (Around.mark_none _) (gV (YL:=i2.pos) (src:=src) rfl rfl rfl (fun it=>xh ..) rfl rfl rfl S J G h0 SX x0 F N QE Te RF step fun h g d tk mC oC PY x hJ hg Xi Xj=>KE (last h g d tk mC oC PY x hJ hg Xi Xj))
variable{C:Addr}{mC:X7}{PZ:X6}{Yl:Env}{oC:Obj}
theorem wf(F:Fr h₀ L s.heap m)(N:News h₀ L s.heap news)(U:UpdF C oC news g)(xC:bw oC mC)(hC:Yl.locals=C)(hx:Yl.kindOf x=some .local)
  (h:∀ h' Qq,Fr h₀ L h' m->News h₀ L h' (g Qq)->bw Qq (fun y=>if y=x then some v else mC y)->Q () {s with heap:=h',toks:=s.toks+1})
  (hp:(Yl.scope.kind== .class||(Yl.scope.kind== .module&&Yl.locals !=Yl.globals))=false):wpAny MP A (storeName Yl x v) Q E s:=by
 subst hC;obtain⟨pre,post,rfl,hg,a,b⟩:=U.split;have hm:=N (Yl.locals,oC) (KB _ (.head _));refine wpAny_storeName_local hx (xC.ns hm.1) (fun h' hn hs=>?_) hp;obtain⟨Qq,Ru,x'⟩:=bw.of hn;exact h h' Qq (F.change hs hm.2.1 hm.2.2) (hg Qq▸N.setIn a b hs Ru) x'
theorem tR(F:Fr h₀ L s.heap m)(N:News h₀ L s.heap news)(U:UpdF C oC news g)(xC:bw oC mC)(hC:Yl.locals=C)(hx:Yl.kindOf x=some .local)
  (h:∀ h' Qq,Fr h₀ L h' m->News h₀ L h' (g Qq)->bw Qq (fun y=>if y=x then some v else mC y)->Q () {s with heap:=h',toks:=s.toks+1})
  (hp:(Yl.scope.kind== .class||(Yl.scope.kind== .module&&Yl.locals !=Yl.globals))=false):wpAny MP A (assign (.Name x px) Yl v) Q E s:=
 Oq (wf F N U xC hC hx h hp)
theorem yf(N:News h₀ L s.heap news)(hm:(C,oC)∈news)(xC:bw oC mC)(hC:Yl.locals=C)(hk:Yl.scope.kind=.function)(hx:Yl.kindOf x=some .local)(hv:mC x=some v)
  (h:Q v s) (hd:(x==("__debug__":Str))=false):wpAny MP A (eval (.Name x px) Yl) Q E s:=by
 subst hC;exact wpAny_Name (NV hk hx (xC.ns (N _ hm).1) hv h) hd
theorem qP(N:News h₀ L s.heap news)(hk:Yl.scope.kind=.function)(hx:Yl.kindOf x=some .cell)(hc:Yl.cells.lookup x=some c)(hm:(c,o)∈news)(ho:o.data=.cell (some v))
  (h:Q v s) (hd:(x==("__debug__":Str))=false):wpAny MP A (eval (.Name x px) Yl) Q E s:=
 wpAny_Name (wpAny_loadName_cell hk hx hc ⟨o,(N _ hm).1,ho⟩ h) hd
theorem qk{K:Type}[DecidableEq K]{knd:PySem.KeyKind PR w K}{D:Addr}{od:Obj}{PP:List (K×Value)}{k:K}{Qd v:Value}{g:Obj->X6}{Q:Unit->Shared->Prop}(F:Fr h₀ L s.heap m)(N:News h₀ L s.heap news)(U:UpdF D od news g)(hd:od.IsDictOf knd PP)(hz:PP.length<=1000)
  (RG:knd.is k Qd=true) (h:∀ h' od',Fr h₀ L h' m->News h₀ L h' (g od')->od'.IsDictOf knd (stored PP k v)->Q () {s with heap:=h',toks:=s.toks+1}):wpAny MP A (dictSet D Qd v) Q E s:=by
 obtain⟨pre,post,rfl,hg,a,b⟩:=U.split;have hm:=N (D,od) (KB _ (.head _));have hdo:s.heap.DictOf knd D PP:=Heap.dictOf_iff.mpr ⟨od,hm.1,hd⟩;unfold dictSet;refine Lk (Kz (knd.pyHash RG ?_));refine wpAny_dictSetHashed_pairs (s:={s with toks:=s.toks+1}) RG hdo (fun h' Ug Q5=>?_) (by refine aa Lh ?_;exact bd hz);obtain⟨od',Ru,hd2⟩:=Heap.dictOf_iff.mp Ug;exact h h' od' (F.change Q5 hm.2.1 hm.2.2) (hg od'▸N.setIn a b Q5 Ru) hd2
theorem dict0{K:Type}[DecidableEq K]{knd:PySem.KeyKind PR w K}:Obj.IsDictOf knd ({cls:= .type "dict",data:= .dict #[]}:Obj) ([]:List (K×Value)):=⟨#[],0,⟨rfl,rfl,rfl⟩,rfl,fun e he=>by simp at he, .nil,MF⟩
def ax(l:X6):Prop:=(l.map (·.1)).Nodup
theorem ax.cons:ax (p::l)↔(∀ q∈l,q.1≠p.1)/\ax l:=by
 unfold ax
 (refine aa LB ?_;rw[Ly])
 constructor
 ·rintro⟨h1,h2⟩
  exact⟨fun q hq e=>h1 (e▸KW hq),h2⟩
 ·rintro⟨h1,h2⟩
  refine⟨fun hm=>?_,h2⟩;obtain⟨q,hq,e⟩:=KK.mp hm;exact h1 q hq e
theorem ax.tail(h:ax (p::l)):ax l:=(ax.cons.mp h).2
theorem ax.ne(h:ax (p::l))(hq:q∈l):q.1≠p.1:=(ax.cons.mp h).1 q hq
theorem ax.nil:ax []:=MF
theorem e9:∀ {l:X6} (pre:X6) {post:X6},l=pre++(a,o)::post->ax l->UpdF a o l (fun o'=>pre++(a,o')::post)
 |_,[],_,rfl,h=> .head fun q hq=>h.ne hq
 |_,p::pre,_,rfl,h=> .tail (fun e=>(ax.cons.mp h).1 (a,o) (KB _ (.head _)) e.symm) (e9 pre rfl h.tail)
theorem ax.set(h:ax (pre++(a,o)::post)):ax (pre++(a,o')::post):=by
 unfold ax at h⊢;simpa using h
theorem ax.perm(h:ax l)(p:l.Perm l'):ax l':=(List.Perm.nodup_iff (p.map _)).mp h
theorem ax.append(h:ax l)(h':ax l')(hn:∀ p∈l,∀ q∈l',p.1≠q.1):ax (l++l'):=by
 unfold ax at*;refine aa KP ?_;refine Nq.mpr ⟨h,h',fun a ha b hb=>?_⟩;obtain⟨p,hp,rfl⟩:=KK.mp ha;obtain⟨q,hq,rfl⟩:=KK.mp hb;exact hn p hp q hq
theorem ax.left(h:ax (l++l')):ax l:=by unfold ax at*;rw[KP] at h;exact(Nq.mp h).1
theorem ax.right(h:ax (l++l')):ax l':=by unfold ax at*;rw[KP] at h;exact(Nq.mp h).2.1
theorem ax.apart(h:ax (l++l')):∀ p∈l,∀ q∈l',p.1≠q.1:=fun p hp q hq=>by
 unfold ax at h;rw[KP] at h;exact(Nq.mp h).2.2 _ (KW hp) _ (KW hq)
theorem ax.fresh(h:ax l)(hl:∀ p∈l,p.1<D):ax ((D,o)::l):=ax.cons.mpr ⟨fun q hq=>K8 (hl q hq),h⟩
end
theorem gk(N:News h₀ L h l)(p:l.Perm l'):News h₀ L h l':=fun q hq=>N q (p.mem_iff.mpr hq)
def qJ(xs:Array Nat):Prop:=xs.toList.Pairwise (·<·)
theorem jJ(h1:∀ k,k<i->xs.getD k j<j)(h2:∀ k,i<=k->k<xs.size->j<=xs.getD k j):∀ YH lo hi,lo<=i->i<=hi->hi<=xs.size->hi-lo<=YH->SetTable.below.go xs j YH lo hi=i
 |0,lo,hi,a,b,_,d=>Fc a b d
 |YH+1,lo,hi,a,b,c,d=>by
  show (if lo<hi then if xs.getD ((lo+hi)/2) j<j then SetTable.below.go xs j YH ((lo+hi)/2+1) hi else SetTable.below.go xs j YH lo ((lo+hi)/2) else lo)=i
  by_cases q:lo<hi
  ·refine aa (KZ q) ?_
   by_cases q2:xs.getD ((lo+hi)/2) j<j
   ·refine aa (KZ q2) ?_
    refine jJ h1 h2 YH _ _ ?_ b c (hB d);rcases M6 ((lo+hi)/2) i with q3|q3
    ·exact q3
    ·exact absurd q2 (MZ.mpr (h2 _ q3 (hL c q)))
   ·refine aa (KO q2) ?_
    refine jJ h1 h2 YH _ _ a ?_ (Eh c q) (hC d q);rcases M6 ((lo+hi)/2) i with q3|q3
    ·exact absurd (h1 _ q3) q2
    ·exact q3
  ·refine aa (KO q) ?_;exact aS a (by exact L2 [_,_,_] V1 V0 1 V1 V2 1 V2 V0 rfl b (nT q))
theorem jK(hi:i<=xs.size)(h1:∀ k,k<i->xs.getD k j<j)(h2:∀ k,i<=k->k<xs.size->j<=xs.getD k j):SetTable.below xs j=i:=jJ h1 h2 _ _ _ (K6 _) hi (K1 _) (Nat.sub_le _ _)
theorem lb(j:Nat):∀ l:List Nat,l.Pairwise (·<·)->fJ (fun i=>i<=l.length) (fun i=>(∀ k,k<i->l.getD k j<j)) (fun i=>∀ k,i<=k->k<l.length->j<=l.getD k j)
 |[],_=>⟨0,K1 _,fun k h=>absurd h (LM _),fun k _ h=>absurd h (LM _)⟩
 |a::l,h=>by
  obtain⟨ha,hl⟩:=LZ.mp h
  by_cases q:a<j
  ·obtain⟨i,h1,h2,h3⟩:=lb j l hl
   refine⟨i+1,by simpa using h1,fun k hk=>?_,fun k hk hk2=>?_⟩
   ·cases k with
    |zero=>simpa using q
    |succ k=>simpa using h2 k (by exact L1 [_,_] (.a V0 W1) V1 1 (.a (.a V0 W1) W1) (.a V1 W1) rfl hk)
   ·cases k with
    |zero=>exact E4 hk
    |succ k=>simpa using h3 k (by exact L1 [_,_] V0 V1 1 (.a V0 W1) (.a V1 W1) rfl hk) (by simpa using hk2)
  ·refine⟨0,K6 _,fun k hk=>absurd hk (LM _),fun k _ hk=>?_⟩
   cases k with
   |zero=>simpa using MZ.mp q
   |succ k=>
    have QB:k<l.length:=by simpa using hk
    have:=ha l[k] (M8 QB);simp[List.getD,QB]
    lia
theorem uu(hI:qJ xs)(j:Nat):vH (fun i=>i<=xs.size) (fun i=>(∀ k,k<i->xs.getD k j<j)) (fun i=>(∀ k,i<=k->k<xs.size->j<=xs.getD k j)) (fun i=>SetTable.below xs j=i):=by
 obtain⟨i,h1,h2,h3⟩:=lb j xs.toList hI;have e:∀ k,xs.toList.getD k j=xs.getD k j:=fun k=>by simp[List.getD,NI]
 simp only[e,Mb] at h1 h2 h3;exact⟨i,h1,h2,h3,jK h1 h2 h3⟩
theorem rZ(hI:qJ xs)(hj:¬xs[SetTable.below xs j]?=some j):qJ (SetTable.insertAt xs (SetTable.below xs j) j):=by
 obtain⟨i,h1,h2,h3,h4⟩:=uu hI j;rw[h4] at hj⊢;have eL:∀ k,k<xs.size->xs.getD k j=xs.toList.getD k j:=fun k _=>by simp[List.getD,NI]
 unfold qJ;refine aa (SetTable.toList_insertAt _ _ _) ?_;have hp:(xs.toList.take i++xs.toList.drop i).Pairwise (·<·):=aa (Pv _ _) hI;obtain⟨p1,p2,p3⟩:=List.pairwise_append.mp hp;refine List.pairwise_append.mpr ⟨p1,LZ.mpr ⟨fun y hy=>?_,p2⟩,fun x hx y hy=>?_⟩
 ·obtain⟨k,hk,rfl⟩:=LQ.mp hy
  rw[NA,Mb] at hk;refine aa List.getElem_drop ?_;have QB:i+k<xs.size:=sK h1 hk;have q:=h3 (i+k) (by exact L0 [_,_] V0 (.a V0 V1) rfl) QB;have e:xs.getD (i+k) j=xs[i+k]:=by simp[QB]
  rw[e] at q;have e2:xs.toList[i+k]'(by refine aa Mb ?_;exact QB)=xs[i+k]:=by simp
  refine aa e2 ?_;refine OY q fun q2=>?_
  cases k with
  |zero=>exact hj (by rw[ML (iS QB)];exact congrArg some q2.symm)
  |succ k=>
   have hi:i<xs.size:=iS QB;have a:=h3 i (K1 _) hi;have e3:xs.getD i j=xs[i]:=by simp[hi]
   rw[e3] at a;have b:=NU.mp hI i (i+(k+1)) (by simpa using hi) (by simpa using QB) (by exact L0 [_,_] (.a V0 W1) (.a V0 (.a V1 W1)) rfl);simp only[Array.getElem_toList] at b
   omega
 ·have lt:x<j:=by
   obtain⟨k,hk,rfl⟩:=LQ.mp hx;rw[Ms,Mb] at hk;refine aa List.getElem_take ?_;have q:=h2 k (mL hk);have QB:k<xs.size:=mR hk;have e:xs.getD k j=xs[k]:=by simp[QB]
   rw[e] at q;simpa using q
  rcases KI.mp hy with rfl|hy
  ·exact lt
  ·exact p3 x hx y hy
structure eF(t:SetTable):Prop where
 inc:qJ t.place
 dum:t.dummies=#[]
theorem qX(j:Nat):SetTable.has #[] j=false:=by unfold SetTable.has;simp
theorem pB{t:SetTable}(hd:t.dummies=#[]){hashAt:Nat->Int}{h:Int}{j:Nat}{d:Option Nat}:∀ YH p,p.dummy=none->SetTable.probe.go t hashAt h YH p=some (.empty j d)->d=none/\¬t.place[SetTable.below t.place j]?=some j
 |0,p,_,e=>by cases e
 |YH+1,p,hp,e=>by
  change (match t.slot p.j with| .empty=>some (SetTable.Met.empty p.j p.dummy)| .dummy=>SetTable.probe.go t hashAt h YH (t.advance {p with dummy:=some p.j})| .live i=>if hashAt i==h then some (.candidate p.j i (t.advance p)) else SetTable.probe.go t hashAt h YH (t.advance p))=_ at e
  cases hs:t.slot p.j with
  |empty=>
   rw[hs] at e;simp only[Option.some.injEq,SetTable.Met.empty.injEq] at e;obtain⟨rfl,rfl⟩:=e;refine⟨hp,fun q=>?_⟩;unfold SetTable.slot at hs;simp only[q,OG,if_true] at hs
   cases hs
  |dummy=>
   unfold SetTable.slot at hs;dsimp only at hs;rw[hd,qX] at hs
   split at hs
   ·cases hs
   ·simp at hs
  |live i=>
   rw[hs] at e;dsimp only at e
   split at e
   ·cases e
   ·refine pB hd YH _ ?_ e
    unfold SetTable.advance
    split
    ·exact hp
    ·exact hp
theorem qo{t:SetTable}(hd:t.dummies=#[]){h:Int}{j:Nat}{b:Bool}(e:t.freeSlot h=some (j,b)):¬t.place[SetTable.below t.place j]?=some j:=by
 revert e;unfold SetTable.freeSlot SetTable.probe;generalize he:SetTable.probe.go t _ _ _ _=r
 cases r with
 |none=>intro e;cases e
 |some v=>
  cases v with
  |empty j' d=>
   intro e;obtain⟨rfl,h2⟩:=pB hd _ _ rfl he;simp only[Option.some.injEq,Prod.mk.injEq,Option.getD_none] at e;refine ae e.1 ?_;exact h2
  |_=>intro e;cases e
theorem fv(t:SetTable)(n:Nat):eF (t.standIn n):=⟨by unfold qJ SetTable.standIn;simp[List.pairwise_lt_range],rfl⟩
theorem pj(h:eF t)(n:Nat):eF (t.orStandIn n):=by unfold SetTable.orStandIn;split;exact h;exact fv t n
theorem nN{t:SetTable}(n:Nat):(t.orStandIn n).led=t.led:=by unfold SetTable.orStandIn;split<;>rfl
theorem uC{t:SetTable}(h:eF t)(es:Array (Int×Value))(k:Int)(x:Value):eF (layNew t es k x).2.1/\(layNew t es k x).2.1.led=t.led:=by
 unfold layNew
 split
 ·rename_i j b e
  refine⟨pj ⟨?_,?_⟩ _,(nN _).trans rfl⟩
  ·exact rZ h.inc (qo h.dum e)
  ·show (if SetTable.has t.dummies j then _ else t.dummies)=#[]
   refine aa h.dum (aa (qX _) ?_);rfl
 ·exact⟨fv _ _,rfl⟩
theorem yq{mask Xq moves:Nat}{led plain:Bool}{hs:Array Int}{t:SetTable}{o:Array Nat}(e:SetTable.laid mask Xq moves led plain hs=some (t,o)):eF t/\t.led=led:=by
 unfold SetTable.laid at e;simp only[bind,Option.bind_eq_some_iff] at e;obtain⟨ow,_,e⟩:=e;simp only[pure,Option.some.injEq,Prod.mk.injEq] at e;obtain⟨rfl,_⟩:=e;refine⟨⟨?_,rfl⟩,rfl⟩;show List.Pairwise _ _;simp only[List.map_filterMap];refine List.Pairwise.filterMap _ ?_ (List.pairwise_lt_range);intro a a' Si b hb b' RZ;have e1:∀ (x y:Nat),Option.map (fun z:Nat×Nat=>z.1) (Option.map (fun z=>(x,z)) (ow.getD x none))=some y->y=x:=fun x y q=>by
  cases hq:ow.getD x none with
  |none=>rw[hq] at q;cases q
  |some z=>rw[hq] at q;simp at q;exact q.symm
 exact aa (e1 a b hb) (aa (e1 a' b' RZ) Si)
theorem qy(h:eF t)(es:Array (Int×Value))(n:Nat):eF (relayAll t es n).2.1/\(relayAll t es n).2.1.led=t.led:=by
 unfold relayAll
 split
 ·rename_i t' o e
  unfold SetTable.relaid at e;have:=yq e;dsimp only
  split
  ·exact this
  ·exact⟨fv _ _,rfl⟩
 ·exact⟨fv _ _,rfl⟩
theorem qr(t:SetTable)(es:Array (Int×Value))(h:Int)(x:Value):(layNew t es h x).2.1.mask=t.mask∨(layNew t es h x).2.1.mask=4*(es.size+1)+4:=by
 unfold layNew
 split
 ·dsimp only
  unfold SetTable.orStandIn
  split
  ·exact .inl rfl
  ·right
   show 4*(SetTable.insertAt es _ _).size+4=_;have q:∀ p,(SetTable.insertAt es p (h,x)).size=es.size+1:=fun p=>by
    have:=(SetTable.insertAt_perm es p (h,x)).length_eq;simpa only[Mb,Array.size_push] using this
   exact aa (q _) rfl
 ·exact .inr rfl
section
variable{K:Type}[DecidableEq K][BEq K][LawfulBEq K]
def bb(knd:PySem.KeyKind PR w K)(o:Obj)(PP:List (K×Value)):Prop:=
 o.ExactSet/\yZ (fun es ep t=>o.data=.set es ep t) (fun es _ _=>ElemsOf knd es.toList) (fun es _ _=>(es.toList.map (·.2)).Perm (PP.map (·.2))) (fun _ _ _=>(∀ x∈PP,knd.is x.1 x.2=true)) (fun es _ t=>t.fits es.size=true) (fun _ _ t=>eF t) (fun _ _ t=>(w.params.followText "set-order"=false->t.led=true)) (fun es _ t=>(es.size<=1->7<=t.mask))
variable{knd:PySem.KeyKind PR w K}{A:Around}{E:X8}{s:Shared}
theorem bb.obj(h:bb knd o PP):o.SetObjOf knd (fun k=>decide (k∈PP.map (·.1))) PP.length:=by
 obtain⟨hx,es,ep,t,hd,Uj,hp,hk,hf,_,_,_⟩:=h;refine⟨hx,es,ep,t,hd,Uj,fun k=>?_,by have:=hp.length_eq;simpa using this,hf⟩;rw[decide_eq_true_iff]
 constructor
 ·intro hm
  obtain⟨x,hx,rfl⟩:=KK.mp hm;obtain⟨e,he,e2⟩:=KK.mp (hp.mem_iff.mpr (KW (f:=(·.2)) hx));exact⟨e,he,by refine aa e2 ?_;exact hk x hx⟩
 ·rintro⟨e,he,SG⟩
  obtain⟨x,hx,e2⟩:=KK.mp (hp.mem_iff.mp (KW (f:=(·.2)) he));exact KK.mpr ⟨x,hx,knd.inj e.2 _ _ (by refine ae e2 ?_;exact hk x hx) SG⟩
theorem lP(h:w.params.followText "set-order"=false->led=true):bb knd {cls:= .type "set",dict:=none,data:= .set #[] 0 (.fresh 0 0 led)} []:=
 ⟨⟨rfl,rfl,rfl⟩,#[],0,_,rfl,fun e he=>by simp at he,by simp,fun x hx=>(nomatch hx),rfl,⟨List.Pairwise.nil,rfl⟩,h,fun _=>K1 _⟩
theorem wM(h:∀ o,bb knd o []->Q (.ref s.heap.objs.size) {s with heap:=s.heap.push o}):wpAny MP A (newSet (.type "set")) Q E s:=by
 unfold newSet setsByText;refine Kz (Kz (MW (KE ?_)));dsimp only;simp only[newObj];refine Kz (wpAny_alloc (KE (h _ (lP fun e=>?_))));show (!w.params.followText "set-order")=true;refine aa e ?_;rfl
theorem vj{PP:List (K×Value)}{k:K}{x:Value}{es:Array (Int×Value)}(RG:knd.is k x=true)(hp:(es.toList.map (·.2)).Perm (PP.map (·.2)))(hk:∀ x∈PP,knd.is x.1 x.2=true):(es.toList.findIdx? (fun e=>knd.is k e.2)).isSome=decide (k∈PP.map (·.1)):=by
 (rw[M2,decide_eq_true_iff];refine aa List.findIdx?_isSome ?_;rw[List.any_eq_true])
 constructor
 ·rintro⟨e,he,SG⟩
  obtain⟨y,hy,e2⟩:=KK.mp (hp.mem_iff.mp (KW (f:=(·.2)) he));exact KK.mpr ⟨y,hy,knd.inj e.2 _ _ (by refine ae e2 ?_;exact hk y hy) SG⟩
 ·intro hm
  obtain⟨y,hy,rfl⟩:=KK.mp hm;obtain⟨e,he,e2⟩:=KK.mp (hp.mem_iff.mpr (KW (f:=(·.2)) hy));exact⟨e,he,by refine aa e2 ?_;exact hk y hy⟩
theorem pL{a:Addr}{o:Obj}{PP:List (K×Value)}{k:K}{x:Value}{Q:Bool->Shared->Prop}(RG:knd.is k x=true)(VJ:x.scannable=true)(ho:s.heap.get? a=some o)(hS:bb knd o PP)(Qc:PP.length+1<scanBound)
  (R9:k∈PP.map (·.1)->Q false s) (Rm:¬k∈PP.map (·.1)->∀ h' o',Heap.SameBut a s.heap h'->h'.get? a=some o'->bb knd o' (PP++[(k,x)])->Q true {s with heap:=h'}):
  wpAny MP A (setAddHashed a x (knd.hash k)) Q E s:=by
 obtain⟨hex,es,ep,t,hd,Uj,hp,hk,hf,VL,Rk,Wk⟩:=hS;have QK:es.size=PP.length:=by have:=hp.length_eq;simpa using this
 have hb:es.size<scanBound:=L2 [_,_,_] (.a V2 W1) V1 1 (.a (.a V0 W1) W1) V1 1 V2 V0 rfl Qc (eL QK);have Vh:=vj (es:=es) RG hp hk;unfold setAddHashed setAddHashedIn;refine Lk (Kz (wpAny_setState_of ho hd hf ?_));dsimp only;refine aa (byScan_of VJ hb Uj) (aa (KZ rfl) ?_);unfold setAddByScan;refine Kz ?_;refine Kz (MC ?_);refine Kz (wpAny_setScan_of RG ho hd hf Uj ?_)
 cases hr:List.findIdx? (fun e=>knd.is k e.2) es.toList with
 |some j=>
  rw[hr] at Vh;exact KE (KE (R9 (Nu Vh.symm)))
 |none=>
  rw[hr] at Vh;have Q8:¬k∈PP.map (·.1):=of_decide_eq_false Vh.symm;dsimp only;have hgw:∀ (b:Bool) (P1:Shared) (Q':Unit->Shared->Prop),Q' () P1->wpAny MP A (match b with|true=>rule "set.scan.the-table-gave-way"|false=>pure ()) Q' E P1:=
   fun b P1 Q' hq=>by cases b<;>first|exact KE hq|exact MC hq
  have QC:=layNew_perm t es (knd.hash k) x;have Uk:=layNew_fits t es (knd.hash k) x;have Qe:=uC VL es (knd.hash k) x;have TP:=qr t es (knd.hash k) x;generalize layNew t es (knd.hash k) x=R at QC Uk Qe TP⊢;obtain⟨QZ,t1,W2,gave⟩:=R;dsimp only at QC Uk Qe TP⊢;rw[Array.toList_push] at QC;have hel1:ElemsOf knd QZ.toList:=(Uj.push RG VJ).perm QC;have VE:(QZ.toList.map (·.2)).Perm ((PP++[(k,x)]).map (·.2)):=by
   refine(QC.map _).trans ?_;exact aa KP (aa KP (hp.append_right _))
  have hk1:∀ y∈PP++[(k,x)],knd.is y.1 y.2=true:=fun y hy=>by
   rcases KM.mp hy with hy|hy
   ·exact hk y hy
   ·rw[KF] at hy;subst hy;exact RG
  have UM:QZ.size<scanBound:=by
   have:=QC.length_eq;simp only[Mb,KJ,Nb] at this;exact L3 [_,_,_,_] (.a V3 W1) V1 1 (.a (.a V0 W1) W1) V1 1 V2 V0 1 V3 (.a V2 W1) rfl Qc (eL QK) (eL this)
  have Wu:QZ.size=es.size+1:=by
   have:=QC.length_eq;simpa only[Mb,KJ,Nb] using this
  have UT:QZ.size<=1->7<=t1.mask:=fun q=>by
   rcases TP with q2|q2
   ·refine aa q2 ?_;exact Wk (by exact L4 [_,_,_] V0 W1 2 V0 V1 2 V1 V0 1 (.a V0 W1) V2 1 V2 W1 rfl (eL QK) (eG QK) (eG Wu) q)
   ·refine aa q2 ?_;exact L0 [_] (.n 7) (.a (.m 4 (.a V0 W1)) (.n 4)) rfl
  refine Kz (hgw _ _ _ ?_);have tail:∀ t2:SetTable,t2.fits QZ.size=true->eF t2->t2.led=t.led->t2.mask=t1.mask->wpAny MP A (do
    storeSet a QZ t2
    if (!W2&&t2.tooFull)=true then do
      (match (relayAll t2 QZ (SetTable.grown QZ.size)).2.2 with|true=>rule "set.scan.the-table-gave-way"|false=>pure ())
      storeSet a (relayAll t2 QZ (SetTable.grown QZ.size)).1 (relayAll t2 QZ (SetTable.grown QZ.size)).2.1
      pure (some true)
     else pure (some true)) (fun r s'=>wpAny MP A (match r with|some added=>pure added|none=>setAddHashedIn a x (knd.hash k) 99999) Q E s') E s:=by
   intro t2 UO WM Xd WB;refine Kz (wpAny_storeSet_of ho hd ?_ (fits_of_scanBound UM));have hg1:(s.heap.update a (Obj.putSet QZ t2)).get? a=some {o with data:= .set QZ (ep+1) t2}:=by
    have:=MO (Obj.putSet QZ t2) ho (by refine aa (putSet_of QZ t2 hd) ?_;rfl);rw[putSet_of QZ t2 hd] at this;exact this
   have hsb1:=Lp s.heap a (Obj.putSet QZ t2)
   split
   ·rename_i hfull
    have TQ:=relayAll_perm t2 QZ (SetTable.grown QZ.size);have Um:=relayAll_fits t2 QZ (SetTable.grown QZ.size);have VD:=qy WM QZ (SetTable.grown QZ.size);generalize relayAll t2 QZ (SetTable.grown QZ.size)=R at TQ Um VD⊢;obtain⟨Vm,t3,gave2⟩:=R;dsimp only at TQ Um VD⊢;have Ue:Vm.size<scanBound:=by have:=TQ.length_eq;simp only[Mb] at this;exact L4 [_,_,_,_,_] (.a (.v 4) W1) V1 1 (.a (.a V0 W1) W1) V1 1 V2 V0 1 V3 (.a V2 W1) 1 (.v 4) V3 rfl Qc (eL QK) (eL Wu) (eL this)
    refine Kz (hgw _ _ _ ?_);refine Kz (wpAny_storeSet_of hg1 rfl ?_ (fits_of_scanBound Ue));have hg2:((s.heap.update a (Obj.putSet QZ t2)).update a (Obj.putSet Vm t3)).get? a=some {o with data:= .set Vm (ep+1+1) t3}:=by
     have:=MO (Obj.putSet Vm t3) hg1 (by refine aa (putSet_of Vm t3 rfl) ?_;rfl);rw[putSet_of Vm t3 rfl] at this;exact this
    refine KE (KE (Rm Q8 _ _ (hsb1.trans (Lp _ a _)) hg2 ⟨hex,Vm,_,t3,rfl,hel1.perm TQ,(TQ.map _).trans VE,hk1,Um,VD.1,fun e=>by refine aa VD.2 (aa Xd ?_);exact Rk e,fun q=>?_⟩))
    exfalso
    have q1:=TQ.length_eq;simp only[Mb] at q1;have q2:=UT (q8 q q1);rw[←WB] at q2;simp only[Ny,SetTable.tooFull,MJ] at hfull;have q3:t2.fill<=1:=by
     unfold SetTable.fits at UO;simp only[Ny,Mz] at UO;unfold SetTable.fill;refine aa UO.1 (aa WM.dum ?_);show QZ.size+0<=1;exact L6 [_,_,_,_] (.a V2 W0) W1 2 V0 V1 2 V1 V0 1 V2 (.a V0 W1) 1 (.a V0 W1) V2 1 V3 W1 1 V2 V3 rfl (eL QK) (eG QK) (eL Wu) (eG Wu) q (eG q1)
    lia
   ·exact KE (KE (Rm Q8 _ _ hsb1 hg1 ⟨hex,QZ,_,t2,rfl,hel1,VE,hk1,UO,WM,fun e=>by refine aa Xd ?_;exact Rk e,fun q=>by refine aa WB ?_;exact UT q⟩))
  split
  ·refine Kz ?_
   refine aa (hashByValue_scannable 8 VJ) ?_;refine KE ?_
   cases plainKind x with
   |true=>exact tail t1 Uk Qe.1 Qe.2 rfl
   |false=>exact tail {t1 with plain:=false} (SetTable.fits_plain_off Uk) ⟨Qe.1.inc,Qe.1.dum⟩ Qe.2 rfl
  ·exact Kz (KE (tail t1 Uk Qe.1 Qe.2 rfl))
end
theorem kJ(h:i<l.length):(l[i]::l.eraseIdx i).Perm l:=by
 refine aa (List.eraseIdx_eq_take_drop_succ _ _) ?_;refine Lf.symm.trans (.of_eq ?_);exact aa (List.getElem_cons_drop _) (aa (Pv _ _) rfl)
theorem nB(next:Nat->Nat):∀ (YH k:Nat) (l:List α) (out:Array α),l.length<=YH->(pickOrder.go next YH k l out).toList.Perm (out.toList++l)
 |0,k,l,out,h=>by
  have:l=[]:=List.length_eq_zero_iff.mp (by exact aS (bd h) (by exact L0 [_] W0 V0 rfl));subst this;show out.toList.Perm (out.toList++[]);rw[Lj]
 |YH+1,k,l,out,h=>by
  show (match l[next k%l.length]? with|some x=>pickOrder.go next YH (k+1) (l.eraseIdx (next k%l.length)) (out.push x)|none=>out).toList.Perm _
  cases hl:l[next k%l.length]? with
  |none=>
   have:l=[]:=by
    rw[List.getElem?_eq_none_iff] at hl
    cases l with
    |nil=>rfl
    |cons a l=>exact absurd (Ma (next k) (by simp:0<(a::l).length)) (MZ.mpr hl)
   subst this;dsimp only;rw[Lj]
  |some x=>
   dsimp only;obtain⟨PW,hx⟩:=Ll.mp hl;refine(nB next YH _ _ _ (by refine aa List.length_eraseIdx ?_;split<;>lia)).trans ?_;refine aa Array.toList_push (aa (KS _ _ _) ?_);refine Lu _ ?_;exact ae hx (kJ PW)
theorem mH(next:Nat->Nat)(xs:Array α):(pickOrder next xs).toList.Perm xs.toList:=by
 have:=nB next xs.size 0 xs.toList #[] (by simp)
 simpa [pickOrder] using this
section
variable{A:Around}{E:X8}{s:Shared}
theorem pY(hn:n≠0)(h:∀ i d,i<n->Q i {s with drawn:=d}):wpAny MP A (choose src n) Q E s:=fun Γ p hΓ=>by
 unfold choose;rw[Sem.wp_choose];exact⟨hn,h _ _ (Ma _ (NM hn))⟩
theorem gu:∀ (n:Nat) (l:List α) (s:Shared) (Q:List α->Shared->Prop),l.length=n->(∀ l' d,l'.Perm l->Q l' {s with drawn:=d})->wpAny MP A (drawOrder n l) Q E s
 |0,l,s,Q,hl,h=>by
  have:l=[]:=List.length_eq_zero_iff.mp hl;subst this;exact KE (h [] s.drawn (.refl _))
 |n+1,[],s,Q,hl,h=>by cases hl
 |n+1,a::l,s,Q,hl,h=>by
  refine Kz (pY (by refine aa hl ?_;exact Pp n) fun i d hi=>?_);refine aa (KL hi) ?_;dsimp only;refine Kz (gu n _ _ _ (by refine aa List.length_eraseIdx (aa (KZ hi) (aa hl ?_));rfl) fun l' d' hp=>KE (h _ _ ?_));exact(hp.cons _).trans (kJ hi)
theorem iP:Manifest.owners.lookup (String.ofList ['r','o','t','a','r','e','t','i','_','t','e','s'].reverse)=some Manifest.sig_set_iterator:=by kernel_rfl
theorem gq:Slot "set_iterator" "__next__" "set_iterator.__next__":=
 .of (owner:="set_iterator") (n:="__next__") (by refine aa (Ok _ _) (aa Ng ?_);kernel_rfl) (by decide+kernel) (by decide+kernel) (by decide+kernel)
  (by first|exact .inl (by decide+kernel)|exact .inr (by decide+kernel)) (by refine aa (NY _ _) ?_;kernel_rfl)
theorem jN:entryFor table "set_iterator.__next__"=some Builtin.«set_iterator.__next__»:=OJ (by kernel_rfl)
theorem ki(a:Value):argsOk "set_iterator.__next__" ⟨[a],[]⟩:=by
 unfold argsOk;refine aa (signature?_of (id:="set_iterator.__next__") (n:=['_','_','t','x','e','n','_','_']) (o:=['r','o','t','a','r','e','t','i','_','t','e','s']) (by kernel_rfl) iP) ?_;kernel_rfl
theorem mv:entryFor table "set.__iter__"=some Builtin.«frozenset.__iter__»:=
 entryFor_alias (id':="frozenset.__iter__") (by refine aa (fastTable_eq_tree _) ?_;kernel_rfl) (by first|rfl|decide+kernel) (by decide+kernel) (by refine aa (fastTable_eq_tree _) ?_;kernel_rfl)
noncomputable abbrev cP (first:Value) (i:Nat) (a:Addr) (n ep:Nat):Obj:={cls:= .type "set_iterator",data:= .fields #[first,rawInt i, .ref a,rawInt n,rawInt ep]}
inductive eU(a:Addr)(es:Array (Int×Value))(ep:Nat)(t:SetTable)(h:Heap)(vs:Yb)(i:Nat):Value->Prop
 |text:w.params.followText "set-order"=true->vs=(pickOrder (w.params.setOrder a ep) es).toList.map (·.2)->eU a es ep t h vs i (rawInt ((0:Nat):Int))
 |draw (T:Addr) (ps:List Nat):h.IsTuple T (ps.map fun(p:Nat)=>rawInt (p:Int)).toArray->ps.Perm (List.range es.size)->vs=ps.map (fun p=>((es[p]?).map (·.2)).getD .none)->eU a es ep t h vs i (.ref T)
 |slot (k:Nat):w.params.followText "set-order"=false->t.led=true->eF t->(!t.plain&&decide (es.size>1))=false->vs=es.toList.map (·.2)->SetTable.below t.place k=i->eU a es ep t h vs i (rawInt (k:Int))
def eV(a:Addr)(es:Array (Int×Value))(ep:Nat)(t:SetTable)(vs:Yb)(I:Addr)(i:Nat)(h:Heap):Prop:=
 (fJ (fun o=>h.get? a=some o) (fun o=>o.cls=.type "set") (fun o=>o.data=.set es ep t))/\t.fits es.size=true/\vs.length=es.size/\aO (fun first=>h.get? I=some (cP first i a es.size ep)) (fun first=>eU a es ep t h vs i first)
theorem dP
  (ho:s.heap.get? a=some o) (hd:o.data=.set es ep t) (hf:t.fits es.size=true) (h:Q (es,ep,t) s):wpAny MP A (setState a) Q E s:=
 wpAny_setState_of ho hd hf h
theorem iV(hb:w.params.followText "set-order"=true)
  (ho:s.heap.get? a=some o) (hd:o.data=.set es ep t) (hf:t.fits es.size=true) (h:Q (((pickOrder (w.params.setOrder a ep) es)[i]?).map fun e=>(e.2,k)) s):wpAny MP A (setNext a k i ep) Q E s:=by
 unfold setNext;refine Kz (dP ho hd hf ?_);dsimp only;unfold setsByText;refine Kz (Kz (MW (KE ?_)));refine aa (show (Setting.params ⟨MP.prog,MP.w.params⟩).followText "set-order"=true from hb) (aa (KZ rfl) ?_);refine aa (KO (by simp)) ?_;unfold setWalk;refine Kz (Kz (dP ho hd hf ?_));dsimp only;unfold setsByText;refine Kz (Kz (MW (KE ?_)));refine aa (show (Setting.params ⟨MP.prog,MP.w.params⟩).followText "set-order"=true from hb) (aa (KZ rfl) ?_);refine Kz (MW (KE ?_));exact KE h
theorem iU(hb:w.params.followText "set-order"=false)
  (ho:s.heap.get? a=some o) (hd:o.data=.set es ep t) (hf:t.fits es.size=true) (hl:t.led=true) (Ui:(!t.plain&&decide (es.size>1))=false)
  (h:Q (match es[SetTable.below t.place k]?,t.place[SetTable.below t.place k]? with|some (_,x),some j=>some (x,j+1)|_,_=>none) s):wpAny MP A (setNext a k i ep) Q E s:=by
 unfold setNext;refine Kz (dP ho hd hf ?_);dsimp only;unfold setsByText;refine Kz (Kz (MW (KE ?_)));refine aa (show (Setting.params ⟨MP.prog,MP.w.params⟩).followText "set-order"=false from hb) (aa (KO KR) ?_);show wpAny _ _ (if (!t.plain&&decide (es.size>1))=true then _ else _) _ _ _;refine aa Ui (aa (KO KR) ?_);show wpAny _ _ ((if (!t.led&& !es.isEmpty)=true then _ else pure ())>>=_) _ _ _;refine aa hl ?_;refine Kz (KE ?_);exact KE h
theorem iv
  (hI:s.heap.get? I=some (cP first i a n ep)) (ho:s.heap.get? a=some o) (hd:o.data=.set es ep t) (hf:t.fits es.size=true) (hn:n=es.size)
  (h:wpAny MP A.in1 (match first with
   | .int slot _=>(setNext a slot.toNat i ep>>=fun r=>match r with
     |some (x,next)=>setField (.ref I) 0 (rawInt next)>>=fun _=>setField (.ref I) 1 (rawInt ((i:Int)+1))>>=fun _=>ret x
     |none=>setField (.ref I) 2 .none>>=fun _=>(newExc (.type "StopIteration") []>>=fun e=>raiseNew e))
   |_=>(seqItems? first>>=fun ps?=>match ps? with
     |some XD=>(match XD[i]? with
      |some (.int place _)=>setNextDrawn a place.toNat ep>>=fun x=>setField (.ref I) 1 (rawInt ((i:Int)+1))>>=fun _=>ret x
      |some _=>unsupported "internal:set_iterator"
      |none=>setField (.ref I) 0 (rawInt 0)>>=fun _=>setField (.ref I) 2 .none>>=fun _=>(newExc (.type "StopIteration") []>>=fun e=>raiseNew e))
     |none=>unsupported "internal:set_iterator"))
   (fun fin s'=>∃ v,fin=.done (.ret v)/\Q (some v) s') (fun e s'=>(aO (fun o=>s'.heap.get? (match e with| .ref b=>b|_=>0)=some o) (fun o=>o.cls=.type "StopIteration"))/\(∃ b,e=.ref b)/\Q none s') s):
  wpAny MP A (pyNext (.ref I)) Q E s:=by
 have hT:s.TypeIs (.ref I) "set_iterator":=⟨_,hI,rfl⟩;unfold pyNext;refine Kz (Nw (Mo (name:=Ye "__next__") hT gq
  (LS gq hT jN ?_ (ki _))))
 show wpAny _ _ (fieldsOf (.ref I)>>=_) _ _ s;refine Kz (wpAny_fieldsOf hI rfl ?_);show wpAny _ _ (setEntries a>>=_) _ _ s;refine Kz (wpAny_setEntries_of ho hd hf ?_);refine aa (KO (by rw[hn];simp)) ?_;have Qd:∀ {T T':Sem PySem.Fin} {Qa:PySem.Fin->Shared->Prop} {Ea:X8},T=T'->wpAny MP A.in1 T' Qa Ea s->wpAny MP A.in1 T Qa Ea s:=fun e q=>e▸q;refine Qd ?e (K9 h (fun fin s' hq=>?a) fun e s' hq=>?b)
 case a=>
  obtain⟨v,rfl,hq⟩:=hq;exact⟨v,rfl,KE hq⟩
 case b=>
  obtain⟨⟨o,ho,hc⟩,⟨b,rfl⟩,hq⟩:=hq;exact Kz (NG (T:="StopIteration") (b:=true) ⟨o,ho,hc⟩ isSubtype_stop (KE hq))
 case e=>
  cases first<;>first|rfl|exact congrArg (fun f=>Bind.bind (seqItems? _) f) (funext fun x=>by cases x<;>rfl)
theorem mK(hh:A.handled=none)(h:∀ h' e o,(∀ b x,s.heap.get? b=some x->h'.get? b=some x)->h'.get? e=some o->o.cls=.type "StopIteration"->E' (.ref e) {s with heap:=h'}):
  wpAny MP A.in1 (newExc (.type "StopIteration") []>>=fun e=>raiseNew e) Q E' s:=
 ft hh (h _ _ _ (fun b x e=>KN _ (KN _ e)) (Lc _ rfl) rfl)
theorem bJ(hI:s.heap.get? I=some (cP first i a n ep))(hk:k<5)
  (h:∀ h',Heap.SameBut I s.heap h'->h'.get? I=some {cls:= .type "set_iterator",data:= .fields (#[first,rawInt i, .ref a,rawInt n,rawInt ep].setIfInBounds k x)}->Q () {s with heap:=h'}):wpAny MP A (setField (.ref I) k x) Q E s:=by
 refine O5 hI rfl hk (h _ (Lp ..) ?_);have:=MO (Obj.mapFields (·.setIfInBounds k x)) hI (Ow (NN rfl _));exact this
variable{a I S:Addr}{i:Nat}{ep:Nat}{es:Array (Int×Value)}{t:SetTable}{vs:Yb}
theorem eU.move(hk:∀ T xs,h.IsTuple T xs->h'.IsTuple T xs)(x:eU a es ep t h vs i first)(hs:∀ k:Nat,first=rawInt (k:Int)->SetTable.below t.place k=i->w.params.followText "set-order"=false->i=j):eU a es ep t h' vs j first:=by
 cases x with
 |text b e=>exact .text b e
 |draw T ps h1 h2 h3=>exact .draw T ps (hk _ _ h1) h2 h3
 |slot k h1 h2 h3 h4 h5 h6=>exact .slot k h1 h2 h3 h4 h5 (h6.trans (hs k rfl h6 h1))
theorem eV.upd(x:eV a es ep t vs I i h)(hS:h.get? S=some ol)(hc:ol.cls=.type "list")(hk:Heap.SameBut S h h'):eV a es ep t vs I i h':=by
 obtain⟨⟨o,ho,hr,hr2⟩,hf,hl,first,hI,T6⟩:=x;have ne:∀ b o,h.get? b=some o->o.cls≠ .type "list"->b≠S:=fun b o e n=>by rintro rfl;rw[hS] at e;cases e;exact n hc
 refine⟨⟨o,hk.extBut _ _ (ne _ _ ho (by refine aa hr ?_;decide)) ho,hr,hr2⟩,hf,hl,first,hk.extBut _ _ (ne _ _ hI (by show Value.type "set_iterator"≠Value.type "list";decide)) hI,T6.move (fun T xs ⟨o,e,r⟩=>⟨o,hk.extBut _ _ (ne _ _ e (by refine aa r.1 ?_;decide)) e,r⟩) fun _ _ _ _=>rfl⟩
theorem eV.item(x:eV a es ep t vs I i s.heap)(hi:i<es.size)
  (h:∀ v h',vs[i]?=some v->eV a es ep t vs I (i+1) h'->Heap.SameBut I s.heap h'->Q (some v) {s with heap:=h'}):wpAny MP A (pyNext (.ref I)) Q E s:=by
 obtain⟨⟨o,ho,QW,hd⟩,hf,hl,first,hI,T6⟩:=x;have hIa:a≠I:=by rintro rfl;rw[ho] at hI;cases hI;cases hd
 have aft:∀ {h'},Heap.SameBut I s.heap h'->h'.get? a=some o:=fun k=>k.extBut _ _ hIa ho;have YJ:∀ {h'},Heap.SameBut I s.heap h'->∀ T xs,s.heap.IsTuple T xs->h'.IsTuple T xs:=fun k T xs ⟨o,e,r⟩=>⟨o,k.extBut _ _ (by rintro rfl;rw[hI] at e;cases e;exact absurd r.1 (by show Value.type "set_iterator"≠Value.type "tuple";decide)) e,r⟩;refine iv hI ho hd hf rfl ?_
 cases T6 with
 |text b e=>
  refine Kz (iV b ho hd hf ?_);have S0:i<(pickOrder (w.params.setOrder a ep) es).size:=by
   have:=congrArg List.length e;simp only[KG,Mb] at this;exact L4 [_,_,_,_] (.a V0 W1) V3 1 (.a V0 W1) V1 2 V2 V1 3 V1 V2 1 V2 V3 rfl hi (eL hl) (eG hl) (eL this)
  refine aa (ML S0) ?_;refine Kz (bJ hI (by decide) fun h1 k1 g1=>Kz (bJ (first:=rawInt ((0:Nat):Int)) g1 (by decide) fun h2 k2 g2=>KE ⟨_,rfl,h _ _ ?_ ⟨⟨o,aft (k1.trans k2),QW,hd⟩,hf,hl,rawInt ((0:Nat):Int),g2, .text b e⟩ (k1.trans k2)⟩));refine aa e (aa LX (aa (KL (by simpa using S0)) ?_));simp
 |slot k h1 h2 h3 h4 h5 h6=>
  refine Kz (iU h1 ho hd hf h2 h4 ?_);have hp:t.place.size=es.size:=by unfold SetTable.fits at hf;simp only[Ny,Mz] at hf;exact hf.1
  refine aa (La _) (aa h6 (aa (ML hi) (aa (ML (q1 hi hp)) ?_)));refine Kz (bJ hI (by decide) fun h1' k1 g1=>Kz (bJ (first:=rawInt ((t.place[i]+1:Nat):Int)) g1 (by decide) fun h2' k2 g2=>KE ⟨_,rfl,h _ _ ?_ ⟨⟨o,aft (k1.trans k2),QW,hd⟩,hf,hl,rawInt ((t.place[i]+1:Nat):Int),g2, .slot _ h1 h2 h3 h4 h5 ?_⟩ (k1.trans k2)⟩))
  ·refine aa h5 (aa LX (aa Array.getElem?_toList (aa (ML hi) ?_)));rfl
  ·have inc:=h3.inc
   refine jK (q1 hi hp) (fun j hj=>?_) fun j hj SF=>?_
   ·have SE:j<t.place.size:=L3 [_,_,_,_] (.a V3 W1) V2 1 (.a V0 W1) V1 1 V1 V2 1 (.a V3 W1) (.a V0 W1) rfl hi (eG hp) hj
    refine aa (show t.place.getD j (t.place[i]+1)=t.place[j] by simp[SE]) ?_;rcases N8.mp hj with q|rfl
    ·have:=NU.mp inc j i (by simpa using SE) (by simp;exact q1 hi hp) q
     simp only[Array.getElem_toList] at this;exact EN this
    ·lia
   ·refine aa (show t.place.getD j (t.place[i]+1)=t.place[j] by simp[SF]) ?_
    have:=NU.mp inc i j (by simp;exact q1 hi hp) (by simpa using SF) hj;simp only[Array.getElem_toList] at this;exact BS this
 |draw T ps h1 h2 h3=>
  have Qy:ps.length=es.size:=by have:=h2.length_eq;simpa using this
  obtain⟨oT,hoT,hcT,nT,hdT⟩:=id h1;refine Kz (NZ hoT hdT ?_);have S0:i<ps.length:=q1 hi Qy;have Yy:ps[i]<es.size:=NX.mp (h2.mem_iff.mp (M8 S0));dsimp only;refine aa (show (ps.map fun(p:Nat)=>rawInt (p:Int)).toArray[i]?=some (rawInt (ps[i]:Nat)) by simp[S0]) ?_;show wpAny _ _ (setNextDrawn a ps[i] ep>>=_) _ _ _;unfold setNextDrawn;refine Kz (Kz (dP ho hd hf ?_));dsimp only;refine aa (KO (by simp)) (aa (ML Yy) ?_);refine KE (Kz (bJ hI (by decide) fun h1' k1 g1=>KE ⟨_,rfl,h _ _ ?_ ⟨⟨o,aft k1,QW,hd⟩,hf,hl, .ref T,g1, .draw T ps (YJ k1 _ _ h1) h2 h3⟩ k1⟩));refine aa h3 (aa LX (aa (KL S0) ?_));simp[Yy]
theorem eV.done(hh:A.handled=none)(x:eV a es ep t vs I es.size s.heap)
  (h:∀ h',(∀ b o,b≠I->s.heap.get? b=some o->h'.get? b=some o)->Q none {s with heap:=h'}):wpAny MP A (pyNext (.ref I)) Q E s:=by
 obtain⟨⟨o,ho,QW,hd⟩,hf,hl,first,hI,T6⟩:=x;refine iv hI ho hd hf rfl ?_
 cases T6 with
 |text b e=>
  refine Kz (iV b ho hd hf ?_);have S0:(pickOrder (w.params.setOrder a ep) es).size<=es.size:=by
   have:=congrArg List.length e;simp only[KG,Mb] at this;exact L2 [_,_,_] V2 V1 1 V0 V1 1 V2 V0 rfl (eL hl) (eG this)
  refine aa (Array.getElem?_eq_none S0) ?_;refine Kz (bJ hI (by decide) fun h1 k1 g1=>mK hh fun h' e' o' hk he hc=>⟨⟨o',he,hc⟩,⟨_,rfl⟩,h _ fun b x hb q=>hk _ _ (k1.extBut _ _ hb q)⟩)
 |slot k h1 h2 h3 h4 h5 h6=>
  refine Kz (iU h1 ho hd hf h2 h4 ?_);refine aa (La _) (aa h6 (aa (Array.getElem?_eq_none (K1 _)) ?_));refine Kz (bJ hI (by decide) fun h1 k1 g1=>mK hh fun h' e' o' hk he hc=>⟨⟨o',he,hc⟩,⟨_,rfl⟩,h _ fun b x hb q=>hk _ _ (k1.extBut _ _ hb q)⟩)
 |draw T ps h1 h2 h3=>
  have Qy:ps.length=es.size:=by have:=h2.length_eq;simpa using this
  obtain⟨oT,hoT,hcT,nT,hdT⟩:=id h1;refine Kz (NZ hoT hdT ?_);have Q8:(ps.map fun(p:Nat)=>rawInt (p:Int)).toArray[es.size]?=none:=by simp[Qy]
  dsimp only;refine aa Q8 ?_;refine Kz (bJ hI (by decide) fun h1' k1 g1=>Kz (bJ (first:=rawInt 0) g1 (by decide) fun h2' k2 g2=>mK hh fun h' e' o' hk he hc=>⟨⟨o',he,hc⟩,⟨_,rfl⟩,h _ fun b x hb q=>hk _ _ ((k1.trans k2).extBut _ _ hb q)⟩))
end
section
variable{A:Around}{E:X8}{s:Shared}{K:Type}[DecidableEq K][BEq K][LawfulBEq K]{knd:PySem.KeyKind PR w K}
theorem rc{a:Addr}{first:Value}{n ep:Nat}{Q:X8}(h:Q (.ref s.heap.objs.size) {s with heap:=s.heap.push (cP first 0 a n ep)}):wpAny MP A (newFields "set_iterator" [first,rawInt 0, .ref a,rawInt n,rawInt ep]) Q E s:=by
 unfold newFields;exact LY h
theorem wD{a:Addr}{o:Obj}{PP:List (K×Value)}{Q:X8}(ho:s.heap.get? a=some o)(hS:bb knd o PP)(hz:PP.length<=1000)
  (h:∀ es ep t vs I h' d,vs.Perm (PP.map (·.2))->es.size=PP.length->eV a es ep t vs I 0 h'->(∀ b o,s.heap.get? b=some o->h'.get? b=some o)->I<h'.objs.size->s.heap.objs.size<=I->Q (.ref I) {s with heap:=h',drawn:=d}):
  wpAny MP A (pyIter (.ref a)) Q E s:=by
 obtain⟨hex,es,ep,t,hd,Uj,hp,hk,hf,VL,Rk,_⟩:=hS;have QK:es.size=PP.length:=by have:=hp.length_eq;simpa using this
 have hT:s.TypeIs (.ref a) "set":=⟨o,ho,hex.1⟩;have hTI:∀ {s':Shared} {I:Addr} {x:Value} {i n ep:Nat},s'.heap.get? I=some (cP x i a n ep)->bE (fun T' r=>s'.TypeIs (.ref I) T') (fun T' r=>typeLookup (.type T') "__next__"=pure (some r)):=fun e=>⟨"set_iterator",_,⟨_,e,rfl⟩,gq.lookup⟩;refine wpAny_pyIter_slot hT F.slot_set_iter (LS F.slot_set_iter hT mv ?_ (F.args_set_iter_1 _));show wpAny _ _ (Builtin.Frozenset.sizeOf a>>=_) _ _ s;unfold Builtin.Frozenset.sizeOf;refine Kz (Kz (wpAny_setEntries_of ho hd hf (KE ?_)));unfold setDrawn;refine Kz (Kz (dP ho hd hf ?_));dsimp only;unfold setsByText;refine Kz (Kz (MW (KE (KE ?_))));show wpAny _ _ (if (!w.params.followText "set-order"&&(!t.plain&&decide (es.size>1)))=true then _ else _) _ _ _
 split
 ·rename_i hc
  refine Kz ?_;refine gu es.size (List.range es.size) _ _ (by simp) fun ps d hpp=>?_;refine Kz ?_;unfold newTuple;refine LY ?_ (by
   show (List.map _ ps).toArray.size<=sizeLine;have:=hpp.length_eq;simp only[Op] at this;refine aa Lw (aa (KG _) (aa Lh ?_));exact L3 [_,_,_] V2 (.n 16777216) 1 V0 (.n 1000) 1 V1 V0 1 V2 V1 rfl hz (eL QK) (eL this))
  have g0:∀ b x,s.heap.get? b=some x->(s.heap.push {cls:= .type "tuple",data:= .seq (ps.map fun(i:Nat)=>rawInt (i:Int)).toArray}).get? b=some x:=fun b x e=>KN _ e;refine Kz (wpAny_setEpoch_of (g0 _ _ ho) hd hf ?_);refine Kz (rc ?_);have g1:=Lc (s.heap.push {cls:= .type "tuple",data:= .seq (ps.map fun(i:Nat)=>rawInt (i:Int)).toArray}) (o:=cP (.ref s.heap.objs.size) 0 a es.size ep) rfl;refine KE ⟨_,rfl,?_⟩;obtain⟨T',r,h1,h2⟩:=hTI (s':=⟨_,s.gens,d,s.toks,s.os⟩) g1;refine⟨T',r,h1,h2,h es ep t (ps.map fun p=>((es[p]?).map (·.2)).getD .none) _ _ d ?_ QK ⟨⟨o,KN _ (g0 _ _ ho),hex.1,hd⟩,hf,?_,_,g1, .draw _ ps ?_ hpp rfl⟩ (fun b x e=>KN _ (g0 b x e)) ?_ ?_⟩
  ·refine(hpp.map _).trans (List.Perm.trans (.of_eq ?_) hp)
   refine List.ext_getElem (by simp) fun i h1 h2=>?_;have hi:i<es.size:=by simpa using h2
   simp[hi]
  ·have:=hpp.length_eq
   simpa using this
  ·exact⟨_,KN _ (Lc _ rfl),rfl,0,rfl⟩
  ·show _<((s.heap.push _).push _).objs.size
   simp only[L8];exact LR _
  ·rw[L8];exact MG _
 ·rename_i hc
  refine Kz (KE ?_);refine Kz (wpAny_setEpoch_of ho hd hf ?_);refine Kz (rc ?_);have g1:=Lc s.heap (o:=cP (rawInt 0) 0 a es.size ep) rfl;refine KE ⟨_,rfl,?_⟩;obtain⟨T',r,h1,h2⟩:=hTI (s':=⟨_,s.gens,s.drawn,s.toks,s.os⟩) g1;have fin:∀ vs:Yb,vs.Perm (PP.map (·.2))->eU a es ep t (s.heap.push (cP (rawInt 0) 0 a es.size ep)) vs 0 (rawInt ((0:Nat):Int))->∃ T' r,Shared.TypeIs ⟨s.heap.push (cP (rawInt 0) 0 a es.size ep),s.gens,s.drawn,s.toks,s.os⟩ (.ref s.heap.objs.size) T'/\typeLookup (.type T') "__next__"=pure (some r)/\Q (.ref s.heap.objs.size) ⟨s.heap.push (cP (rawInt 0) 0 a es.size ep),s.gens,s.drawn,s.toks,s.os⟩:=fun vs hpv T6=>
   ⟨T',r,h1,h2,h es ep t vs _ _ s.drawn hpv QK ⟨⟨o,KN _ ho,hex.1,hd⟩,hf,(hpv.length_eq.trans (by simp[QK])),_,g1,T6⟩ (fun b x e=>KN _ e) (by refine aa (L8 _ _) ?_;exact LR _) (K1 _)⟩
  cases hb:w.params.followText "set-order" with
  |true=>exact fin _ (((mH _ _).map _).trans hp) (.text hb rfl)
  |false=>
   have Ui:(!t.plain&&decide (es.size>1))=false:=by
    rw[hb] at hc;simpa using hc
   refine fin _ hp (.slot 0 hb (Rk hb) VL Ui rfl ?_);exact jK (K6 _) (fun k hk=>absurd hk (LM _)) fun k _ _=>K6 _
theorem gh(hh:A.handled=none)(hz:es.size<=1000):
  ∀ (k i:Nat) (s:Shared) (c:Nat),es.size-i=k->i<=es.size->eV a es ep t vs I i s.heap->s.heap.get? S=some (lO (vs.take i) c)->
   (∀ h' c',h'.get? S=some (lO vs c')->(∀ b o,b≠I->b≠S->s.heap.get? b=some o->h'.get? b=some o)->R (.ok (.ret res)) {s with heap:=h'})->
   codeAny MP A (.builtin "list.extend.loop" ⟨[.ref S, .ref I,res],[]⟩) R s
 |0,i,s,c,hk,hi,x,hS,hR=>by
  have e:i=es.size:=sZ hk hi;subst e;refine Mx F.entry_extend_loop ?_;refine aa (LO OL _) ?_;show wpAny _ A.in1 (pyNext (.ref I)>>=_) _ _ s;have Ub:S≠I:=by
   obtain⟨_,_,_,first,hI,_⟩:=x;rintro rfl;exact absurd (congrArg Obj.cls (Mr (hS.symm.trans hI))) (by show Value.type "list"≠Value.type "set_iterator";decide)
  refine Kz (eV.done (A:=A.in1) (by first|exact hh|(rw[show A.in1.handled=A.handled from rfl];exact hh)) x fun h' hk=>KE (hR h' c ?_ fun b o hb RZ e=>hk b o hb e));have hl:vs.length=es.size:=x.2.2.1;rw[←hl,Lm] at hS;exact hk _ _ Ub hS
 |k+1,i,s,c,hk,hi,x,hS,hR=>by
  have PW:i<es.size:=sJ hk;refine Mx F.entry_extend_loop ?_;refine aa (LO OL _) ?_;show wpAny _ A.in1 (pyNext (.ref I)>>=_) _ _ s;have Ub:S≠I:=by
   obtain⟨_,_,_,first,hI,_⟩:=x;rintro rfl;exact absurd (congrArg Obj.cls (Mr (hS.symm.trans hI))) (by show Value.type "list"≠Value.type "set_iterator";decide)
  refine Kz (x.item PW fun v h' hv x' Q5=>?_);have RY:=Q5.extBut _ _ Ub hS;have hl:vs.length=es.size:=x.2.2.1;show wpAny _ A.in1 (updateSeq S (·.push v)>>=_) _ _ _;refine Kz ?_;have Qh:(vs.take i).toArray.size<=1000:=by refine aa Lw (aa Ms ?_);exact L3 [_,_,_] V2 (.n 1000) 1 V0 (.n 1000) 1 V1 V0 1 V2 V1 rfl hz hi (OP _ _)
  have e2:(vs.take (i+1)).toArray=(vs.take i).toArray.push v:=by
   refine aa Mn (aa hv ?_);simp
  obtain⟨c',hg⟩:∃ c',(h'.update S (Obj.mapSeq (·.push v))).get? S=some (listOf ((vs.take i).toArray.push v) c'):=⟨_,Np RY fun xs=>xs.push v⟩;rw[←e2] at hg;refine wpAny_updateSeq RY rfl (KE ⟨M7 OL _,gh hh hz k (i+1) _ c' (sP hk) PW (x'.upd RY rfl (Lp ..)) hg fun Sh c' h1 h2=>hR Sh c' h1 fun b o hb RZ e=>h2 b o hb RZ ((Heap.get?_update_other _ _ (MH RZ)).trans (Q5.extBut _ _ hb e))⟩)
   (by refine aa Lh ?_;exact bd Qh) (by show ((vs.take i).toArray.push v).size<=sizeLine+1;refine aa (Array.size_push _) (aa Lh ?_);exact L1 [_] (.a V0 W1) (.a (.n 16777216) W1) 1 V0 (.n 1000) rfl Qh)
end
section
variable{A:Around}{E:X8}{s:Shared}{K:Type}[DecidableEq K][BEq K][LawfulBEq K]{knd:PySem.KeyKind PR w K}
theorem jk(hh:A.handled=none)(ho:s.heap.get? a=some o)(hS:bb knd o PP)(hz:PP.length<=1000)
  (h:∀ vs h' d,vs.Perm (PP.map (·.2))->(∀ b o,s.heap.get? b=some o->h'.get? b=some o)->Q vs {s with heap:=h',drawn:=d}):wpAny MP A (collect (.ref a)) Q E s:=by
 have QW:o.cls=.type "set":=hS.1.1;unfold collect;refine Kz (wpAny_runValue (Mx F.entry_proto_collect ?_));refine aa (LO F.plain_proto_collect _) ?_;show wpAny _ A.in1 (newList []>>=fun l=>again (.builtin "list.__iadd__" ⟨[l, .ref a],[]⟩)) _ _ s;refine Kz (LY ?_);refine KE ⟨M7 F.plain_list_iadd _,Mx F.entry_list_iadd ?_⟩;refine aa (LO F.plain_list_iadd _) ?_;have k0:∀ b x,s.heap.get? b=some x->(s.heap.push {cls:= .type "list",data:= .seq ([]:Yb).toArray}).get? b=some x:=fun b x e=>KN _ e;have hT:∀ {s':Shared},s'.heap.get? a=some o->s'.TypeIs (.ref a) "set":=fun e=>⟨o,e,QW⟩;show wpAny _ A.in1 (Builtin.List.listExtendWith (.ref s.heap.objs.size) (.ref a) (.ref s.heap.objs.size)) _ _ _;unfold Builtin.List.listExtendWith;refine Kz (OA (hT (k0 _ _ ho)) ?_);have P5:s.heap.objs.size≠a:=Mi (KQ ho);have h1:Builtin.List.listSameRef (.ref s.heap.objs.size) (.ref a)=false:=by simp[Builtin.List.listSameRef,P5]
 have h2:(Value.type "set"==Value.type "list")=false:=by decide
 have h3:(Value.type "set"==Value.type "tuple")=false:=by decide
 refine aa (KO (by rw[h1,h2,h3];decide)) ?_;refine Kz (wD (k0 _ _ ho) hS hz fun es ep t vs I h' d hp hn x hk hI hI2=>?_);refine Kz (Lk ?_);have Ru:h'.get? a=some o:=hk _ _ (k0 _ _ ho);unfold Builtin.List.listLengthHint;refine Kz (wpAny_specialOf (hT Ru) F.slot_set_len.lookup ?_);have hsp:splitId "set.__len__"=some ("set","__len__"):=by decide+kernel
 dsimp only;refine aa hsp ?_;dsimp only;refine Kz (NG (T:="set") (b:=true) (hT Ru) (by refine aa (NY _ _) ?_;kernel_rfl) ?_);refine aa (KO (by decide)) (aa (KZ (by decide+kernel)) ?_);refine Kz (OA (hT Ru) (KE ?_));refine aa (KZ (by decide+kernel)) ?_;refine Kz (MC ?_);have Xr:h'.get? s.heap.objs.size=some (listOf #[] 0):=hk _ _ (Lc _ rfl);refine Kz ?_;show wpAny _ A.in1 (updateSeq s.heap.objs.size (·.push .none)>>=fun _=>updateSeq s.heap.objs.size (·.pop)) _ _ _;refine Kz (wpAny_updateSeq Xr rfl ?_);obtain⟨c1,Xs⟩:∃ c',(h'.update s.heap.objs.size (Obj.mapSeq (·.push Value.none))).get? s.heap.objs.size=some (listOf #[Value.none] c'):=⟨_,Np Xr fun xs=>xs.push Value.none⟩;refine wpAny_updateSeq Xs rfl ?_;obtain⟨c2,hS₃⟩:∃ c',((h'.update s.heap.objs.size (Obj.mapSeq (·.push Value.none))).update s.heap.objs.size (Obj.mapSeq (·.pop))).get? s.heap.objs.size=some (listOf #[] c'):=⟨_,Np Xs fun xs=>xs.pop⟩;have x₃:=(x.upd Xr rfl (Lp _ _ (Obj.mapSeq (·.push Value.none)))).upd Xs rfl (Lp _ _ (Obj.mapSeq (·.pop)));refine KE ⟨M7 OL _,gh (vs:=vs) (I:=I) (es:=es) (ep:=ep) (t:=t) (a:=a) hh (q7 hz hn) _ 0 _ c2 rfl (K6 _) x₃ (by refine aa List.take_zero ?_;exact hS₃) fun Sh c' h1 h2=>?_⟩;show wpAny _ A (load s.heap.objs.size>>=_) _ _ _;refine Kz (wpAny_load h1 ?_);refine KE (h vs Sh d hp fun b o e=>?_);have hb:b≠s.heap.objs.size:=K8 (KQ e);have QJ:b≠I:=K8 (Lb (KQ (k0 _ _ e)) hI2);refine h2 b o QJ hb ?_;exact(Heap.get?_update_other _ _ (MH hb)).trans ((Heap.get?_update_other _ _ (MH hb)).trans (hk _ _ (k0 _ _ e)))
end
section
variable{A:Around}{E:X8}{s:Shared}{h₀:Heap}{L:Addr}{m:X7}{news:X6}{K:Type}[DecidableEq K][BEq K][LawfulBEq K]{knd:PySem.KeyKind PR w K}
theorem xa(F:Fr h₀ L s.heap m)(N:News h₀ L s.heap news)(X:Kf.In h₀)(hc:kdsCode Kf env.code=true)
  (he:starEach [e1, .Starred e2 p2] env=[(false,eval e1 env),(true,eval e2 env)])
  (h:∀ (D:Nat) h' o,bb knd o []->Fr h₀ L h' m->News h₀ L h' ((D,o)::news)->(∀ p∈news,p.1<D)->
   wpAny MP A (eval e1 env) (fun v s1=>wpAny MP A (setAdd D v) (fun _ s2=>wpAny MP A (eval e2 env) (fun x s3=>wpAny MP A (setDisplayStar D x) (fun _ s4=>Q (.ref D) s4) E s3) E s2) E s1) E {s with heap:=h'}):
  wpAny MP A (eval (.Set [e1, .Starred e2 p2] 0 pos) env) Q E s:=by
 refine aa (arm_eval_Set _ _ _ _) ?_;refine Kz (LG ?_);refine Kz (kds_main (X.keeps F.keep) hc fun b=>?_);refine aa he ?_;have hr:displayRoad 0 [e1, .Starred e2 p2]=.oneByOne:=rfl;refine aa hr ?_;unfold setDisplay;dsimp only[LB,OV];refine aa (KO (by decide)) ?_;refine Kz (wM (knd:=knd) fun o ho=>?_);dsimp only;have hof:o.isFreed=false:=by
  obtain⟨_,es,ep,t,hd,_⟩:=ho;obtain⟨c,d,dt,sl⟩:=o;dsimp only at hd;subst hd
  rfl
 have st:=h _ _ o ho (F.push o) (NW F N o hof) (fun p hp=>KQ (N p hp).1);refine Kz (Lk ?_);show wpAny _ _ (evalAll [(do let v←eval e1 env;standAt pos;pure v)]>>=_) _ _ _;unfold evalAll;refine Kz (Kz (Kz (K9 st (fun v s1 h1=>?_) fun _ _ e=>e)));refine Kz (LG (KE ?_));refine Kz (Lk (KE (KE ?_)));refine Kz (Lk ?_);simp only[Oh,Ot];refine Kz (Kz (Kz (K9 h1 (fun _ s2 h2=>?_) fun _ _ e=>e)));refine KE ?_;refine KE ?_;refine aa (KO (by decide)) ?_;refine KE ?_;show wpAny _ _ (forIn [(true,(do let v←eval e2 env;standAt pos;pure v))] PUnit.unit _>>=_) _ _ _;simp only[Oh,Ot];refine Kz (Kz (Kz (Kz (K9 h2 (fun x s3 h3=>?_) fun _ _ e=>e))));refine Kz (LG (KE ?_));simp only[if_true];refine Kz (Lk (K9 h3 (fun _ s4 h4=>?_) fun _ _ e=>e));exact KE (KE (KE (KE h4)))
end
section
variable{A:Around}{E:X8}{s:Shared}{h₀:Heap}{L:Addr}{m:X7}{news:X6}{K:Type}[DecidableEq K][BEq K][LawfulBEq K]{knd:PySem.KeyKind PR w K}
theorem kH:entryFor table "set.update.loop"=some Builtin.«set.update.loop»:=OJ (by kernel_rfl)
theorem lE:plainId "set.update.loop"=true:=by decide+kernel
theorem sw(hh:A.handled=none)(hD:s.heap.get? D=some o)(hS:bb knd o PP)(h1:PP.length<=1)
  (hd:s.heap.get? d=some (dictOf [] n)) (Rn:(d==sysModules)=false) (h:∀ h' tk,(∀ b x,s.heap.get? b=some x->h'.get? b=some x)->Q () {s with heap:=h',toks:=tk}):wpAny MP A (setDisplayStar D (.ref d)) Q E s:=by
 obtain⟨hex,es,ep,t,hdat,Uj,hp,hk,hf,VL,Rk,Wk⟩:=hS;have QK:es.size=PP.length:=by have:=hp.length_eq;simpa using this
 have hT:s.TypeIs (.ref d) "dict":=⟨_,hd,rfl⟩;unfold setDisplayStar;dsimp only;refine Kz (NG (T:="dict") (b:=false) hT (by refine aa (NY _ _) ?_;kernel_rfl) ?_);refine aa (KO KR) ?_;refine Kz (NG (T:="dict") (b:=false) hT (by refine aa (NY _ _) ?_;kernel_rfl) ?_);refine Kz (MW ?_)
 cases hb:w.params.followText "set-display-star-reads-storage" with
 |true=>
  refine aa (show MP.w.params.followText "set-display-star-reads-storage"=true from hb) (aa (KZ rfl) ?_);dsimp only;have hat:s.heap.DictAt knd d ([]:List (K×Value)) n:=⟨_,#[],hd,⟨rfl,rfl,rfl⟩,rfl,fun e he=>by simp at he, .nil,MF⟩;refine Kz (wpAny_pyIter_dict Rn hat ?_);refine Kz (wpAny_runValue (Mx kH ?_));refine aa (LO lE _) ?_;show wpAny _ A.in1 (pyNext (.ref s.heap.objs.size)>>=_) _ _ _;have W:=Walks.dictKeys (knd:=knd) (A:=A.in1) (by first|exact hh|(rw[show A.in1.handled=A.handled from rfl];exact hh)) s.heap.objs.size d (K8 (KQ hd)) [] n;refine Kz (W.done _ _ _ ⟨⟨_,Lc _ rfl,rfl,rfl⟩,hat.at' fun o e=>KN _ e⟩ fun h' tk QB=>?_);exact KE (KE (h _ _ fun b x e=>QB b x (by simpa using K8 (KQ e)) (KN _ e)))
 |false=>
  refine aa (show MP.w.params.followText "set-display-star-reads-storage"=false from hb) (aa (KO KR) ?_);dsimp only;refine aa (KO KR) ?_;refine Kz (OA hT ?_);refine aa (KZ (by decide)) ?_;refine Kz (MC ?_);refine aa Rn (aa (KO KR) ?_);refine Kz (wpAny_dictEpoch hd rfl ?_);refine Kz (wpAny_dictEntries hd rfl ?_);unfold setRoomFor;refine Kz (Kz (dP hD hdat hf ?_));dsimp only;have hfill:t.fill=es.size:=by
   unfold SetTable.fits at hf;simp only[Ny,Mz] at hf;unfold SetTable.fill;refine aa hf.1 (aa VL.dum ?_);rfl
  have Qc:t.roomFor (#[]:Array DictEntry).size=none:=by
   unfold SetTable.roomFor;rw[KO];have:=Wk (q7 h1 QK);have e0:(#[]:Array DictEntry).size=0:=rfl;refine aa e0 (aa hfill ?_)
   lia
  refine aa (show ([]:List DictEntry).toArray=#[] from rfl) (aa Qc ?_);refine KE ?_;show wpAny _ _ (forIn [0:0] _ _>>=_) _ _ _;refine aa (Std.Legacy.Range.forIn_eq_forIn_range' _ _ _) ?_;show wpAny _ _ (forIn (List.range' 0 0 1) _ _>>=_) _ _ _;exact aa (show List.range' 0 0 1=[] from rfl) (aa Ot (Kz (KE (KE (h _ _ fun _ _ e=>e)))))
theorem xF(F:Fr h₀ L s.heap m)(N:News h₀ L s.heap news)(U:UpdF sa so news g)(hS:bb knd so PP)(Qc:PP.length+1<scanBound)
  (RG:knd.is k x=true) (VJ:x.scannable=true) (Rm:¬k∈PP.map (·.1)) (h:∀ h' SN,Fr h₀ L h' m->News h₀ L h' (g SN)->bb knd SN (PP++[(k,x)])->Q true {s with heap:=h',toks:=s.toks+1}):
  wpAny MP A (setAdd sa x) Q E s:=by
 obtain⟨pre,post,rfl,hg,a,b⟩:=U.split;have hm:=N (sa,so) (KB _ (.head _));unfold setAdd;refine Lk (Kz (knd.pyHash RG ?_));refine pL (s:={s with toks:=s.toks+1}) RG VJ hm.1 hS Qc (fun q=>absurd q Rm) fun _ h' o' Q5 Ru RY=>?_;exact h h' o' (F.change Q5 hm.2.1 hm.2.2) (hg o'▸N.setIn a b Q5 Ru) RY
end
noncomputable def bG (a b c d:Str):Bool:=if a=c then decide (b.cps.toList<d.cps.toList) else decide (a.cps.toList<c.cps.toList)
section
variable{A:Around}{E:X8}{s:Shared}
theorem yr(hx:s.heap.get? x=some (listOf #[.str a t1, .str b t2] n1))(hy:s.heap.get? y=some (listOf #[.str c t3, .str d t4] n2))(P5:¬(a=c/\b=d))
  (h:R (.ok (.ret (.bool (bG a b c d)))) s):codeAny MP A (.builtin "list.__eq__.loop" ⟨[.ref x, .ref y,rawInt 0,rawInt 0],[]⟩) R s:=by
 refine Mx MeetsSeq3.entry_eq_loop ?_;refine aa (LO Ob _) ?_;unfold Builtin.«list.__eq__.loop»;show wpAny _ A.in1 (Builtin.List.listItems (.ref x)>>=_) _ _ s;refine Kz (MV hx rfl ?_);refine Kz (MV hy rfl ?_);show wpAny _ A.in1 (eqBool (.str a t1) (.str c t3)>>=_) _ _ s;refine Kz (wpAny_eqBool_str ?_)
 by_cases h1:a=c
 ·refine aa (KZ (by simpa using h1)) ?_
  refine KE ⟨M7 Ob _,Mx MeetsSeq3.entry_eq_loop ?_⟩;refine aa (LO Ob _) ?_;unfold Builtin.«list.__eq__.loop»;show wpAny _ A.in1 (Builtin.List.listItems (.ref x)>>=_) _ _ s;refine Kz (MV hx rfl ?_);refine Kz (MV hy rfl ?_);show wpAny _ A.in1 (eqBool (.str b t2) (.str d t4)>>=_) _ _ s;refine Kz (wpAny_eqBool_str ?_);refine aa (KO (by simpa using fun q=>P5 ⟨h1,q⟩)) ?_;refine Kz (MV hx rfl ?_);refine Kz (MV hy rfl ?_);show wpAny _ A.in1 (richCompare .Lt (.str b t2) (.str d t4)>>=_) _ _ s;refine Kz (PyProof.Rows.lt_str (KE ?_));unfold bG at h;rw[KZ h1] at h;exact h
 ·refine aa (KO (by simpa using h1)) ?_
  refine Kz (MV hx rfl ?_);refine Kz (MV hy rfl ?_);show wpAny _ A.in1 (richCompare .Lt (.str a t1) (.str c t3)>>=_) _ _ s;refine Kz (PyProof.Rows.lt_str (KE ?_));unfold bG at h;rw[KO h1] at h;exact h
theorem qp(hu:A.units<cLine)(hx:s.heap.get? x=some (listOf #[.str a t1, .str b t2] n1))(hy:s.heap.get? y=some (listOf #[.str c t3, .str d t4] n2))(P5:¬(a=c/\b=d))
  (h:Q (bG a b c d) s):wpAny MP A (keyLt' oneType' (.ref x) (.ref y)) Q E s:=by
 have hT:s.TypeIs (.ref x) "list":=⟨_,hx,rfl⟩;have hTy:s.TypeIs (.ref y) "list":=⟨_,hy,rfl⟩;refine aa (keyLt'_oneType _ _) (aa (oneLt'_eq _ _ _) ?_);refine aa (KZ rfl) ?_;refine Kz (wpAny_cRoomFor hu ?_);refine Kz (wpAny_callSpecialIfBound?_slot hT F.slot_list_lt (OK (OH F.slot_list_lt.plain F.entry_list_lt (F.slot_list_lt.check _ _ _ _ _ _ _ _ hT (F.args_list_lt_2 _ _) ?_))));show wpAny _ A.in1 (isInstance (.ref y) (.type "list")>>=_) _ _ s;refine Kz (NG (T:="list") (b:=true) hTy (by refine aa (NY _ _) ?_;kernel_rfl) ?_);refine KE ⟨M7 Ob _,yr hx hy P5 ?_⟩;exact wpAny_truthy_bool h
def qK(h₀:Heap)(L:Addr)(m:X7)(need:X6)(a b:Str)(P1:Shared)(v:Value)(QU:Shared):Prop:=
 vR (fun(r:Nat) (h':Heap) (tk:Nat) (t u:Tok) (c:Nat)=>QU={P1 with heap:=h',toks:=tk}) (fun r _ _ _ _ _=>v=.ref r) (fun _ h' _ _ _ _=>Fr h₀ L h' m) (fun r h' _ t u c=>News h₀ L h' ((r,listOf #[.str a t, .str b u] c)::need)) (fun r _ _ _ _ _=>∀ p∈need,p.1≠r)
variable{h₀:Heap}{L:Addr}{m:X7}{news:X6}{P:PySem.Fin->Shared->Prop}
theorem r9(F:Fr h₀ L h' m)(N:News h₀ L h' ((r,listOf #[.str a t, .str b u] c)::need))(hr:∀ p∈need,p.1≠r):qK h₀ L m need a b P1 (.ref r) {P1 with heap:=h',toks:=tk}:=
 ⟨r,h',tk,t,u,c,rfl,rfl,F,N,hr⟩
def cQ(A:Around)(h₀:Heap)(L:Addr)(m:X7)(news:X6)(f v:Value)(a b:Str)(g:Array GenState)(os:OsState):Prop:=
 ∀ (h:Heap) (tk:Nat) (d:Drawn) (own:X6),Fr h₀ L h m->News h₀ L h (own++news)->wpAny MP A (call f [v]) (qK h₀ L m (own++news) a b ⟨h,g,d,tk,os⟩) (fun _ _=>False) ⟨h,g,d,tk,os⟩
theorem xI{a kS:Addr}{kA:Array Value}{e e1:Nat}{st:SortSt}(F:Fr h₀ L s.heap m)(N:News h₀ L s.heap ((kS,listOf kA e)::(a,listOf #[] e1)::news))(TN:kS≠a)(UX:∀ p∈news,p.1≠kS)(Us:∀ p∈news,p.1≠a)
  (hz1:kA.size<=100) (hz:(arrOf st).size<=100) (hf:failedOf st=none) (h:∀ h' c,Fr h₀ L h' m->News h₀ L h' ((a,listOf ((arrOf st).map (·.2)) c)::news)->P (.done (.ret .none)) {s with heap:=h'}):
  wpAny MP A (ksk_tail a false e1 (.ref kS) st) P E s:=by
 have nk:=N _ (.head _);have na:=N _ aK;have s1:=Lp s.heap kS (Obj.mapSeq fun _=>(#[]:Array Value));have na1:(s.heap.update kS (Obj.mapSeq fun _=>(#[]:Array Value))).get? a=some (listOf #[] e1):=(s1.2 a TN.symm).trans na.1;have s2:=Lp (s.heap.update kS (Obj.mapSeq fun _=>(#[]:Array Value))) a (Obj.mapSeq fun _=>(arrOf st).map (·.2));obtain⟨c2,hc2⟩:∃ c2,((s.heap.update kS (Obj.mapSeq fun _=>(#[]:Array Value))).update a (Obj.mapSeq fun _=>(arrOf st).map (·.2))).get? a=some (listOf ((arrOf st).map (·.2)) c2):=by
  generalize (arrOf st).map (·.2)=X;exact⟨_,Np na1 fun _=>X⟩
 unfold ksk_tail
 try dsimp only
 refine Kz (Oe nk.1 rfl ?_ (by refine aa Lh ?_;exact bd hz1) (K6 _));refine Kz (wpAny_letGo ?_);refine Kz (seqEpoch_at na1 rfl ?_);refine Kz (Oe na1 rfl ?_ (K6 _) (by show ((arrOf st).map (·.2)).size<=_;refine aa Array.size_map (aa Lh ?_);exact L1 [_] V0 (.a (.n 16777216) W1) 1 V0 (.n 100) rfl hz));refine aa hf ?_;simp only[bne_self_eq_false,Bool.false_eq_true,if_false];refine KE (h _ c2 (ksk_fr (ksk_fr F s1 nk.2.1 nk.2.2) s2 na.2.1 na.2.2) fun p hp=>?_);rcases KI.mp hp with rfl|hp
 ·exact⟨hc2,na.2⟩
 ·exact ksk_news (ksk_news (fun q hq=>N q (dj hq)) s1 UX) s2 Us p hp
theorem o0{a:Addr}{vs:Yb}{n:Nat}{f:Value}(F:Fr h₀ L s.heap m)(N:News h₀ L s.heap ((a,lO vs n)::news))(Us:∀ p∈news,p.1<a)(hz:vs.length<=100)
  (h:∀ (kS:Nat) e1 h',a<kS->Fr h₀ L h' m->News h₀ L h' ((kS,listOf #[] 0)::(a,listOf #[] e1)::news)->wpAny MP A (ksk_rest a f false vs.toArray e1 (.ref kS)) P E {s with heap:=h'}):
  wpAny MP A (ksk_tree a f false) P E s:=by
 have hN:=N _ (.head _);have ho:=hN.1;have ha:a<s.heap.objs.size:=KQ ho;have s1:=Lp s.heap a (Obj.mapSeq fun _=>(#[]:Array Value));obtain⟨e1,ho1⟩:∃ e1,(s.heap.update a (Obj.mapSeq fun _=>(#[]:Array Value))).get? a=some (listOf #[] e1):=⟨_,Np ho fun _=>#[]⟩;have F1:=ksk_fr F s1 hN.2.1 hN.2.2;have N1:=ksk_news (fun p hp=>N p (.tail _ hp)) s1 fun p hp=>K8 (Us p hp);unfold ksk_tree;refine Kz (MV ho rfl ?_);refine Kz (Oe ho rfl ?_ (by refine aa Lw (aa Lh ?_);exact bd hz) (K6 _));refine Kz (seqEpoch_at ho1 rfl ?_);refine Kz (wpAny_newTuple ?_ (by show vs.length<=_;refine aa Lh ?_;exact bd hz));refine Kz (wpAny_newList ?_ (K6 _));refine Lk ?_;have F2:=F1.push {cls:= .type "tuple",data:= .seq vs.toArray.toList.toArray 0};have N2:=News.grown (h':=(s.heap.update a (Obj.mapSeq fun _=>(#[]:Array Value))).push {cls:= .type "tuple",data:= .seq vs.toArray.toList.toArray 0}) (show News h₀ L _ ((a,listOf #[] e1)::news) from fun p hp=>by
  rcases KI.mp hp with rfl|hp
  ·exact⟨ho1,hN.2⟩
  ·exact N1 p hp) fun b x e=>KN _ e
 refine h _ e1 _ ?_ (F2.push _) (NW F2 N2 (listOf #[] 0))
 (refine aa (L8 _ _) ?_;rw[Heap.size_update])
 exact LI ha
theorem sb(F:Fr h₀ L s.heap m)(N:News h₀ L s.heap (pre++(kS,listOf kA e)::post))(h1:∀ p∈pre,p.1≠kS)(h2:∀ p∈post,p.1≠kS)(hz:kA.size<=100)
  (h:∀ h' c,Fr h₀ L h' m->News h₀ L h' (pre++(kS,listOf (kA.push k) c)::post)->Q () {s with heap:=h'}):wpAny MP A (Builtin.List.listUpdate (.ref kS) (·.push k)) Q E s:=by
 have nk:=N (kS,listOf kA e) (KB _ (.head _));have s1:=Lp s.heap kS (Obj.mapSeq (·.push k));obtain⟨c2,hc2⟩:∃ c2,(s.heap.update kS (Obj.mapSeq (·.push k))).get? kS=some (listOf (kA.push k) c2):=⟨_,Np nk.1 (·.push k)⟩;refine Oe nk.1 rfl ?_ (by refine aa Lh ?_;exact bd hz) (KH (Mf (Array.size_push ..)) (by refine aa Lh ?_;exact L1 [_] (.a V0 W1) (.a (.n 16777216) W1) 1 V0 (.n 100) rfl hz));exact h _ c2 (ksk_fr F s1 nk.2.1 nk.2.2) (news_set N h1 h2 s1 hc2)
theorem Ab{a kS:Nat}{e1:Nat}{f v:Value}{x y:Str}(F:Fr h₀ L s.heap m)(N:News h₀ L s.heap ((kS,listOf #[] 0)::(a,listOf #[] e1)::news))(TN:a<kS)(Us:∀ p∈news,p.1<a)(turn:cQ A h₀ L m news f v x y s.gens s.os)
  (h:∀ h' tk c,Fr h₀ L h' m->News h₀ L h' ((a,listOf #[v] c)::news)->P (.done (.ret .none)) {s with heap:=h',toks:=tk}):wpAny MP A (ksk_rest a f false #[v] e1 (.ref kS)) P E s:=by
 have UX:∀ p∈news,p.1≠kS:=fun p hp=>K8 (Mh (Us p hp) TN);unfold ksk_rest;refine Kz (MC ?_);refine ae Array.forIn_toList ?_;simp only[Oh,Ot];refine Kz (Kz (Kz (Nw (K9 (turn s.heap s.toks s.drawn [(kS,listOf #[] 0),(a,listOf #[] e1)] F N) (fun k Qj he=>?_) fun _ _ hF=>hF.elim))));obtain⟨r,h',tk,t,u,c,rfl,rfl,F',N',hr⟩:=he;refine Kz (sb (pre:=[(r,listOf #[.str x t, .str y u] c)]) (post:=(a,listOf #[] e1)::news) (k:= .ref r) F' N' (fun p hp=>by refine aa (KF.mp hp) ?_;exact(hr _ (.head _)).symm) (fun p hp=>?_) (by show (0:Nat)<=100;decide) fun h2 c2 F2 N2=>?_)
 ·rcases KI.mp hp with rfl|hp
  ·exact K8 TN
  ·exact UX p hp
 have nk:=N2 (kS,listOf #[.ref r] c2) (by simp);refine KE (KE ?_);refine Kz (MV nk.1 rfl ?_);unfold ksk_end;dsimp only;refine aa (KO KR) (aa (KZ (by show (1:Nat)<2;decide)) (aa (KZ (by show (1:Nat)<2;decide)) ?_));refine Kz (KE ?_);refine aa (StateT.run_pure _ _) ?_;refine Kz (KE ?_);dsimp only;have WW:(#[Value.ref r]).zip #[v]=#[(Value.ref r,v)]:=by simp
 refine aa (KO KR) (aa WW ?_);refine xI (s:=⟨h2,s.gens,s.drawn,tk,s.os⟩) (P:=P) (st:=SortSt.mk' general' #[(Value.ref r,v)] #[] 7 none) F2 (fun p hp=>N2 p (.tail _ hp)) (Mi TN) UX (fun p hp=>K8 (Us p hp)) (by show (1:Nat)<=100;decide) (by show (1:Nat)<=100;decide) rfl fun h3 c3 F3 N3=>?_;have e:(arrOf (SortSt.mk' general' #[(Value.ref r,v)] #[] 7 none)).map (·.2)=#[v]:=by show (#[(Value.ref r,v)]:Array Keyed).map (·.2)=_;simp
 rw[e] at N3;exact h h3 tk c3 F3 N3
noncomputable def bT(b:Bool)(v1 v2:Value):Array Value:=if b then #[v2,v1] else #[v1,v2]
theorem uz{a kS:Nat}{e1:Nat}{f v1 v2:Value}{x1 y1 x2 y2:Str}(hu:A.units<cLine)(F:Fr h₀ L s.heap m)(N:News h₀ L s.heap ((kS,listOf #[] 0)::(a,listOf #[] e1)::news))(TN:a<kS)(Us:∀ p∈news,p.1<a)
  (YK:cQ A h₀ L m news f v1 x1 y1 s.gens s.os) (YI:cQ A h₀ L m news f v2 x2 y2 s.gens s.os) (P5:¬(x2=x1/\y2=y1))
  (h:∀ h' tk c,Fr h₀ L h' m->News h₀ L h' ((a,listOf (bT (bG x2 y2 x1 y1) v1 v2) c)::news)->P (.done (.ret .none)) {s with heap:=h',toks:=tk}):wpAny MP A (ksk_rest a f false #[v1,v2] e1 (.ref kS)) P E s:=by
 have UX:∀ p∈news,p.1≠kS:=fun p hp=>K8 (Mh (Us p hp) TN);unfold ksk_rest;refine Kz (MC ?_);refine ae Array.forIn_toList ?_;simp only[Oh,Ot];refine Kz (Kz (Kz (Nw (K9 (YK s.heap s.toks s.drawn [(kS,listOf #[] 0),(a,listOf #[] e1)] F N) (fun k Qj he=>?_) fun _ _ hF=>hF.elim))));obtain⟨r,h',tk,t,u,c,rfl,rfl,F',N',hr⟩:=he;refine Kz (sb (pre:=[(r,listOf #[.str x1 t, .str y1 u] c)]) (post:=(a,listOf #[] e1)::news) (k:= .ref r) F' N' (fun p hp=>by refine aa (KF.mp hp) ?_;exact(hr _ (.head _)).symm) (fun p hp=>?_) (by show (0:Nat)<=100;decide) fun h2 c2 F2 N2=>?_)
 ·rcases KI.mp hp with rfl|hp
  ·exact K8 TN
  ·exact UX p hp
 refine KE ?_;dsimp only;refine Kz (Kz (Nw (K9 (YI h2 tk s.drawn [(r,listOf #[.str x1 t, .str y1 u] c),(kS,listOf (#[].push (.ref r)) c2),(a,listOf #[] e1)] F2 N2) (fun k Qj he=>?_) fun _ _ hF=>hF.elim)));obtain⟨r2,h3,tk3,t3,u3,c3,rfl,rfl,F3,N3,hr3⟩:=he;refine Kz (sb (pre:=[(r2,listOf #[.str x2 t3, .str y2 u3] c3),(r,listOf #[.str x1 t, .str y1 u] c)]) (post:=(a,listOf #[] e1)::news) (k:= .ref r2) F3 N3 (fun p hp=>?_) (fun p hp=>?_) (by show (1:Nat)<=100;decide) fun h4 c4 F4 N4=>?_)
 ·rcases KI.mp hp with rfl|hp
  ·exact(hr3 _ aK).symm
  ·exact aa (KF.mp hp) ((hr _ (.head _)).symm)
 ·rcases KI.mp hp with rfl|hp
  ·exact K8 TN
  ·exact UX p hp
 have nk:=N4 (kS,listOf ((#[].push (.ref r)).push (.ref r2)) c4) (by simp);have nr:=N4 (r,listOf #[.str x1 t, .str y1 u] c) (by simp);have nr2:=N4 (r2,listOf #[.str x2 t3, .str y2 u3] c3) (by simp);refine KE (KE ?_);refine Kz (MV nk.1 rfl ?_);unfold ksk_end;dsimp only;refine aa (KO KR) (aa (KO (by show¬(2:Nat)<2;decide)) (aa (KO (by show¬(2:Nat)<2;decide)) ?_));have hT:∀ (b:Nat) (o:Obj),h4.get? b=some o->o.cls=.type "list"->Looks MP h4 (typeOf (.ref b)) (Value.type "list"):=fun b o e hc=>by
  have this:Looks MP h4 (typeOf (.ref b)) o.cls:=(Looks.ld e).andThen .now;rw[hc] at this;exact this
 refine Kz (kas_kind (vs:=[.ref r, .ref r2]) (T:= .type "list") (by show (2:Nat)<=2;decide) (fun v hv=>?_) (by decide) (by decide) ?_)
 ·rcases KI.mp hv with rfl|hv
  ·exact hT _ _ nr.1 rfl
  ·refine aa (KF.mp hv) ?_;exact hT _ _ nr2.1 rfl
 have WW:((#[].push (Value.ref r)).push (Value.ref r2)).zip #[v1,v2]=#[(Value.ref r,v1),(Value.ref r2,v2)]:=by simp
 refine aa (KO KR) (aa WW ?_);have est:SortSt.mk' oneType' #[(Value.ref r,v1),(Value.ref r2,v2)] #[] 7 none=kas_st oneType' #[(Value.ref r,v1),(Value.ref r2,v2)] (List.toArray (List.range 2)):=by
  show _=SortSt.mk' oneType' ((List.toArray (List.range 2)).map (kas_item #[(Value.ref r,v1),(Value.ref r2,v2)])) #[] 7 none;exact aa (show (List.toArray (List.range 2)).map (kas_item #[(Value.ref r,v1),(Value.ref r2,v2)])=#[(Value.ref r,v1),(Value.ref r2,v2)] from kas_range #[(Value.ref r,v1),(Value.ref r2,v2)]) rfl
 refine aa est ?_;refine Kz (kas_runs (E:=E) (it:=#[(Value.ref r,v1),(Value.ref r2,v2)]) (n:=2) (Q:=fun _ VW s'=>wpAny MP A (ksk_tail a false e1 (.ref kS) VW) P E s') (G:=fun p s'=>s'=⟨h4,s.gens,s.drawn,tk3,s.os⟩/\p.map (fun i=>(kas_item #[(Value.ref r,v1),(Value.ref r2,v2)] i).2)=bT (bG x2 y2 x1 y1) v1 v2) (K1 2) (by decide) ?_ ?_)
 ·rintro p' VW s' hp hst Qk ⟨rfl,Yy⟩
  have e2:(arrOf VW).map (·.2)=bT (bG x2 y2 x1 y1) v1 v2:=by
   exact aa hst (aa Array.map_map Yy)
  refine xI (st:=VW) (kA:=((#[]:Array Value).push (Value.ref r)).push (Value.ref r2)) F4 (fun p hp=>N4 p (dj hp)) (Mi TN) UX (fun p hp=>K8 (Us p hp)) (by show (2:Nat)<=100;decide) (by refine aa hst (aa Array.size_map (aa hp ?_));decide) Qk fun h5 c5 F5 N5=>?_;rw[e2] at N5;exact h h5 tk3 c5 F5 N5
 ·show kas_cmp PR w A oneType' #[(Value.ref r,v1),(Value.ref r2,v2)] 1 0 _ _
  refine qp hu nr2.1 nr.1 P5 ?_;unfold bT
  cases bG x2 y2 x1 y1 with
  |true=>
   refine⟨rfl,?_⟩;have e01:(#[0,1]:Array Nat).swapIfInBounds 0 1=#[1,0]:=by decide
   simp[kas_rev,mirror,kas_item,show List.range 2=[0,1] from rfl,e01]
  |false=>
   refine⟨rfl,?_⟩;simp[kas_item,show List.range 2=[0,1] from rfl]
theorem oO{l1 l2:List Nat}(h:l1≠l2):decide (l1<l2)= !decide (l2<l1):=by
 by_cases q:l1<l2
 ·refine aa (KY q) (aa (K0 (List.lt_asymm q)) ?_);rfl
 ·refine aa (K0 q) ?_
  by_cases q2:l2<l1
  ·refine aa (KY q2) ?_;rfl
  ·exact absurd (List.le_antisymm (List.not_lt.mp q2) (List.not_lt.mp q)) h
theorem nH{a b:Str}(h:a≠b):a.cps.toList≠b.cps.toList:=fun e=>h (by cases a;cases b;exact congrArg Str.mk (Array.toList_inj.mp e))
theorem uE{a b c d:Str}(h:¬(a=c/\b=d)):bG c d a b= !bG a b c d:=by
 unfold bG
 by_cases q:a=c
 ·exact aa (KZ q) (aa (KZ q.symm) (oO (nH fun e=>h ⟨q,e.symm⟩)))
 ·exact aa (KO q) (aa (KO fun e=>q e.symm) (oO (nH fun e=>q e.symm)))
end
section
variable{A:Around}{E:X8}{s:Shared}{h₀:Heap}{L D:Addr}{m:X7}{news:X6}{Q:X8}{so:Obj}{K:Type}[DecidableEq K][BEq K][LawfulBEq K]{knd:PySem.KeyKind PR w K}
theorem lR(hh:A.handled=none)(F:Fr h₀ L s.heap m)(N:News h₀ L s.heap news)(hm:(D,so)∈news)(hS:bb knd so PP)(hz:PP.length<=100)(ha1:argsOk "sorted" ⟨[.ref D],kw⟩)(ha2:∀ x,argsOk "list.sort" ⟨[.ref x],kw⟩)
  (h:∀ (vs:Yb) h' d (a:Nat),vs.Perm (PP.map (·.2))->Fr h₀ L h' m->News h₀ L h' ((a,lO vs 0)::news)->(∀ p∈news,p.1<a)->
   wpAny MP A.in1.in1 (Builtin.«list.sort» ⟨[.ref a],kw⟩) (fun fin s'=>fin=.done (.ret .none)/\Q (.ref a) s') E {s with heap:=h',drawn:=d}):
  wpAny MP A (call (.builtin "sorted") [.ref D] kw) Q E s:=by
 refine call_function_entry_kw kind_sorted plain_sorted entry_sorted ha1 ?_;unfold Builtin.«sorted»;refine Kz (m:=checkCount "sorted" 1 1 _) (KE ?_);refine Kz (jk (A:=A.in1) (by first|exact hh|(rw[show A.in1.handled=A.handled from rfl];exact hh)) (N _ hm).1 hS (bd hz) fun vs h' d hp hk=>?_);have hl:vs.length=PP.length:=by have:=hp.length_eq;simpa using this
 refine Kz (wpAny_newList ?_ (by refine aa Lh ?_;exact L2 [_,_] V1 (.n 16777216) 1 V0 (.n 100) 1 V1 V0 rfl hz (eL hl)));have F1:Fr h₀ L h' m:=⟨F.ns.at' fun o e=>hk _ o e,fun b o e=>hk b o (F.keep b o e),F.above⟩;have N1:News h₀ L h' news:=fun p hp=>⟨hk _ _ (N p hp).1,(N p hp).2⟩;have st:=h vs _ d h'.objs.size hp (F1.push (lO vs 0)) (NW F1 N1 (lO vs 0)) (fun p hp=>KQ (N1 p hp).1);refine Kz (Lk (wpAny_call_entry_kw slot_list_sort ⟨_,Lc _ rfl,rfl⟩ OR (K9 st (fun fin s' hq=>?_) fun _ _ e=>e) (ha2 _)));exact⟨.none,hq.1,KE ⟨_,rfl,hq.2⟩⟩
theorem qA(hh:A.handled=none)(F:Fr h₀ L s.heap m)(N:News h₀ L s.heap news)(hm:(D,so)∈news)(hS:bb knd so [(k,v)])(ht:∀ x,Builtin.«list.sort» ⟨[.ref x],[(Ye "key",f)]⟩=ksk_tree x f false)
  (turn:cQ A.in1.in1 h₀ L m news f v x y s.gens s.os) (h:∀ (a:Nat) h' tk d c,Fr h₀ L h' m->News h₀ L h' ((a,listOf #[v] c)::news)->(∀ p∈news,p.1<a)->Q (.ref a) {s with heap:=h',toks:=tk,drawn:=d}):
  wpAny MP A (call (.builtin "sorted") [.ref D] [(Ye "key",f)]) Q E s:=by
 refine lR hh F N hm hS (by show 1<=100;decide) (ksk_s1 _ _) (fun x=>ksk_l1 _ _) fun vs h' d a hp F' N' PW=>?_;have hv:vs=[v]:=List.perm_singleton.mp hp;subst hv;refine aa (ht _) ?_;exact o0 F' N' PW (by show 1<=100;decide) fun kS e1 h2 hk F2 N2=>Ab F2 N2 hk PW turn fun h3 tk c F3 N3=>⟨rfl,h a h3 tk d c F3 N3 PW⟩
theorem qB(hh:A.handled=none)(hu:A.in1.in1.units<cLine)(F:Fr h₀ L s.heap m)(N:News h₀ L s.heap news)(hm:(D,so)∈news)(hS:bb knd so [(k1,v1),(k2,v2)])(ht:∀ x,Builtin.«list.sort» ⟨[.ref x],[(Ye "key",f)]⟩=ksk_tree x f false)
  (YK:cQ A.in1.in1 h₀ L m news f v1 x1 y1 s.gens s.os) (YI:cQ A.in1.in1 h₀ L m news f v2 x2 y2 s.gens s.os) (P5:¬(x2=x1/\y2=y1))
  (h:∀ (a:Nat) h' tk d c,Fr h₀ L h' m->News h₀ L h' ((a,listOf (bT (bG x2 y2 x1 y1) v1 v2) c)::news)->(∀ p∈news,p.1<a)->Q (.ref a) {s with heap:=h',toks:=tk,drawn:=d}):
  wpAny MP A (call (.builtin "sorted") [.ref D] [(Ye "key",f)]) Q E s:=by
 refine lR hh F N hm hS (by show 2<=100;decide) (ksk_s1 _ _) (fun x=>ksk_l1 _ _) fun vs h' d a hp F' N' PW=>?_;have hv:=wS hp;refine aa (ht _) ?_;rcases hv with rfl|rfl
 ·exact o0 F' N' PW (by show 2<=100;decide) fun kS e1 h2 hk F2 N2=>uz hu F2 N2 hk PW YK YI P5 fun h3 tk c F3 N3=>⟨rfl,h a h3 tk d c F3 N3 PW⟩
 ·refine o0 F' N' PW (by show 2<=100;decide) fun kS e1 h2 hk F2 N2=>uz hu F2 N2 hk PW YI YK (fun q=>P5 ⟨q.1.symm,q.2.symm⟩) fun h3 tk c F3 N3=>⟨rfl,h a h3 tk d c F3 ?_ PW⟩
  have e:bT (bG x1 y1 x2 y2) v2 v1=bT (bG x2 y2 x1 y1) v1 v2:=by
   refine aa (uE P5) ?_;unfold bT
   cases bG x2 y2 x1 y1<;>rfl
  refine ae e ?_;exact N3
end
section
variable{A:Around}{E:X8}{s:Shared}{h₀:Heap}{L a:Addr}{m:X7}{news:X6}{Q:X8}
theorem pN(F:Fr h₀ L s.heap m)(N:News h₀ L s.heap news)(U:UpdF a (listOf #[v] n) news g)
  (h:∀ h' c,Fr h₀ L h' m->News h₀ L h' (g (listOf #[v] c))->Q .none {s with heap:=h'}):wpAny MP A (call (.builtin "list.sort") [.ref a]) Q E s:=by
 obtain⟨pre,post,rfl,hg,h1,h2⟩:=U.split;have hm:=N (a,listOf #[v] n) (KB _ (.head _));have ho:=hm.1;refine LS slot_list_sort ⟨_,ho,rfl⟩ OR ?_ (args_list_sort _);refine aa (list_sort_plain _) ?_;have s1:=Lp s.heap a (Obj.mapSeq fun _=>(#[]:Array Value));obtain⟨e1,ho1⟩:∃ e1,(s.heap.update a (Obj.mapSeq fun _=>(#[]:Array Value))).get? a=some (listOf #[] e1):=⟨_,Np ho fun _=>#[]⟩;have F1:=F.change s1 hm.2.1 hm.2.2;have N1:=N.setIn h1 h2 s1 ho1;refine Kz (MV ho rfl ?_);refine Kz (Oe ho rfl ?_ (by show (1:Nat)<=sizeLine;refine aa Lh ?_;decide) (K6 _));refine Kz (seqEpoch_at ho1 rfl ?_);refine Kz (wpAny_newTuple ?_ (by show (1:Nat)<=sizeLine;refine aa Lh ?_;decide));refine Kz (wpAny_newList ?_ (K6 _));refine Lk ?_;refine aa (KZ (by show (1:Nat)<2;decide)) (aa (KZ (by show (1:Nat)<2;decide)) ?_);refine Kz (KE ?_);dsimp only;refine aa (StateT.run_pure _ _) ?_;refine Kz (KE ?_);dsimp only;have ks:∀ b x,(s.heap.update a (Obj.mapSeq fun _=>(#[]:Array Value))).get? b=some x->(((s.heap.update a (Obj.mapSeq fun _=>(#[]:Array Value))).push {cls:= .type "tuple",data:= .seq #[v].toList.toArray 0}).push (listOf #[] 0)).get? b=some x:=fun b x e=>KN _ (KN _ e);have F2:=(F1.push {cls:= .type "tuple",data:= .seq #[v].toList.toArray 0}).push (listOf #[] 0);have N2:=News.grown N1 ks;have Tl:=N2 (a,listOf #[] e1) (KB _ (.head _));have s2:=Lp (((s.heap.update a (Obj.mapSeq fun _=>(#[]:Array Value))).push {cls:= .type "tuple",data:= .seq #[v].toList.toArray 0}).push (listOf #[] 0)) a (Obj.mapSeq fun _=>(#[v]:Array Value));obtain⟨e2,ho2⟩:∃ e2,((((s.heap.update a (Obj.mapSeq fun _=>(#[]:Array Value))).push {cls:= .type "tuple",data:= .seq #[v].toList.toArray 0}).push (listOf #[] 0)).update a (Obj.mapSeq fun _=>(#[v]:Array Value))).get? a=some (listOf #[v] e2):=⟨_,Np Tl.1 fun _=>#[v]⟩;refine Kz (seqEpoch_at Tl.1 rfl ?_);have esz:(arrOf (SortSt.mk' general' ((#[v]:Array Value).zip #[v]) #[] 7 none)).map (·.2)=#[v]:=by show ((#[v]:Array Value).zip #[v]).map (·.2)=_;simp
 refine aa esz ?_;refine Kz (Oe Tl.1 rfl ?_ (K6 _) (by show (1:Nat)<=sizeLine+1;refine aa Lh ?_;decide));simp only[bne_self_eq_false,Bool.false_eq_true,if_false];exact KE ⟨_,rfl,h _ e2 (F2.change s2 Tl.2.1 Tl.2.2) (by refine aa (hg _) ?_;exact N2.setIn h1 h2 s2 ho2)⟩
theorem xc{x y:Nat}{p1 q1 p2 q2:Str}{t1 u1 t2 u2:Tok}{n n1 n2:Nat}{pre post:X6}(F:Fr h₀ L s.heap m)(N:News h₀ L s.heap (pre++(a,listOf #[.ref x, .ref y] n)::post))(QY:∀ p∈pre++post,p.1≠a)
  (hx:(x,bm (.str p1 t1) (.str q1 u1) n1)∈pre++post) (hy:(y,bm (.str p2 t2) (.str q2 u2) n2)∈pre++post) (P5:p1≠p2)
  (h:∀ h' c,Fr h₀ L h' m->News h₀ L h' (pre++(a,listOf (bT (decide (p2.cps.toList<p1.cps.toList)) (.ref x) (.ref y)) c)::post)->Q .none {s with heap:=h'}):wpAny MP A (call (.builtin "list.sort") [.ref a]) Q E s:=by
 have hm:=N (a,listOf #[.ref x, .ref y] n) (KB _ (.head _));have N0:News h₀ L s.heap (pre++post):=fun p hp=>N p (by
  rcases KM.mp hp with hp|hp
  ·exact KA _ hp
  ·exact KB _ (.tail _ hp))
 refine LS slot_list_sort ⟨_,hm.1,rfl⟩ OR ?_ (args_list_sort _);refine kat_list_sort (vs:=[.ref x, .ref y]) F N0 hm.1 hm.2.1 hm.2.2 QY (by show (2:Nat)<=2;decide) (by show (2:Nat)<64;decide) fun e1 h' F' N'=>?_;have gx:=(N' _ (.tail _ hx)).1;have gy:=(N' _ (.tail _ hy)).1;refine kat_kind (fs:=[.str p1 t1, .str p2 t2]) (T:= .type "str") (KatTups.cons gx rfl rfl rfl (KatTups.cons gy rfl rfl rfl KatTups.nil)) (by show 0<2;decide) (fun v hv=>?_) (by decide) ?_
 ·rcases KI.mp hv with rfl|hv
  ·exact .now
  ·refine aa (KF.mp hv) ?_;exact .now
 show kas_ask PR w A.in1 _ [.ref x, .ref y] 1 0 _ _;refine kat_lt gy rfl gx rfl ?_;refine kat_cons (wpAny_eqBool_str ?_);have hd:decide (p2=p1)=false:=K0 fun e=>P5 e.symm;have hb:(p2==p1)=false:=LN.mpr fun e=>P5 e.symm;simp only[hd];refine kat_no ?_;refine aa (show ((Value.type "str" !=Value.type "tuple")&&(0:Nat)==0)=true from by decide) ?_;refine oneLt_str ?_;have U:UpdF a (seqObj "list" #[] e1) ((a,seqObj "list" #[] e1)::(pre++post)) (fun o'=>(a,o')::(pre++post)):= .head QY;have fin:∀ (b:Bool) (out:Yb),List.toArray out=bT b (.ref x) (.ref y)->KasFin h₀ L m a e1 out (fun s3=>(fun fin s'=>∃ v,fin=PySem.Fin.done (.ret v)/\Q v s') (.done (.ret .none)) s3) {s with heap:=h'}∨¬b=decide (p2.cps.toList<p1.cps.toList):=fun b out e=>by
  by_cases hb:b=decide (p2.cps.toList<p1.cps.toList)
  ·left
   subst hb;refine KasFin.intro F' N' U fun h2 c F2 N2=>⟨_,rfl,h h2 c F2 ?_⟩;rw[e] at N2;exact gk N2 Lf.symm
  ·exact .inr hb
 cases hb:decide (p2.cps.toList<p1.cps.toList) with
 |true=>
  refine(fin true _ ?_).resolve_right (fun q=>q hb.symm);have e01:(#[0,1]:Array Nat).swapIfInBounds 0 1=#[1,0]:=by decide
  simp[kas_rev,mirror,List.range,List.range.loop,e01,bT]
 |false=>
  refine(fin false _ ?_).resolve_right (fun q=>q hb.symm);simp[List.range,List.range.loop,bT]
end
structure Fx where
 A₀:Around
 base:Heap
 k:Nat
 dp:Nat
 un:Nat
 gd:Option (List Code)
 cn:Str
 cs:Scope
 L:Addr
 a:Addr
 ccd:Value
 cl:List (Str×Addr)
 outer:List Env
 h₀:Heap
 os:OsState
 g₀:Array GenState
noncomputable def Fx.env (c:Fx):Env:=envX c.cn c.cs c.L c.a c.ccd c.cl
noncomputable def Fx.A (c:Fx):Around:=ktrTop c.dp c.un c.gd c.cn c.cs c.L c.a c.ccd c.cl c.outer
def Fx.Gp(c:Fx)(g:Array GenState):Prop:=AllBare g/\(c.k=0->g=c.g₀)
structure ay(c:Fx)(s:Shared)(m:X7)(n:X6):Prop where
 B:Below c.A₀ c.base c.outer c.h₀
 X:(ao w.params).In c.h₀
 T:ry (fun Qv mg mb=>TT Qv mg mb c.h₀)
 hk:c.cs.kind=.function
 hd:c.dp+c.k<recursionLimit
 hu:c.un+20*c.k<cLine
 F:Fr c.h₀ c.L s.heap m
 N:News c.h₀ c.L s.heap n
 D:ax n
 G:c.Gp s.gens
 O:s.os=c.os
theorem wrap{P:Prop}(h:P):P:=h
abbrev Br(b:Bool)(P Q:Prop):Prop:=match b with|true=>P|false=>Q
abbrev ad(α:Type):=α->X7->X6->Prop
structure Tr{α:Type}(c:Fx)(E:X8)(m:X7)(n:X6)(p:Sem α)(K:ad α):Prop where
 go:∀ s,ay c s m n->wpAny MP c.A p (fun v s'=>bE (fun m' n'=>ay c s' m' n') (fun m' n'=>K v m' n')) E s
instance {α:Type} {c:Fx} {E:X8} {m:X7} {n:X6} {p:Sem α} {K:ad α}:CoeFun (Tr c E m n p K) fun _=>∀ s,ay c s m n->wpAny MP c.A p (fun v s'=>bE (fun m' n'=>ay c s' m' n') (fun m' n'=>K v m' n')) E s:=⟨Tr.go⟩
section
variable{c:Fx}{E:X8}{m:X7}{n:X6}{α β:Type}
theorem ay.to(l:ay c s m n)(F:Fr c.h₀ c.L s'.heap m')(N:News c.h₀ c.L s'.heap n')(D:ax n')(G:c.Gp s'.gens)(O:s'.os=s.os):ay c s' m' n':=
 ⟨l.B,l.X,l.T,l.hk,l.hd,l.hu,F,N,D,G,O.trans l.O⟩
theorem ay.push(l:ay c s m n)(o:Obj)(ho:o.isFreed=false:=by rfl):ay c {s with heap:=s.heap.push o} m ((s.heap.objs.size,o)::n):=
 l.to (l.F.push o) (NW l.F l.N o ho) (l.D.fresh fun p hp=>KQ (l.N p hp).1) l.G rfl
theorem ay.tok(l:ay c s m n):ay c {s with toks:=tk} m n:=l.to l.F l.N l.D l.G rfl
theorem ay.perm(l:ay c s m n)(p:n.Perm n'):ay c s m n':=l.to l.F (gk l.N p) (l.D.perm p) l.G rfl
theorem ay.sub(l:ay c s m n)(h:n'.Sublist n):ay c s m n':=l.to l.F (fun p hp=>l.N p (h.subset hp)) (List.Nodup.sublist (h.map _) l.D) l.G rfl
theorem Tr.mono{p:Sem α}{K K':ad α}(h:Tr c E m n p K)(k:∀ v m n,K v m n->K' v m n):Tr c E m n p K':=
 .mk fun s l=>K9 (h s l) (fun _ _ ⟨m',n',l',q⟩=>⟨m',n',l',k _ _ _ q⟩) fun _ _ e=>e
theorem GH{p:Sem α}{K K₁:ad α}(h:∀ T7:ad α,(∀ v m n,K₁ v m n->T7 v m n)->Tr c E m n p T7)(k:∀ v m n,K₁ v m n->K v m n):Tr c E m n p K:=Tr.mono (h K₁ fun _ _ _ x=>x) k
theorem Kn{v:α}{K:ad α}(h:K v m n):Tr c E m n (Pure.pure v) K:= .mk fun _ l=>KE ⟨m,n,l,h⟩
theorem IW{p:Sem α}{f:α->Sem β}{K:ad β}(h:Tr c E m n p fun v m n=>Tr c E m n (f v) K):Tr c E m n (p>>=f) K:=
 .mk fun s l=>Kz (K9 (h s l) (fun _ s' ⟨_,_,l',q⟩=>q s' l') fun _ _ e=>e)
theorem GW{p:Sem α}{K:ad α}{n':X6}(h:n'.Sublist n)(k:Tr c E m n' p K):Tr c E m n p K:= .mk fun s l=>k s (l.sub h)
theorem Gd{p:Sem α}{K:ad α}{n':X6}(h:n.Perm n')(k:Tr c E m n' p K):Tr c E m n p K:= .mk fun s l=>k s (l.perm h)
theorem HP{p:Sem α}{K:ad α}{s:Shared}{Q:α->Shared->Prop}(l:ay c s m n)(h:Tr c E m n p K)(k:∀ v s' m' n',ay c s' m' n'->K v m' n'->Q v s'):wpAny MP c.A p Q E s:=
 K9 (h s l) (fun _ _ ⟨_,_,l',q⟩=>k _ _ _ _ l' q) fun _ _ e=>e
theorem up{p:Sem α}{K:ad α}{s:Shared}{Q:α->Shared->Prop}(h:wpAny MP c.A p (fun v s'=>bE (fun m' n'=>ay c s' m' n') (fun m' n'=>K v m' n')) E s)(k:∀ v s',(bE (fun m' n'=>ay c s' m' n') (fun m' n'=>K v m' n'))->Q v s'):wpAny MP c.A p Q E s:=
 K9 h (fun _ _ q=>k _ _ q) fun _ _ e=>e
theorem am{p:Sem α}{K:ad α}{s:Shared}{Q:α->Shared->Prop}(h:wpAny MP c.A p (fun v s'=>bE (fun m' n'=>ay c s' m' n') (fun m' n'=>K v m' n')) E s)(k:∀ v s' m' n',ay c s' m' n'->K v m' n'->Q v s'):wpAny MP c.A p Q E s:=
 K9 h (fun v s' h=>h.casesOn fun m' n' l q=>k v s' m' n' l q) fun _ _ e=>e
abbrev kT(c:Fx)(E:X8)(f:α->Sem β)(J:ad β):ad α:=fun v m n=>Tr c E m n (f v) J
abbrev kE(c:Fx)(E:X8)(e:X9)(env:Env)(f:α->Value->Sem β)(J:ad β):ad α:=fun x m n=>Tr c E m n (eval e env) (kT c E (f x) J)
abbrev kS(c:Fx)(E:X8)(r:Yd)(env:Env)(K:ad Flow):ad α:=fun _ m n=>Tr c E m n (execs r env) K
abbrev kA(c:Fx)(E:X8)(x:Str)(r:Yd)(K:ad Flow):ad Value:=fun v m n=>Tr c E (fun y=>if y=x then some v else m y) n (execs r c.env) K
abbrev kR(K:ad Flow):ad Value:=fun v m n=>K (.ret v) m n
abbrev kB(c:Fx)(E:X8)(r₁ SM:Yd)(env:Env)(K:ad Flow):ad Bool:=fun b m n=>Br b (Tr c E m n (execs r₁ env) K) (Tr c E m n (execs SM env) K)
abbrev kX(c:Fx)(E:X8)(a b:X9)(env:Env)(J:ad Value):ad Bool:=fun x m n=>Br x (Tr c E m n (eval a env) J) (Tr c E m n (eval b env) J)
abbrev kC(v:Value)(K:ad Yb):ad Yb:=fun vs m n=>K (v::vs) m n
abbrev kV(c:Fx)(E:X8)(p:Pos)(r:List X9)(env:Env)(K:ad Yb):ad Value:=fun v m n=>Tr c E m n (spliced (backTo p (starEach r env))) (kC v K)
abbrev kM(c:Fx)(E:X8)(name:Str)(pl:Sem Bool)(p:Pos)(as:List X9)(env:Env)(J:ad Value):ad Value:=fun ov m n=>Tr c E m n (getMethod ov name pl) (kT c E (fun fx=>callWith p fx.1 fx.2 (backTo p (starEach as env)) []) J)
def Sq(c:Fx)(E:X8)(r:Yd)(env:Env)(K:ad Flow):ad Flow:=fun f m n=>match f with| .next=>Tr c E m n (execs r env) K|f=>K f m n
variable{K:ad Flow}{e:X9}{r:Yd}{env:Env}
theorem Gu{st:Stmt}(h:Tr c E m n (exec st env) (Sq c E r env K)):Tr c E m n (execs (st::r) env) K:= .mk fun s l=>
 Lr (am (h s l) fun f s' m' n' l' q=>by cases f<;>first|exact Tr.go q s' l'|exact⟨m',n',l',q⟩)
theorem F6(h:K .next m n):Tr c E m n (execs [] env) K:= .mk fun _ l=>wpAny_execs_nil ⟨m,n,l,h⟩
theorem GM(h:Tr c E m n (eval e env) (kR K)):Tr c E m n (execs (.Return (some e) p::r) env) K:= .mk fun s l=>
 Lr (wpAny_Return_some (h s l))
theorem I0(h:K (.ret .none) m n):Tr c E m n (execs (.Return none p::r) env) K:= .mk fun _ l=>Lr (wpAny_Return_none ⟨m,n,l,h⟩)
theorem Ge(h:Tr c E m n (eval e env) (kS c E r env K))(hi:interactive env=false:=by rfl)(hs:swapsWith e none p.line env=Pure.pure false:=by rfl):Tr c E m n (execs (.Expr e p::r) env) K:= .mk fun s l=>
 Lr (wpAny_Expr_any (am (h s l) fun _ s' _ _ l' q=>q s' l') hi hs)
theorem Gk{p:Pos}{t:X9}{Xo Xp:Yd}(h:Tr c E m n (isTrue t env (eval t env)) (kB c E Xo Xp env (Sq c E r env K))):
  Tr c E m n (execs (.If t Xo Xp p::r) env) K:=Gu<| .mk fun s l=>wpAny_If (am (h s l) fun b s' _ _ l' q=>by
   cases b
   ·exact q s' l'
   ·exact q s' l')
theorem GV{p:Pos}{t:X9}{Xo Xp:Yd}(h:Tr c E m n (isTrue t env (eval t env)) (kB c E Xo Xp env K)):
  Tr c E m n (exec (.If t Xo Xp p) env) K:= .mk fun s l=>wpAny_If (am (h s l) fun b s' _ _ l' q=>by
   cases b
   ·exact q s' l'
   ·exact q s' l')
theorem JK{x:Str}{v:Value}{K:ad Unit}(h:K () (fun y=>if y=x then some v else m y) n)(hx:c.env.kindOf x=some .local):Tr c E m n (storeName c.env x v) K:= .mk fun _ l=>
 storeX_L l.F l.N (fun _ F' N'=>⟨_,_,l.to F' N' l.D l.G rfl,h⟩) l.hk hx
theorem Gf(h:Tr c E m n (eval e c.env) (kA c E x r K))(hx:c.env.kindOf x=some .local:=by rfl)(hs:swapsWith e (some (.Name x p')) p.line c.env=Pure.pure false:=by rfl):
  Tr c E m n (execs (.Assign [.Name x p'] e p::r) c.env) K:= .mk fun s l=>
 Lr (Pe (am (h s l) fun _ s' _ _ l' q=>storeX_L l'.F l'.N (fun _ F' N'=>q _ (l'.to F' N' l'.D l'.G rfl)) l'.hk hx) hs)
variable{J:ad Value}
theorem FY(hv:m x=some v)(h:J v m n)(hx:c.env.kindOf x=some .local:=by rfl)(hd:(x==("__debug__":Str))=false:=by decide):Tr c E m n (eval (.Name x p) c.env) J:= .mk fun _ l=>
 nameX_L l.F hv ⟨m,n,l,h⟩ l.hk hx hd
theorem GJ(hc:c.cl.lookup x=some a)(hm:(a,o)∈n)(hd:o.data=.cell (some v))(h:J v m n)(hx:c.env.kindOf x=some .cell:=by rfl)(hb:(x==("__debug__":Str))=false:=by decide):Tr c E m n (eval (.Name x p) c.env) J:= .mk fun _ l=>
 nameX_C l.N hc hm hd ⟨m,n,l,h⟩ l.hk hx hb
theorem Gz(e:nsIn (ao w.params) mainGlobals x=some (some v))(h:J v m n)(hx:c.env.kindOf x=some .globalImplicit:=by rfl)(hd:(x==("__debug__":Str))=false:=by decide):Tr c E m n (eval (.Name x p) c.env) J:= .mk fun _ l=>
 let ⟨_,_,_,t⟩:=l.T;nameX_K l.F l.X (topRead_of t) e ⟨m,n,l,h⟩ l.hk hx hd
theorem HK(e:nsIn (ao w.params) mainGlobals x=some none)(hv:bootBuiltins x=some v)(hn:x≠"__name__")(h:J v m n)(hx:c.env.kindOf x=some .globalImplicit:=by rfl)(hd:(x==("__debug__":Str))=false:=by decide):Tr c E m n (eval (.Name x p) c.env) J:= .mk fun _ l=>
 let ⟨_,_,_,t⟩:=l.T;nameX_B l.F l.X (topRead_of t) e hv hn ⟨m,n,l,h⟩ l.hk hx hd
theorem Gw(h:J .none m n):Tr c E m n (eval (.Constant .none k p) env) J:= .mk fun _ l=>wpAny_Constant_none ⟨m,n,l,h⟩
theorem HA(h:J (.bool b) m n):Tr c E m n (eval (.Constant (.bool b) k p) env) J:= .mk fun _ l=>wpAny_Constant_bool ⟨m,n,l,h⟩
theorem Gc(h:∀ t,J (.str x t) m n):Tr c E m n (eval (.Constant (.str x) k p) env) J:= .mk fun _ l=>wpAny_Constant_str ⟨m,n,l.tok,h _⟩
theorem F7(h:∀ t,J (.int i t) m n):Tr c E m n (eval (.Constant (.int i) k p) env) J:= .mk fun _ l=>Nh ⟨m,n,l.tok,h _⟩
theorem ID(h:Tr c E m n (eval a env) (kE c E b env (compareOp op) J))(hm:behindInMarks op b=false:=by with_unfolding_all rfl):Tr c E m n (eval (.Compare a [op] [b] p) env) J:= .mk fun s l=>
 wpAny_Compare1 (am (h s l) fun _ s' _ _ l' q=>am (q s' l') fun _ s' _ _ l' q=>q s' l') hm
theorem F8(h:Tr c E m n (eval a env) (kE c E b env (binaryOp op) J)):Tr c E m n (eval (.BinOp a op b p) env) J:= .mk fun s l=>
 wpAny_BinOp (am (h s l) fun _ s' _ _ l' q=>am (q s' l') fun _ s' _ _ l' q=>q s' l')
theorem Hb{t a b:X9}{p:Pos}(h:Tr c E m n (isTrue t env (eval t env)) (kX c E a b env J)):Tr c E m n (eval (.IfExp t a b p) env) J:= .mk fun s l=>
 wpAny_IfExp (am (h s l) fun x s' _ _ l' q=>by
  cases x
  ·exact q s' l'
  ·exact q s' l')
theorem H0(h:Tr c E m n (eval o env) (kT c E (fun v=>getAttr v x true) J))
  (he:eval (.Attribute o x p) env=(do
   let v←eval o env
   standAt p.atName
   let y←holding [v] (getAttr v x true)
   letTemporaryGo o v y
   Pure.pure y):=by with_unfolding_all rfl):Tr c E m n (eval (.Attribute o x p) env) J:= .mk fun s l=>
 Attribute_any_ (am (h s l) fun _ s' _ _ l' q=>q s' l') he
theorem Gg(h:Tr c E m n (eval o env) (kE c E i env (subscriptTail o i) J)):Tr c E m n (eval (.Subscript o i p) env) J:= .mk fun s l=>
 Subscript_ (am (h s l) fun _ s' _ _ l' q=>am (q s' l') fun _ s' _ _ l' q=>q s' l')
variable{B:ad Bool}
theorem Gn(h:Tr c E m n TC (kT c E truthy B))(he:isTrue e env TC=(do let v←TC;standAt e.pos;holding [v] (truthy v)):=by rfl):Tr c E m n (isTrue e env TC) B:= .mk fun s l=>
 wpAny_isTrue_value (am (h s l) fun _ s' _ _ l' q=>q s' l') he
theorem Gb(h:Tr c E m n (eval a env) (kE c E b env (compareOp op) (kT c E truthy B)))(hm:behindInMarks op b=false:=by with_unfolding_all rfl):
  Tr c E m n (isTrue (.Compare a [op] [b] p) env TC) B:= .mk fun s l=>
 wpAny_isTrue_Compare1 (am (h s l) fun _ s' _ _ l' q=>am (q s' l') fun _ s' _ _ l' q=>am (q s' l') fun _ s' _ _ l' q=>q s' l') hm
theorem Ib(h:Tr c E m n (isTrue a env (eval a env)) fun b m n=>B (!b) m n):Tr c E m n (isTrue (.UnaryOp .Not a p) env TC) B:= .mk fun s l=>wpAny_isTrue_Not (h s l)
theorem GR(h:Tr c E m n (allTrue op xs env) B):Tr c E m n (isTrue (.BoolOp op xs p) env TC) B:= .mk fun s l=>wpAny_isTrue_BoolOp (h s l)
theorem He(h:B true m n):Tr c E m n (allTrue .And [] env) B:= .mk fun _ l=>wpAny_allTrue_And_nil ⟨m,n,l,h⟩
theorem Gy{x:X9}{xs:List X9}(h:Tr c E m n (isTrue x env (eval x env)) fun b m n=>Br b (Tr c E m n (allTrue .And xs env) B) (B false m n)):Tr c E m n (allTrue .And (x::xs) env) B:= .mk fun s l=>
 wpAny_allTrue_And_cons (am (h s l) fun b s' m' n' l' q=>by
  cases b
  ·exact⟨m',n',l',q⟩
  ·exact q s' l')
theorem F9(h:B b m n):Tr c E m n (truthy (.bool b)) B:= .mk fun _ l=>wpAny_truthy_bool ⟨m,n,l,h⟩
theorem Hq(h:B false m n):Tr c E m n (truthy .none) B:= .mk fun _ l=>truthy_none ⟨m,n,l,h⟩
theorem JO(h:B (i !=0) m n):Tr c E m n (truthy (.int i t)) B:= .mk fun _ l=>P.truthy_int ⟨m,n,l,h⟩
theorem JP(hx:x.length<=16777216)(h:B ((x.length:Int) !=0) m n):Tr c E m n (truthy (.str x t)) B:= .mk fun _ l=>P.truthy_str (EV hx) ⟨m,n,l.tok,h⟩
theorem HE(hm:(a,listOf its k)∈n)(hz:its.size<=16777216)(h:B (!its.isEmpty) m n):Tr c E m n (truthy (.ref a)) B:= .mk fun _ l=>
 wpAny_truthy_list ⟨_,(l.N _ hm).1,rfl,k,rfl⟩ (xQ hz) ⟨m,n,l.tok,h⟩
theorem Hl(h:J (.bool (!(v== .none))) m n):Tr c E m n (compareOp .IsNot v .none) J:= .mk fun _ l=>isNot_none ⟨m,n,l,h⟩
end
section
variable{c:Fx}{E:X8}{m:X7}{n pre post:X6}{J:ad Value}{env:Env}
structure dR(name:Str)(es:List DictEntry)(v:Value):Prop where
 hg:plainGet (ao w.params) 150 name=true
 hh:hasDictIn (ao w.params) 150=true
 ha:aO (fun attr=>findIn (ao w.params) (.ref 150) name=some attr) (fun attr=>noGet (ao w.params) attr=true)
 hl:getL name es=some (some v)
 hv:handedIn v=true
theorem Gr(o:dR y es v)(hx:m x=some (.ref W))(h1:(W,instObj 150 D)∈n)(h2:(D,dictOf es k)∈n)(h:J v m n)(hk:c.env.kindOf x=some .local:=by rfl)(hd:(x==("__debug__":Str))=false:=by decide)
  (he:eval (.Attribute (.Name x px) y p) c.env=(do
   let v←eval (.Name x px) c.env
   standAt p.atName
   let z←holding [v] (getAttr v y true)
   letTemporaryGo (.Name x px) v z
   Pure.pure z):=by with_unfolding_all rfl):Tr c E m n (eval (.Attribute (.Name x px) y p) c.env) J:=
 H0 (FY hx (.mk fun _ l=>let ⟨_,a,b⟩:=o.ha;get_own l.F l.X (MX l.N h1 h2) o.hg o.hh a b o.hl o.hv ⟨m,n,l.tok,h⟩) hk hd) he
theorem Ga{o:X9}{name:Str}{ap p:Pos}{args:List X9}{pl:Sem Bool}(h:Tr c E m n (eval o env) (kM c E name pl p args env J))
  (he:eval (.Call (.Attribute o name ap) args [] p) env=(do
   let ov←eval o env
   standAt ap.atName
   let (f,first)←holding [ov] (getMethod ov name pl)
   callWith p f first (backTo p (starEach args env)) []):=by rfl):Tr c E m n (eval (.Call (.Attribute o name ap) args [] p) env) J:= .mk fun s l=>
 MethodCall_ (am (h s l) fun _ s' _ _ l' q=>am (q s' l') fun _ s' _ _ l' q=>q s' l') he
structure iA(name:Str)(es:List DictEntry)(f:Addr):Prop where
 hg:plainGet (ao w.params) 150 name=true
 hf:findIn (ao w.params) (.ref 150) name=some (some (.ref f))
 ht:isFn (ao w.params) (.ref f)=true
 hk:keepIn (ao w.params) (.ref f)=true
 hl:getL name es=some none
theorem GZ{name:Str}{pl:Sem Bool}{W D f:Nat}{es:List DictEntry}{k:Nat}{K:ad (Value×Yb)}(o:iA name es f)(h1:(W,instObj 150 D)∈n)(h2:(D,dictOf es k)∈n)(h:K (.ref f,[.ref W]) m n):Tr c E m n (getMethod (.ref W) name pl) K:= .mk fun _ l=>
 method_inst l.F l.X (MX l.N h1 h2) o.hg o.hf o.ht o.hl ⟨m,n,l,h⟩
theorem Gj{name:Str}{id:String}{pl:Sem Bool}{D:Addr}{its:Array Value}{k:Nat}{K:ad (Value×Yb)}(hm:(D,listOf its k)∈n)(slot:Slot "list" name id)(hty:typeOf (.builtin id)=Pure.pure (.type "method_descriptor"))(h:K (.builtin id,[.ref D]) m n):Tr c E m n (getMethod (.ref D) name pl) K:= .mk fun _ l=>
 kl_method l.N hm slot hty ⟨m,n,l,h⟩
theorem FZ{p:Pos}{K:ad Yb}(h:K [] m n):Tr c E m n (spliced (backTo p (starEach [] env))) K:= .mk fun _ l=>LA ⟨m,n,l,h⟩
theorem F0{p:Pos}{e:X9}{r:List X9}{K:ad Yb}(h:Tr c E m n (eval e env) (kV c E p r env K))
  (he:starEach (e::r) env=(false,eval e env)::starEach r env:=by rfl):Tr c E m n (spliced (backTo p (starEach (e::r) env))) K:= .mk fun s l=>
 Lo (am (h s l) fun _ s' _ _ l' q=>q s' l') he
theorem Ha(hk:keepIn (ao w.params) (.ref f)=true)(h:Tr c E m n (spliced (backTo p (starEach (e::r) env))) (kT c E (fun vs=>call (.ref f) (first++vs)) J))
  (he:starEach (e::r) env=(false,eval e env)::starEach r env:=by rfl) (hp:(backTo p (starEach r env)).any (·.1)=false:=by rfl):Tr c E m n (callWith p (.ref f) first (backTo p (starEach (e::r) env)) []) J:= .mk fun s l=>
 callWith_K l.X hk (am (h s l) fun _ s' _ _ l' q=>⟨l'.X.keeps l'.F.keep,q s' l'⟩) he hp
theorem Kb(hk:keepIn (ao w.params) (.ref f)=true)(h:Tr c E m n (call (.ref f) (first++[])) J):Tr c E m n (callWith p (.ref f) first (backTo p (starEach [] env)) []) J:= .mk fun s l=>
 callWith_K0 (l.X.keeps l.F.keep) hk (h s l)
theorem Gq{p:Pos}{id:String}{first:Yb}{e:X9}{r:List X9}(h:Tr c E m n (spliced (backTo p (starEach (e::r) env))) (kT c E (fun vs=>call (.builtin id) (first++vs)) J))
  (he:starEach (e::r) env=(false,eval e env)::starEach r env:=by rfl) (hp:(backTo p (starEach r env)).any (·.1)=false:=by rfl):Tr c E m n (callWith p (.builtin id) first (backTo p (starEach (e::r) env)) []) J:= .mk fun s l=>
 N9 (am (h s l) fun _ s' _ _ l' q=>q s' l') he hp
theorem Hk{p:Pos}{id:String}{first:Yb}(h:Tr c E m n (call (.builtin id) first) J):Tr c E m n (callWith p (.builtin id) first (backTo p (starEach [] env)) []) J:= .mk fun s l=>callWith_method0 (h s l)
theorem pW:∀ {n:X6} (pre:X6) {post:X6},n=pre++(a,o)::post->ax n->Upd a o o' n (pre++(a,o')::post)
 |_,[],_,rfl,h=> .head fun q hq=>h.ne hq
 |_,p::pre,_,rfl,h=> .tail (fun e=>(ax.cons.mp h).1 (a,o) (KB _ (.head _)) e.symm) (pW pre rfl h.tail)
theorem Jn(hn:n=pre++(D,listOf its k)::post)(hz:its.size<=100000)(h:J .none m (pre++(D,listOf (its.push x) (k+1))::post)):Tr c E m n (call (.builtin "list.append") [.ref D,x]) J:= .mk fun _ l=>
 append_K l.F l.N (pW pre hn l.D) (fun _ F' N'=>⟨_,_,l.to F' N' (hn▸l.D).set l.G rfl,h⟩) (by refine aa Lh ?_;exact bd hz)
theorem J4(hq:(q,bf "list.append" (.ref D))∈n)(hn:n=pre++(D,listOf its k)::post)(hz:its.size<=100000)(h:J .none m (pre++(D,listOf (its.push x) (k+1))::post)):Tr c E m n (call (.ref q) [x]) J:= .mk fun _ l=>
 yR l.F l.N hq (pW pre hn l.D) (fun _ F' N'=>⟨_,_,l.to F' N' (hn▸l.D).set l.G rfl,h⟩) (by refine aa Lh ?_;exact bd hz)
theorem HN(hn:n=pre++(D,lO (p++[y]) k)::post)(hz:p.length<=100000)(h:J y m (pre++(D,lO p (k+1))::post)):Tr c E m n (call (.builtin "list.pop") [.ref D]) J:= .mk fun _ l=>by
 have e:kl_last (p++[y]).toArray.toList=some (p,y):=by
  show kl_last (p++[y])=_;clear hn hz h
  induction p with
  |nil=>rfl
  |cons z p ih=>show (match kl_last (p++[y]) with|some (p,y)=>some (z::p,y)|none=>some ([],z))=_;exact aa ih rfl
 exact kl_pop l.F l.N e (pW pre hn l.D) (by show (p++[y]).length<=sizeLine;refine aa Lh (aa KJ (aa Nb ?_));exact L1 [_] (.a V0 W1) (.n 16777216) 1 V0 (.n 100000) rfl hz) fun _ F' N'=>⟨_,_,l.to F' N' (hn▸l.D).set l.G rfl,h⟩
theorem Ho(hm:(a,lO (xs++[v]) k)∈n)(h:J v m n)(hs:subscripted i false (.ref a) (.int (-1) u)=operate [.ref a, .int (-1) u] (getItem (.ref a) (.int (-1) u)):=by with_unfolding_all rfl):
  Tr c E m n (subscriptTail o i (.ref a) (.int (-1) u)) J:= .mk fun _ l=>uw l.N hm ⟨m,n,l,h⟩ hs
theorem Hj{o i:X9}{a:Addr}{xs:Yb}{v:Value}{u:Tok}{k:Nat}{j:Nat}{z:Int}(hm:(a,(⟨.type "tuple",none, .seq xs.toArray k,#[]⟩:Obj))∈n)(hz:z=(j:Int))(hj:xs[j]?=some v)(hl:xs.length<=1000)(h:J v m n)(hs:∀ u,subscripted i false (.ref a) (.int z u)=operate [.ref a, .int z u] (getItem (.ref a) (.int z u)):=by intro u;with_unfolding_all rfl):
  Tr c E m n (subscriptTail o i (.ref a) (.int z u)) J:= .mk fun _ l=>by
 obtain⟨SE,_⟩:=Ll.mp hj;subst hz;refine item_tupleT (j:=j) ⟨_,(l.N _ hm).1,rfl,k,rfl⟩ (iX) (B2 SE hl) ?_ hj ⟨m,n,l,h⟩ (hs u);unfold seqIndex?;simp;exact u3 SE
theorem Hn(hm:(d,ob)∈n)(hd:ob.IsDictOf (PySem.strKind PR w) PP)(hv:valueAt PP x=some v)(h:J v m n)
  (hs:subscripted i false (.ref d) (.str x t)=operate [.ref d, .str x t] (getItem (.ref d) (.str x t)):=by with_unfolding_all rfl):Tr c E m n (subscriptTail o i (.ref d) (.str x t)) J:= .mk fun _ l=>
 kdt_tail l.N hm hd (kdt_getItem (knd:=PySem.strKind PR w) l.N hm hd (NH _ _ _ _) hv ⟨m,n,l.tok,h⟩) hs
theorem Jf(hm:(a,listOf its k)∈n)(hz:its.size<=100000)(h:∀ t,J (.int its.size t) m n):Tr c E m n (call (.builtin "len") [.ref a]) J:= .mk fun _ l=>
 PyProof.Rows.len_list ⟨_,(l.N _ hm).1,rfl,k,rfl⟩ (BX hz) ⟨m,n,l.tok,h _⟩
theorem Gm(hx:x.length<=1000000)(hy:y.length<=1000000)(h:∀ t,J (.str (x++y) t) m n):Tr c E m n (binaryOp .Add (.str x t) (.str y u)) J:= .mk fun _ l=>
 KXadd.add hx hy (by decide) fun _ _ _=>⟨m,n,l.tok,h _⟩
theorem Hf(h:Tr c E m n (joinParts Str.empty (eval v₁ env::eval v₂ env::evalEach r env)) J):Tr c E m n (eval (.JoinedStr (v₁::v₂::r) p) env) J:= .mk fun s l=>JoinedStr_many (h s l)
theorem G7(hz:out.length<=1000000)(h:∀ t,J (.str out t) m n):Tr c E m n (joinParts out []) J:= .mk fun _ l=>joinParts_nil ⟨m,n,l.tok,h _⟩ (by refine aa Lh ?_;exact bd hz)
theorem G4(h:Tr c E m n x fun v m n=>bW (fun y t=>v=.str y t) (fun y _=>(out++y).length<=1000000) (fun y _=>Tr c E m n (joinParts (out++y) r) J)):Tr c E m n (joinParts out (x::r)) J:= .mk fun s l=>
 joinParts_cons (am (h s l) fun _ s' _ _ l' ⟨_,_,e,hz,q⟩=>e▸⟨by refine aa Lh ?_;exact bd hz,q s' l'⟩)
theorem GA(h:Tr c E m n (spliced (backTo p (starEach es env))) fun vs m n=>vs.length<=1000/\∀ a:Nat,J (.ref a) m ((a,(⟨.type "tuple",none, .seq vs.toArray 0,#[]⟩:Obj))::n)):Tr c E m n (eval (.Tuple es k p) env) J:= .mk fun s l=>
 wpAny_Tuple (am (h s l) fun _ s' _ _ l' ⟨hz,q⟩=>⟨by refine aa Lh ?_;lia,_,_,l'.push _,q _⟩)
theorem Gx(h:Tr c E m n (spliced (backTo p (starEach es env))) fun vs m n=>vs.length<=1000/\∀ a:Nat,J (.ref a) m ((a,lO vs 0)::n)):Tr c E m n (eval (.List es p) env) J:= .mk fun s l=>
 wpAny_List (am (h s l) fun _ s' _ _ l' ⟨hz,q⟩=>⟨by refine aa Lh ?_;lia,_,_,l'.push _,q _⟩)
end
def dC(c:Fx)(m:X7)(rest:X6)(Rs:Str->X6->Prop)(E:X8):Prop:=
 ∀ PQ Yr,Rs PQ Yr->∀ e t h' TD Qg d' TY tw,Fr c.h₀ c.L TD m->(∀ p∈rest,TD.get? p.1=some p.2/\p.1≠c.L)->RaisedS c.base TD (c.env::c.outer) e (.type "ValueError") t [.str PQ tw] Yr h'->TD.UpToSlots h'->AllBare Qg->E (.ref e) ⟨h',Qg,d',TY,c.os⟩
def eT:Str->X6->Prop:=fun _ _=>False
theorem dC.no:dC c m rest eT E:=fun _ _ h=>h.elim
def Cd(k:Nat)(f:Addr)(args:Yb)(n:X6)(P:Value->X6->Prop)(Rs:Str->X6->Prop):Prop:=
 ∀ (c:Fx) E m rest J,k<=c.k->(∀ v n',P v n'->J v m (n'++rest))->dC c m rest Rs E->Tr c E m (n++rest) (call (.ref f) args) J
def eE(k:Nat)(f:Addr)(as:Args)(n:X6)(P:Value->X6->Prop)(Rs:Str->X6->Prop):Prop:=
 ∀ (c:Fx) E m rest (J:ad Value),k<=c.k->(∀ v n',P v n'->J v m (n'++rest))->dC c m rest Rs E->∀ s,ay c s m (n++rest)->
  codeAny MP c.A (.call (.ref f) as) (fun r s'=>match r with| .ok (.ret v)=>bE (fun m' n'=>ay c s' m' n') (fun m' n'=>J v m' n')| .ok _=>False| .error e=>E e s') s
abbrev bF(k:Nat)(f:Addr)(args:Yb)(n:X6)(P:Value->X6->Prop)(Rs:Str->X6->Prop):Prop:=eE k f ⟨args,[]⟩ n P Rs
theorem bF.to(h:bF k f args n P Rs):Cd k f args n P Rs:=fun c E m rest J hk hJ hR=> .mk fun s l=>OK (h c E m rest J hk hJ hR s l)
def jF(Rs:Str->X6->Prop)(c:Fx)(E:X8):Prop:=
 ∀ {m:X7} (rest RsI),(∀ PQ Vl,RsI PQ Vl->aO (fun Yr=>Rs PQ Yr) (fun Yr=>∀ q∈Yr,q∈Vl∨q∈rest))->dC c m rest RsI E
def cw:Flow->Value| .ret v=>v|_=> .none
theorem Hh{c c':Fx}{m m':X7}{n n' rest:X6}{J:ad Value}{s s':Shared}{P:Value->X6->Prop}{R:Result->Shared->Prop}{v:Value}(l:ay c s m (n++rest))(hJ:∀ v n',P v n'->J v m (n'++rest))
  (QL:∀ p∈rest,p∈n++rest/\∀ q∈n,q.1≠p.1) (RC:∀ p∈rest,c'.h₀.get? p.1=some p.2/\p.1≠c.L) (l':ay c' s' m' n') (q:aO (fun PS=>PS.Sublist n') (fun PS=>P v PS)) (hO:c'.os=c.os) (hk:c.k≠0)
  (hR:∀ v m' n',ay c s' m' n'->J v m' n'->R (.ok (.ret v)) s'):
  LeaveK c.h₀ c.L m c'.h₀ (fun r s'=>mi (n++rest) n s'.heap->R r s') v s':=by
 obtain⟨PS,hs,hp⟩:=q;have l2:=l'.sub hs;refine leaveK_ l2.F l2.N fun F2 N2 kept=>?_;refine hR _ m (PS++rest) (l.to F2 (ph l.N kept N2 QL) (l2.D.append l.D.right fun p hp q hq e=>?_) ⟨l2.G.1,fun h=>absurd h hk⟩ ((l2.O.trans hO).trans l.O.symm)) (hJ _ _ hp);have h1:=(l2.N p hp).2.2;rw[e] at h1;rw[show c'.h₀.get? q.1=some q.2 from(RC q hq).1] at h1
 cases h1
theorem jF.mk{c c':Fx}{rest n:X6}{m:X7}{E:X8}{Rs:Str->X6->Prop}(hR:dC c m rest Rs E)(B':Below c.A c.base (c.env::c.outer) c'.h₀)(FG:Fr c.h₀ c.L c'.h₀ m)(RC:∀ p∈rest,c'.h₀.get? p.1=some p.2/\p.1≠c.L)
  (RA:∀ PQ Yr,Rs PQ Yr->∀ q∈Yr,q.1∈n.map (·.1)) (hn:∀ p∈n,c'.h₀.get? p.1=none) (hO:c'.os=c.os:=by rfl) (hB:c'.base=c.base:=by rfl) (ho:c'.outer=c.env::c.outer:=by rfl):
  jF Rs c' (fun e s'=>wpAny MP (c.A.deeper c'.env) (leaving c'.env e) (fun _ Qj=>E e Qj) (fun e' Qj=>E e' Qj) s'):=by
 intro m2 rest' RsI hI PQ Vl hw e t h' TD Qg d' TY tw F2 hr2 R2 U2 Ue;rw[hB,ho] at R2;obtain⟨Yr,Vo,hc2⟩:=hI PQ Vl hw;refine o6 (Yr:=Yr) B' rfl F2 R2 U2 (fun q hq=>?_) (fun q hq=>?_) fun Sh R3 U3=>?_
 ·rcases hc2 q hq with h|h
  ·exact .inl h
  ·exact .inr (hr2 q h)
 ·obtain⟨p,hp,e⟩:=KK.mp (RA PQ Yr Vo q hq)
  exact ae e (hn p hp)
 ·exact aa hO (hR PQ Yr Vo e t Sh c'.h₀ Qg d' TY tw FG RC R3 U3 Ue)
theorem GG{k:Nat}{f:Addr}{as:Args}{n:X6}{P:Value->X6->Prop}{Rs:Str->X6->Prop}
  {name qual:Str} {params:Arguments} {body:Yd} {scope:Scope} {dV kV doc pm PX ct oc:Value} {an od:Option Addr} {RN:Array (Option Value)} {binds:List (Str×Value)}
  (ho:(ao w.params).lookup f=some ⟨oc,od, .func (fnOf name qual params body scope dV kV doc pm an PX ct),RN⟩) (Q1:codeIn (ao w.params) PX qual=true)
  (Qx:∀ s:Shared,(ao w.params).In s.heap->BindsTo s (fnOf name qual params body scope dV kV doc pm an PX ct) as binds) (RB:∀ y∈binds,scope.names.lookup y.1=some .local)
  (Q2:scope.isCoroutine=false) (QX:scope.isGenerator=false) (hk:scope.kind=.function) (P8:∀ x∈scope.names,x.2≠ .cell)
  (RA:∀ PQ Yr,Rs PQ Yr->∀ q∈Yr,q.1∈n.map (·.1))
  (hb:∀ A₀ base dp un gd L outer h₀ os g₀,let c:Fx:=⟨A₀,base,k,dp,un,gd,qual,scope,L,f,PX,[],outer,h₀,os,g₀⟩;∀ E (K:ad Flow),jF Rs c E->(∀ fl m n' PS,PS.Sublist n'->P (cw fl) PS->K fl m n')->
   Tr c E (fun y=>binds.reverse.lookup y) n (execs body c.env) K):
  eE (k+1) f as n P Rs:=by
 intro c E m rest J QB hJ hR s l;obtain⟨Qv,mg,mb,T⟩:=l.T;have hd:=l.hd;have hu:=l.hu;refine iC l.B l.F l.X l.N T rfl rfl l.hk (fun p hp=>KA rest hp) ho Q1 (by show c.dp<recursionLimit;exact iS hd) (Qx s (l.X.keeps l.F.keep)) RB ?_ Q2 QX hk P8;intro g L' h₁ FG F' N' B' X' T' PW hg;have QL:∀ p∈rest,p∈n++rest/\∀ q∈n,q.1≠p.1:=fun p hp=>⟨KB _ hp,fun q hq=>l.D.apart q hq p hp⟩;have RC:∀ p∈rest,g.get? p.1=some p.2/\p.1≠c.L:=fun p hp=>⟨hg p (QL p hp).1 (QL p hp).2,(l.N p (QL p hp).1).2.1⟩;have l0:ay (⟨c.A,c.base,k,c.dp+1,c.un+3,c.gd,qual,scope,L',f,PX,[],c.env::c.outer,g,c.os,s.gens⟩:Fx) {s with heap:=h₁,toks:=s.toks+binds.length} (fun y=>binds.reverse.lookup y) n:=
  ⟨B',X',⟨_,_,_,T'⟩,hk,tZ QB hd,vw QB hu,F',N',l.D.left,⟨l.G.1,fun _=>rfl⟩,l.O⟩
 refine K9 (hb c.A c.base (c.dp+1) (c.un+3) c.gd L' (c.env::c.outer) g c.os s.gens _ (fun fl _ n'=>aO (fun PS=>PS.Sublist n') (fun PS=>P (cw fl) PS)) ?_ (fun _ _ _ PS a b=>⟨PS,a,b⟩) _ l0) ?_ fun _ _ e=>e
 ·exact @jF.mk _ _ _ _ _ _ _ hR B' FG RC RA (fun p hp=>(N' p hp).2.2) rfl rfl rfl
 ·rintro fl s' ⟨m',n',l',q⟩
  cases fl<;>exact Hh l hJ QL RC l' q rfl (pH QB) fun v m' n' a b=>⟨m',n',a,b⟩
theorem Iz{k:Nat}{f:Addr}{as:Args}{n:X6}{P:Value->X6->Prop}{Rs:Str->X6->Prop}
  {name qual:Str} {params:Arguments} {body:Yd} {scope:Scope} {dV kV doc pm PX ct oc:Value} {an od:Option Addr} {RN:Array (Option Value)} {binds:List (Str×Value)}
  (ho:(ao w.params).lookup f=some ⟨oc,od, .func (fnOf name qual params body scope dV kV doc pm an PX ct),RN⟩) (Q1:codeIn (ao w.params) PX qual=true)
  (Qx:∀ s:Shared,(ao w.params).In s.heap->BindsTo s (fnOf name qual params body scope dV kV doc pm an PX ct) as binds) (P6:(binds.all fun y=>scope.names.lookup y.1==some .local||scope.names.lookup y.1==some .cell)=true) (RS:((cellsFrom 0 scope.names []).map (·.1)).Nodup)
  (Q2:scope.isCoroutine=false) (QX:scope.isGenerator=false) (hk:scope.kind=.function)
  (Sj:∀ L cells,CellsAre (bindC (envOfC qual scope L f PX).kindOf binds fun _=>none) (cellsFrom (L+1) scope.names []) cells->ax cells/\∀ p∈cells,L<p.1)
  (RA:∀ PQ Yr,Rs PQ Yr->∀ q∈Yr,q.1∈n.map (·.1))
  (hb:∀ A₀ base dp un gd L outer h₀ os g₀,let c:Fx:=⟨A₀,base,k,dp,un,gd,qual,scope,L,f,PX,cellsFrom (L+1) scope.names [],outer,h₀,os,g₀⟩;∀ E (K:ad Flow) cells,jF Rs c E->(∀ fl m n' PS,PS.Sublist n'->P (cw fl) PS->K fl m n')->CellsAre (bindC (envOfC qual scope L f PX).kindOf binds fun _=>none) (cellsFrom (L+1) scope.names []) cells->
   Tr c E (bindL (envOfC qual scope L f PX).kindOf binds fun _=>none) (cells++n) (execs body c.env) K):
  eE (k+1) f as n P Rs:=by
 intro c E m rest J QB hJ hR s l;obtain⟨Qv,mg,mb,T⟩:=l.T;have hd:=l.hd;have hu:=l.hu;refine kD l.B l.F l.X l.N T rfl rfl l.hk (fun p hp=>KA rest hp) ho Q1 (by show c.dp<recursionLimit;exact iS hd) (Qx s (l.X.keeps l.F.keep)) P6 RS ?_ Q2 QX hk;intro g L' h₁ Tx cells FG F' N' Y' B' X' T' PW hg hn;have QL:∀ p∈rest,p∈n++rest/\∀ q∈n,q.1≠p.1:=fun p hp=>⟨KB _ hp,fun q hq=>l.D.apart q hq p hp⟩;have RC:∀ p∈rest,g.get? p.1=some p.2/\p.1≠c.L:=fun p hp=>⟨hg p (QL p hp).1 (QL p hp).2,(l.N p (QL p hp).1).2.1⟩;have l0:ay (⟨c.A,c.base,k,c.dp+1,c.un+3,c.gd,qual,scope,L',f,PX,cellsFrom (L'+1) scope.names [],c.env::c.outer,g,c.os,s.gens⟩:Fx) {s with heap:=h₁,toks:=Tx} (bindL (envOfC qual scope L' f PX).kindOf binds fun _=>none) (cells++n):=
  ⟨B',X',⟨_,_,_,T'⟩,hk,tZ QB hd,vw QB hu,F',N',(Sj L' cells Y').1.append l.D.left fun p hp q hq e=>absurd (PW q (KA _ hq)) (e▸MZ.mpr (LF ((Sj L' cells Y').2 p hp))),⟨l.G.1,fun _=>rfl⟩,l.O⟩
 refine K9 (hb c.A c.base (c.dp+1) (c.un+3) c.gd L' (c.env::c.outer) g c.os s.gens _ (fun fl _ n'=>aO (fun PS=>PS.Sublist n') (fun PS=>P (cw fl) PS)) cells ?_ (fun _ _ _ PS a b=>⟨PS,a,b⟩) Y' _ l0) ?_ fun _ _ e=>e
 ·exact @jF.mk _ _ _ _ _ _ _ hR B' FG RC RA hn rfl rfl rfl
 ·rintro fl s' ⟨m',n',l',q⟩
  cases fl<;>exact Hh l hJ QL RC l' q rfl (pH QB) fun v m' n' a b=>⟨m',n',a,b⟩
section
variable{c:Fx}{E:X8}{m:X7}{n pre post:X6}{J:ad Value}{K:ad Flow}{U:ad Unit}{env:Env}{r:Yd}
theorem Hy(o:dR y es v)(hx:∀ J:ad Value,J (.ref W) m n->Tr c E m n (eval oe env) J)(h1:(W,instObj 150 D)∈n)(h2:(D,dictOf es k)∈n)(h:J v m n)
  (he:eval (.Attribute oe y p) env=(do
   let v←eval oe env
   standAt p.atName
   let z←holding [v] (getAttr v y true)
   letTemporaryGo oe v z
   Pure.pure z):=by with_unfolding_all rfl):Tr c E m n (eval (.Attribute oe y p) env) J:=
 H0 (hx _<| .mk fun _ l=>let ⟨_,a,b⟩:=o.ha;get_own l.F l.X (MX l.N h1 h2) o.hg o.hh a b o.hl o.hv ⟨m,n,l.tok,h⟩) he
structure xx(name:Str)(es:List DictEntry)(f:Addr):Prop where
 hg:plainGet (ao w.params) 150 name=true
 hh:hasDictIn (ao w.params) 150=true
 ha:findIn (ao w.params) (.ref 150) name=some (some (.ref f))
 hf:isFn (ao w.params) (.ref f)=true
 hgf:specialIn (ao w.params) (.ref f) "__get__"=some (some (.builtin "function.__get__"))
 ht:takesIn (ao w.params) (.ref f)=some false
 hc:copiedNames.contains name=false
 hl:getL name es=some none
theorem JQ(o:xx y es f)(hx:∀ J:ad Value,J (.ref W) m n->Tr c E m n (eval oe env) J)(h1:(W,instObj 150 D)∈n)(h2:(D,dictOf es k)∈n)(h:∀ q:Nat,J (.ref q) m ((q,methodObj (.ref f) (.ref W))::n))
  (he:eval (.Attribute oe y p) env=(do
   let v←eval oe env
   standAt p.atName
   let z←holding [v] (getAttr v y true)
   letTemporaryGo oe v z
   Pure.pure z):=by with_unfolding_all rfl):Tr c E m n (eval (.Attribute oe y p) env) J:=
 H0 (hx _<| .mk fun _ l=>kbm_bound l.F l.X l.N (MX l.N h1 h2) o.hg o.hh o.ha o.hf o.hgf o.ht o.hc o.hl fun q _ F' N' lt=>⟨m,_,l.to F' N' (l.D.fresh lt) l.G rfl,h q⟩) he
theorem Hg(hc:c.cl.lookup x=some a)(hn:n=pre++(a,o)::post)(hd:o.data=.cell X5)(h:∀ o',o'.data=.cell (some v)->U () m (pre++(a,o')::post))(hx:c.env.kindOf x=some .cell):Tr c E m n (storeName c.env x v) U:= .mk fun _ l=>
 storeX_C l.F l.N hc (e9 pre hn l.D) hd (fun _ o' F' N' d'=>⟨_,_,l.to F' N' (hn▸l.D).set l.G rfl,h o' d'⟩) l.hk hx
theorem G8(h:Tr c E m n (eval e c.env) (kT c E (storeName c.env x) (kS c E r c.env K)))(hs:swapsWith e (some (.Name x p')) p.line c.env=Pure.pure false:=by rfl):
  Tr c E m n (execs (.Assign [.Name x p'] e p::r) c.env) K:= .mk fun s l=>
 Lr (Pe (am (h s l) fun _ s' _ _ l' q=>am (q s' l') fun _ s' _ _ l' q=>q s' l') hs)
theorem Id(h:Tr c E m n (eval e env) fun v m n=>Tr c E m n (assign XM env v) (kT c E (fun _=>assign XE env v) (kS c E r env K)))
  (he:(assignEach [XM,XE] env).map (·.2)=[assign XM env,assign XE env]:=by rfl) (hw:swappedStores [XM,XE] e env=Pure.pure none:=by rfl):Tr c E m n (execs (.Assign [XM,XE] e p::r) env) K:= .mk fun s l=>
 Lr (wpAny_Assign_two (am (h s l) fun _ s' _ _ l' q=>am (q s' l') fun _ s' _ _ l' q=>am (q s' l') fun _ s' _ _ l' q=>q s' l') he hw)
theorem Go(h:U () (fun y=>if y=x then some v else m y) n)(hx:c.env.kindOf x=some .local:=by rfl):Tr c E m n (assign (.Name x p) c.env v) U:= .mk fun s l=>Oq (JK h hx s l)
theorem Ix(h:Tr c E m n (eval o env) (kE c E i env (fun x y=>setItem x y v) U)):Tr c E m n (assign (.Subscript o i p) env v) U:= .mk fun s l=>by
 refine aa (assign_Subscript _ _ _ _) ?_;refine Kz (Lk (am (h s l) fun _ s' _ _ l' q=>Kz (Lk (am (q s' l') fun _ s' _ _ l' q=>Kz (LG (Kz (Lk (up (q s' l') fun _ s' q=>wpAny_release q))))))))
theorem Iw(hn:n=pre++(d,ob)::post)(hd:ob.IsDictOf (PySem.strKind PR w) PP)(hz:PP.length<=1000)(h:∀ Tv,Tv.IsDictOf (PySem.strKind PR w) (PySem.stored PP x v)->U () m (pre++(d,Tv)::post)):Tr c E m n (setItem (.ref d) (.str x t) v) U:= .mk fun _ l=>
 kda_set l.F l.N (e9 pre hn l.D) hd (NH _ _ _ _) (by refine aa Lh ?_;exact bd hz) fun _ o' F' N' d'=>⟨_,_,l.to F' N' (hn▸l.D).set l.G rfl,h o' d'⟩
theorem IG(h:∀ (d:Nat) ob,ob.IsDictOf (PySem.strKind PR w) []->(d==sysModules)=false->J (.ref d) m ((d,ob)::n)):Tr c E m n (eval (.Dict [] [] p) env) J:= .mk fun _ l=>
 let ⟨_,_,_,t⟩:=l.T;newDict_K (h₀:=c.h₀) l.F l.N t.nolimit fun _ _ o F' N' lt lo hd _ _ _=>⟨m,_,l.to F' N' (l.D.fresh lt) l.G rfl,h _ o hd lo⟩
theorem Jp(hm:(d,ob)∈n)(hd:ob.IsDictOf (PySem.strKind PR w) PP)(lo:(d==sysModules)=false)(hz:PP.length<=1000)(h:B (!PP.isEmpty) m n):Tr c E m n (truthy (.ref d)) B:= .mk fun _ l=>
 wpAny_truthy_dict lo (kda_dict l.N hm hd) (xQ hz) ⟨m,n,l.tok,h⟩
theorem Ki{pl:Sem Bool}{d:Addr}{ob:Obj}{PP:List (Str×Value)}{K:ad (Value×Yb)}(hm:(d,ob)∈n)(hd:ob.IsDictOf (PySem.strKind PR w) PP)(h:K (.builtin "dict.get",[.ref d]) m n):Tr c E m n (getMethod (.ref d) "get" pl) K:= .mk fun _ l=>
 kdg_method l.N hm hd ⟨m,n,l,h⟩
theorem Ke(hm:(d,ob)∈n)(hd:ob.IsDictOf (PySem.strKind PR w) PP)(lo:(d==sysModules)=false)(h:J ((valueAt PP x).getD .none) m n):Tr c E m n (call (.builtin "dict.get") [.ref d, .str x t]) J:= .mk fun _ l=>
 kdg_get1 l.N hm hd lo (NH _ _ _ _) _ rfl ⟨m,n,l.tok,h⟩
theorem Gv(h:Tr c E m n (eval e env) (kE c E oe env (fun v x=>setAttr x y v) (kS c E r env K)))(hs:swapsWith e (some (.Attribute oe y p')) p.line env=Pure.pure false:=by rfl):
  Tr c E m n (execs (.Assign [.Attribute oe y p'] e p::r) env) K:= .mk fun s l=>
 Lr (plainObj_wpAny_Assign_Attribute (am (h s l) fun _ s' _ _ l' q=>am (q s' l') fun _ s' _ _ l' q=>am (q s' l') fun _ s' _ _ l' q=>q s' l') hs)
structure rI(name:Str)(es:List DictEntry):Prop where
 hs:findIn (ao w.params) (.ref 150) "__setattr__"=some (some (.builtin "object.__setattr__"))
 hp:plainOver (ao w.params) 150=true
 ht:takerIn (ao w.params) 150 name=some none
 hh:hasDictIn (ao w.params) 150=true
 hl:(getL name es).isSome=true
theorem Gl{y:Str}{W D:Nat}{es:List DictEntry}{es':Tok->List DictEntry}{k k':Nat}{v:Value}(o:rI y es)(h1:(W,instObj 150 D)∈n)(hn:n=pre++(D,dictOf es k)::post)(e:∀ t,∃ t',(putL y (PyData.keyHash w.params y) (.str y t) v es,putN y es k)=(es' t',k'))(hz:∀ t,(es' t).length<=1000)
  (h:∀ t,U () m (pre++(D,dictOf (es' t) k')::post)):Tr c E m n (PySem.setAttr (.ref W) y v) U:= .mk fun s l=>by
 obtain⟨t',e'⟩:=e (s.toks+1);exact set_dict l.F l.X l.N (MX l.N h1 (hn▸KB _ (.head _))) rfl o.hs o.hp o.ht o.hh o.hl e' (pW pre hn l.D) (hz t') fun _ F' N'=>⟨_,_,l.to F' N' (hn▸l.D).set l.G rfl,h t'⟩
theorem Jh(hc:kdsCode (ao w.params) env.code=true)(he:starEach [e1, .Starred e2 p2] env=[(false,eval e1 env),(true,eval e2 env)])
  (h:∀ (D:Nat) ob,bb (PySem.strKind PR w) ob []->Tr c E m ((D,ob)::n) (eval e1 env) fun v m n=>Tr c E m n (setAdd D v) fun _ m n=>Tr c E m n (eval e2 env) fun x m n=>Tr c E m n (setDisplayStar D x) fun _ m n=>J (.ref D) m n):Tr c E m n (eval (.Set [e1, .Starred e2 p2] 0 p) env) J:= .mk fun _ l=>
 xa (Kf:=ao w.params) (knd:=PySem.strKind PR w) l.F l.N l.X hc he fun D _ ob hS F' N' lt=>am (h D ob hS _ (l.to F' N' (l.D.fresh lt) l.G rfl)) fun _ s' _ _ l' q=>am (q s' l') fun _ s' _ _ l' q=>am (q s' l') fun _ s' _ _ l' q=>q s' l'
theorem JI(hn:n=pre++(D,ob)::post)(hS:bb (PySem.strKind PR w) ob PP)(hz:PP.length<=2)(Rm:x∉PP.map (·.1))(h:∀ Tv,bb (PySem.strKind PR w) Tv (PP++[(x, .str x t)])->B true m (pre++(D,Tv)::post)):Tr c E m n (PySem.setAdd D (.str x t)) B:= .mk fun _ l=>
 xF l.F l.N (e9 pre hn l.D) hS (by unfold scanBound;exact L1 [_] (.a (.a V0 W1) W1) (.n 4096) 1 V0 (.n 2) rfl hz) (NH _ _ _ _) rfl Rm fun _ o' F' N' d'=>⟨_,_,l.to F' N' (hn▸l.D).set l.G rfl,h o' d'⟩
theorem J3(hm:(D,ob)∈n)(hS:bb (PySem.strKind PR w) ob PP)(h1:PP.length<=1)(hd:(d,dictOf [] k)∈n)(Rn:(d==sysModules)=false)(h:U () m n):Tr c E m n (setDisplayStar D (.ref d)) U:= .mk fun _ l=>
 sw rfl (l.N _ hm).1 hS h1 (l.N _ hd).1 Rn fun _ _ hk=>⟨m,n,l.to ⟨l.F.ns.at' fun o e=>hk _ o e,fun b o e=>hk b o (l.F.keep b o e),l.F.above⟩ (fun p hp=>⟨hk _ _ (l.N p hp).1,(l.N p hp).2⟩) l.D l.G rfl,h⟩
theorem J5(hn:n=pre++(D,ob)::post)(hS:bb (PySem.strKind PR w) ob PP)(hz:PP.length<=2)(Rm:x∉PP.map (·.1))(h:∀ Tv,bb (PySem.strKind PR w) Tv (PP++[(x, .str x t)])->J .none m (pre++(D,Tv)::post)):Tr c E m n (call (.builtin "set.add") [.ref D, .str x t]) J:= .mk fun s l=>by
 have hm:=l.N (D,ob) (hn▸KB _ (.head _));have hex:=hS.1;refine LS PySem.F.slot_set_add ⟨_,hm.1,hex.1⟩ PySem.F.entry_set_add ?_ (PySem.F.args_set_add_2 _ _);unfold Builtin.«set.add» Builtin.Frozenset.oneOther;simp only[List.isEmpty_nil,bind_assoc];unfold Builtin.Frozenset.addrOf;refine Kz (KE ?_)
 try dsimp only
 refine Kz (KE ?_)
 try dsimp only
 refine Kz (xF l.F l.N (e9 pre hn l.D) hS (by unfold scanBound;exact L1 [_] (.a (.a V0 W1) W1) (.n 4096) 1 V0 (.n 2) rfl hz) (NH _ _ _ _) rfl Rm fun _ o' F' N' d'=>?_);exact KE ⟨_,rfl,_,_,l.to F' N' (hn▸l.D).set l.G rfl,h o' d'⟩
theorem Kh{pl:Sem Bool}{D:Addr}{ob:Obj}{PP:List (Str×Value)}{K:ad (Value×Yb)}(hm:(D,ob)∈n)(hS:bb (PySem.strKind PR w) ob PP)(h:K (.builtin "set.add",[.ref D]) m n):Tr c E m n (getMethod (.ref D) "add" pl) K:= .mk fun _ l=>by
 obtain⟨hex,_⟩:=hS;exact Pd ⟨_,(l.N _ hm).1,hex.1⟩ PySem.F.plainAttrs_set PySem.F.slot_set_add PySem.F.type_set_add (fun b e=>by cases e;exact⟨_,(l.N _ hm).1,hex.2.1⟩) ⟨m,n,l,h⟩
theorem Ia(h:J (.bool true) m n):Tr c E m n (compareOp .IsNot (.str x t) .none) J:=Hl (by exact h)
theorem Hc(h:J (.bool false) m n):Tr c E m n (compareOp .IsNot .none .none) J:=Hl (by exact h)
end
section
variable(a:aF)(t:Nat->Tok)(Yi:Value)(seen done:Bool)
theorem fT:dR "_data" (aE a t Yi seen done) (.ref a.data):=⟨by k_is,by k_is,⟨_,by k_is,by k_is⟩,by k_get,by k_handed⟩
theorem iO:dR "_write" (aE a t Yi seen done) (.ref a.Yv):=⟨by k_is,by k_is,⟨_,by k_is,by k_is⟩,by k_get,by k_handed⟩
theorem uX:dR "_strip_text" (aE a t Yi seen done) (.bool false):=⟨by k_is,by k_is,⟨_,by k_is,by k_is⟩,by k_get,by k_handed⟩
theorem si:dR "_exclude_attrs" (aE a t Yi seen done) .none:=⟨by k_is,by k_is,⟨_,by k_is,by k_is⟩,by k_get,by k_handed⟩
theorem nz:dR "_exclude_tags" (aE a t Yi seen done) .none:=⟨by k_is,by k_is,⟨_,by k_is,by k_is⟩,by k_get,by k_handed⟩
theorem ic:dR "_qname_aware_tags" (aE a t Yi seen done) (.ref a.Yw):=⟨by k_is,by k_is,⟨_,by k_is,by k_is⟩,by k_get,by k_handed⟩
theorem wQ:dR "_find_qname_aware_attrs" (aE a t Yi seen done) .none:=⟨by k_is,by k_is,⟨_,by k_is,by k_is⟩,by k_get,by k_handed⟩
theorem fU:dR "_declared_ns_stack" (aE a t Yi seen done) (.ref a.decl):=⟨by k_is,by k_is,⟨_,by k_is,by k_is⟩,by k_get,by k_handed⟩
theorem lC:dR "_ns_stack" (aE a t Yi seen done) (.ref a.ns):=⟨by k_is,by k_is,⟨_,by k_is,by k_is⟩,by k_get,by k_handed⟩
theorem ib:dR "_preserve_space" (aE a t Yi seen done) (.ref a.Yp):=⟨by k_is,by k_is,⟨_,by k_is,by k_is⟩,by k_get,by k_handed⟩
theorem pv(h:handedIn Yi=true):dR "_pending_start" (aE a t Yi seen done) Yi:=⟨by k_is,by k_is,⟨_,by k_is,by k_is⟩,by k_get,h⟩
theorem pw:dR "_root_seen" (aE a t Yi seen done) (.bool seen):=⟨by k_is,by k_is,⟨_,by k_is,by k_is⟩,by k_get,by k_handed⟩
theorem wP:dR "_root_done" (aE a t Yi seen done) (.bool done):=⟨by k_is,by k_is,⟨_,by k_is,by k_is⟩,by k_get,by k_handed⟩
theorem mA:dR "_ignored_depth" (aE a t Yi seen done) (.int 0 (t 17)):=⟨by k_is,by k_is,⟨_,by k_is,by k_is⟩,by k_get,by k_handed⟩
theorem nj:iA "_qname" (aE a t Yi seen done) 90:=⟨by k_is,by k_is,by k_is,by k_is,by k_get⟩
theorem jx:iA "_resolve_prefix_name" (aE a t Yi seen done) 82:=⟨by k_is,by k_is,by k_is,by k_is,by k_get⟩
theorem ni:iA "_flush" (aE a t Yi seen done) 106:=⟨by k_is,by k_is,by k_is,by k_is,by k_get⟩
theorem nq:iA "_start" (aE a t Yi seen done) 126:=⟨by k_is,by k_is,by k_is,by k_is,by k_get⟩
theorem g9:iA "data" (aE a t Yi seen done) 97:=⟨by k_is,by k_is,by k_is,by k_is,by k_get⟩
theorem ln:iA "start" (aE a t Yi seen done) 120:=⟨by k_is,by k_is,by k_is,by k_is,by k_get⟩
theorem jy:iA "start_ns" (aE a t Yi seen done) 113:=⟨by k_is,by k_is,by k_is,by k_is,by k_get⟩
theorem fE:iA "end" (aE a t Yi seen done) 133:=⟨by k_is,by k_is,by k_is,by k_is,by k_get⟩
theorem uL:xx "_qname" (aE a t Yi seen done) 90:=⟨by k_is,by k_is,by k_is,by k_is,by k_is,by k_is,by decide+kernel,by k_get⟩
theorem uM:xx "_start" (aE a t Yi seen done) 126:=⟨by k_is,by k_is,by k_is,by k_is,by k_is,by k_is,by decide+kernel,by k_get⟩
theorem vm:rI "_root_seen" (aE a t Yi seen done):=⟨by k_is,by k_is,by k_is,by k_is,by refine aa ((pw a t Yi seen done).hl) ?_;rfl⟩
theorem vl:rI "_root_done" (aE a t Yi seen done):=⟨by k_is,by k_is,by k_is,by k_is,by refine aa ((wP a t Yi seen done).hl) ?_;rfl⟩
theorem nD(h:handedIn Yi=true):rI "_pending_start" (aE a t Yi seen done):=⟨by k_is,by k_is,by k_is,by k_is,by refine aa ((pv a t Yi seen done h).hl) ?_;rfl⟩
end
section
variable{c:Fx}{E:X8}{m:X7}{n pre post:X6}{J:ad Value}{K:ad Flow}{U:ad Unit}{env:Env}{r:Yd}
theorem HT(hm:(t,bm x y k)∈n)(h:Tr c E m n (assign a env x) (kT c E (fun _=>assign b env y) U))
  (he:assignEach [a,b] env=[(false,assign a env),(false,assign b env)]:=by rfl):Tr c E m n (assign (.Tuple [a,b] kk p) env (.ref t)) U:= .mk fun s l=>
 unpackN_ l.F l.N (l.N.isTup hm) rfl (by refine aa he ?_;rfl) (by refine aa he ?_;rfl) fun h' F' N'=>by
  exact aa he (MU (am (h _ (l.to F' N' l.D l.G rfl)) fun _ s1 _ _ l1 q=>MU (up (q s1 l1) fun _ s2 q=>assignInOrder_nil q)))
theorem Gh(hm:(C,oC)∈n)(xC:bw oC mC)(hv:mC x=some v)(h:J v m n)(hC:Yl.locals=C:=by rfl)(hk:Yl.scope.kind=.function:=by rfl)(hx:Yl.kindOf x=some .local:=by rfl)(hd:(x==("__debug__":Str))=false:=by decide):
  Tr c E m n (eval (.Name x p) Yl) J:= .mk fun _ l=>yf l.N hm xC hC hk hx hv ⟨m,n,l,h⟩ hd
theorem GB(hn:n=pre++(C,oC)::post)(xC:bw oC mC)(h:∀ Qq,bw Qq (fun y=>if y=x then some v else mC y)->U () m (pre++(C,Qq)::post))(hC:Yl.locals=C:=by rfl)(hx:Yl.kindOf x=some .local:=by rfl)
  (hp:(Yl.scope.kind== .class||(Yl.scope.kind== .module&&Yl.locals !=Yl.globals))=false:=by rfl):Tr c E m n (assign (.Name x p) Yl v) U:= .mk fun _ l=>
 tR l.F l.N (e9 pre hn l.D) xC hC hx (fun _ Qq F' N' x'=>⟨_,_,l.to F' N' (hn▸l.D).set l.G rfl,h Qq x'⟩) hp
theorem H9(e:nsIn (ao w.params) mainGlobals x=some (some v))(h:J v m n)(hg:Yl.globals=mainGlobals:=by rfl)(hk:Yl.scope.kind=.function:=by rfl)(hx:Yl.kindOf x=some .globalImplicit:=by rfl)(hd:(x==("__debug__":Str))=false:=by decide):
  Tr c E m n (eval (.Name x p) Yl) J:= .mk fun _ l=>let ⟨_,_,_,t⟩:=l.T;nameG_K l.F l.X (topRead_of t) e ⟨m,n,l,h⟩ hg hk hx hd
theorem oU(h:aZ l u=none):u∉l.map (·.1):=by
 unfold aZ at h;rw[Oo,NL] at h;intro hm;obtain⟨x,hx,rfl⟩:=KK.mp hm;exact h x hx (OG _)
theorem lI:∀ (l:List Str) (st:List UP×List UP),(st.1.map (·.1)).Nodup->((aH Yo st l).2.1.map (·.1)).Nodup
 |[],_,h=>h
 |u::l,(cur,pm),h=>by
  show ((aH Yo (aM Yo (cur,pm) u).2 l).2.1.map (·.1)).Nodup;refine lI l _ ?_;have add:∀ x:Str,aZ (cur++Yo) u=none->((cur++[(u,x)]:List UP).map (fun y:UP=>y.1)).Nodup:=fun x e=>by
   have:=oU e;rw[KP,KM,not_or] at this
   (refine aa KP ?_;rw[Nq])
   refine⟨h,Ly.mpr ⟨LH,MF⟩,fun a ha b hb=>?_⟩;refine aa (KF.mp hb) ?_;rintro rfl;exact this.1 ha
  unfold aM;dsimp only
  split
  ·exact h
  ·split
   ·exact add _ (by assumption)
   ·exact add _ (by assumption)
abbrev aV(x:UP):Str×Str:=(Ye "xmlns:"++x.2,x.1)
def aY:List UP->List (Str×Str)
 |[x,y]=>if (aV y).1.cps.toList<(aV x).1.cps.toList then[aV y,aV x] else[aV x,aV y]
 |l=>l.map aV
inductive sX(g:X6):Value->Str×Str->Prop
 |mk (A:Nat) (a:Str×Str) (t u:Tok):(A,bm (.str a.1 t) (.str a.2 u) 0)∈g->sX g (.ref A) a
abbrev bV(g:X6):Yb->List (Str×Str)->Prop:=eC (sX g)
theorem bV.mono(h:∀ p∈g,p∈g')(x:bV g vs as):bV g' vs as:=eC.mono (fun _ _ ⟨A,a,t,u,m⟩=> .mk A a t u (h _ m)) x
theorem bV.snoc(hm:(A,bm (.str a.1 t) (.str a.2 u) 0)∈g)(x:bV g vs as):bV g (vs++[.ref A]) (as++[a]):=eC.snoc (.mk A a t u hm) x
variable{B:ad Bool}
theorem HF(h0:0<x.length)(hx:x.length<=16777216)(h:B true m n):Tr c E m n (truthy (.str x t)) B:=JP hx (by
 have e:((x.length:Int) !=0)=true:=by simp;exact AM h0
 refine aa e ?_;exact h)
theorem J0(hn:n=pre++(a,listOf #[v] k)::post)(h:∀ k',J .none m (pre++(a,listOf #[v] k')::post)):Tr c E m n (call (.builtin "list.sort") [.ref a]) J:= .mk fun _ l=>
 pN l.F l.N (e9 pre hn l.D) fun _ k' F' N'=>⟨_,_,l.to F' N' (hn▸l.D).set l.G rfl,h k'⟩
theorem J1{a:Addr}{x y:Nat}{p1 q1 p2 q2:Str}{t1 u1 t2 u2:Tok}{k n1 n2:Nat}(hn:n=pre++(a,listOf #[.ref x, .ref y] k)::post)(hx:(x,bm (.str p1 t1) (.str q1 u1) n1)∈pre++post)(hy:(y,bm (.str p2 t2) (.str q2 u2) n2)∈pre++post)(P5:p1≠p2)
  (h:∀ k',J .none m (pre++(a,listOf (bT (decide (p2.cps.toList<p1.cps.toList)) (.ref x) (.ref y)) k')::post)):Tr c E m n (call (.builtin "list.sort") [.ref a]) J:= .mk fun _ l=>by
 subst hn;have hd:ax ((a,listOf #[.ref x, .ref y] k)::(pre++post)):=l.D.perm Lf;exact xc l.F l.N (fun p hp=>hd.ne hp) hx hy P5 fun _ k' F' N'=>⟨_,_,l.to F' N' l.D.set l.G rfl,h k'⟩
theorem G6(h:∀ t,J (.int (-i) t) m n):Tr c E m n (eval (.UnaryOp .USub (.Constant (.int i) k p) p') env) J:= .mk fun _ l=>
 wpAny_UnaryOp (Nh (P.neg_int ⟨m,n,l.tok,h _⟩))
theorem HG(hv:m x=some (.ref q))(hq:(q,bf "list.append" (.ref D))∈n)(h:Tr c E m n (eval e c.env) fun v m n'=>(q,bf "list.append" (.ref D))∈n'/\Tr c E m n' (call (.ref q) [v]) J)
  (he:starEach [e] c.env=[(false,eval e c.env)]:=by rfl) (hx:c.env.kindOf x=some .local:=by rfl) (hd:(x==("__debug__":Str))=false:=by decide):Tr c E m n (eval (.Call (.Name x xp) [e] [] p) c.env) J:= .mk fun s l=>
 LC rfl (nameX_L l.F hv (jj l.N hq (Lo (am (h s l) fun _ s1 _ _ l1 ⟨Ut,q1⟩=>LA ⟨(l1.N _ Ut).1,q1 _ l1⟩) he) he) l.hk hx hd)
theorem Iq(hm:(D,listOf its k)∈n)(hi:StrsAre its.toList ys)(hsep:x.length<=16)(hw:(ys.map (·.length)).sum+ys.length<=1048576)(h:∀ t',J (.str (Txt.join x ys) t') m n):Tr c E m n (call (.builtin "str.join") [.str x t, .ref D]) J:= .mk fun _ l=>
 join_listW ⟨_,(l.N _ hm).1,rfl,k,rfl⟩ hi hsep hw fun _ _=>⟨m,n,l.tok,h _⟩
theorem HM{name:Str}{id:String}{pl:Sem Bool}{x:Str}{t:Tok}{K:ad (Value×Yb)}(slot:Slot "str" name id)(hty:typeOf (.builtin id)=Pure.pure (.type "method_descriptor"))(h:K (.builtin id,[.str x t]) m n):Tr c E m n (getMethod (.str x t) name pl) K:= .mk fun _ l=>
 Pd (typeIs_str _ _ _) Pi slot hty (fun a e=>by cases e) ⟨m,n,l,h⟩
theorem GE(hf:∀ J:ad Value,J (.ref f) m n->Tr c E m n (eval (.Name x xp) env) J)(hk:keepIn (ao w.params) (.ref f)=true)(h:Tr c E m n (eval e env) (kT c E (fun v=>call (.ref f) [v]) J))
  (he:starEach [e] env=[(false,eval e env)]:=by rfl):Tr c E m n (eval (.Call (.Name x xp) [e] [] p) env) J:= .mk fun s l=>
 LC rfl (am (hf (fun v m' n'=>v=.ref f/\m'=m/\n'=n) ⟨rfl,rfl,rfl⟩ s l) fun _ s' _ _ l' ⟨e1,e2,e3⟩=>by
  subst e1 e2 e3;exact callWith_K l'.X hk (Lo (am (h s' l') fun _ s1 _ _ l1 q=>LA ⟨l1.X.keeps l1.F.keep,q _ l1⟩) he) he)
theorem GQ(h:Tr c E m n (joinParts out (eval e env::evalEach es env)) J):Tr c E m n (joinParts out (evalEach (e::es) env)) J:= .mk fun s l=>PyProof.Rows.joinParts_consE (h s l)
theorem G0(h:Tr c E m n (joinParts out []) J):Tr c E m n (joinParts out (evalEach [] env)) J:= .mk fun s l=>PyProof.Rows.joinParts_nilE (h s l)
theorem HY(h:Tr c E m n (eval v env) (kT c E (fun y=>formatField y Str.empty) J)):Tr c E m n (eval (.FormattedValue v (-1) none p) env) J:= .mk fun s l=>
 FormattedValue_plain (am (h s l) fun _ s' _ _ l' q=>q s' l')
theorem HR(hz:x.length<=1000000)(h:∀ t',J (.str x t') m n):Tr c E m n (formatField (.str x t) Str.empty) J:= .mk fun _ l=>
 PyProof.Rows.formatField_str (fun _ _=>⟨m,n,l.tok,h _⟩) (by refine aa Lh ?_;exact bd hz)
theorem Hs(hq:(q,bf "list.append" (.ref D))∈n)(hn:n=pre++(D,lO vs k)::post)(hz:vs.length<=100000)(h:J .none m (pre++(D,lO (vs++[x]) (k+1))::post)):Tr c E m n (call (.ref q) [x]) J:=
 J4 hq hn (by refine aa Lw ?_;exact hz) (by refine aa (List.push_toArray _ _) ?_;exact h)
theorem Gs(hn:n=pre++(D,lO vs k)::post)(hz:vs.length<=100000)(h:J .none m (pre++(D,lO (vs++[x]) (k+1))::post)):Tr c E m n (call (.builtin "list.append") [.ref D,x]) J:=
 Jn hn (by refine aa Lw ?_;exact hz) (by refine aa (List.push_toArray _ _) ?_;exact h)
def fL(as:List (Str×Str)):Str:=Txt.join (Ye "") (as.map fun a=>Ye " "++a.1++Ye "=\""++a.2++Ye "\"")
theorem bV.get{g:X6}{vs:Yb}{as:List (Str×Str)}{j:Nat}{v:Value}(x:bV g vs as)(h:vs[j]?=some v):vL (fun(a:Str×Str) (A:Nat) (t u:Tok)=>as[j]?=some a) (fun _ A _ _=>v=.ref A) (fun a A t u=>(A,bm (.str a.1 t) (.str a.2 u) 0)∈g):=by
 obtain⟨a,e,A,_,t,u,m⟩:=eC.at x h;exact⟨a,A,t,u,e,rfl,m⟩
theorem nC:∀ (l:List Str) (st:List UP×List UP) (x:UP),x∈(aH Yo st l).2.1->x∈st.1∨x.1∈l
 |[],_,_,h=> .inl h
 |v::l,(cur,pm),x,h=>by
  rcases nC l (aM Yo (cur,pm) v).2 x h with q|q
  ·unfold aM at q
   dsimp only at q
   split at q
   ·exact .inl q
   ·split at q<;>
    ·rcases KM.mp q with q|q
     ·exact .inl q
     ·refine aa (KF.mp q) ?_;exact .inr (.head _)
  ·exact .inr (.tail _ q)
theorem jw(h:a∈aY l):∃ x∈l,a=aV x:=by
 match l,h with
 |[],h=>exact(nomatch h)
 |[x],h=>exact⟨x, .head _,KF.mp h⟩
 |[x,y],h=>
  have h:a∈if (aV y).1.cps.toList<(aV x).1.cps.toList then[aV y,aV x] else[aV x,aV y]:=h
  split at h<;>(rcases KI.mp h with e|h<;>first|exact⟨y,aK,e⟩|exact⟨x, .head _,e⟩|(rw[KF] at h;first|exact⟨x, .head _,h⟩|exact⟨y,aK,h⟩))
 |x::y::z::r,h=>
  obtain⟨b,hb,e⟩:=KK.mp (show a∈(x::y::z::r).map aV from h);exact⟨b,hb,e.symm⟩
theorem qe{as:List (Str×Str)}(h:as.length<=2)(hl:∀ a∈as,a.1.length<=2000/\a.2.length<=1000):
  ((as.map fun a=>Ye " "++a.1++Ye "=\""++a.2++Ye "\"").map (·.length)).sum+(as.map fun a=>Ye " "++a.1++Ye "=\""++a.2++Ye "\"").length<=1048576:=by
 refine aa M4 (aa (KG _) ?_);have h1:∀ x∈as.map (Str.length∘fun a:Str×Str=>Ye " "++a.1++Ye "=\""++a.2++Ye "\""),x<=3004:=fun x hx=>by
  obtain⟨a,ha,rfl⟩:=KK.mp hx;have:=hl a ha;show (Ye " "++a.1++Ye "=\""++a.2++Ye "\"").length<=3004
  (refine aa (KD _ _) (aa (KD _ _) (aa (KD _ _) (aa (KD _ _) ?_)));rw[wG];refine aa Af (aa Ag ?_))
  exact L2 [_,_] (.a (.a (.a (.a W1 V0) (.n 2)) V1) W1) (.n 3004) 1 V0 (.n 2000) 1 V1 (.n 1000) rfl this.1 this.2
 have h2:=sL h1;rw[KG] at h2;have h3:=MY 3004 h;exact KH (NB (KH h2 h3) h) (by decide)
end
section
variable{c:Fx}{E:X8}{m:X7}{n:X6}{J:ad Value}{env:Env}
theorem Gi{o i:X9}{l:Addr}{vs:Yb}{k:Nat}{z:Int}{j:Nat}{u:Tok}{v:Value}(hm:(l,lO vs k)∈n)(hz:z=(j:Int))(hj:vs[j]?=some v)(hl:vs.length<=100000)(h:J v m n)
  (hs:∀ u,subscripted i false (.ref l) (.int z u)=operate [.ref l, .int z u] (getItem (.ref l) (.int z u)):=by intro u;with_unfolding_all rfl):Tr c E m n (subscriptTail o i (.ref l) (.int z u)) J:= .mk fun s l'=>by
 have hL:s.heap.IsList l vs.toArray:=⟨_,(l'.N _ hm).1,rfl,k,rfl⟩;obtain⟨SE,_⟩:=Ll.mp hj;refine tail_any hL.typeIs slot_list_getitem.lookup (wpAny_getItem_list hL (EW hz) (Fn hz SE hl) (by subst hz;simpa using hj) ⟨m,n,l',h⟩) (hs u)
theorem G5(h0:0<=z)(h1:z<x.length)(hz:x.length<=100000)(h:∀ t',J (.str (Txt.item x z) t') m n)
  (hs:subscripted i false (.str x t) (.int z u)=operate [.str x t, .int z u] (getItem (.str x t) (.int z u)):=by with_unfolding_all rfl) (ht:∀ r,letTemporaryGo o (.str x t) r=Pure.pure ():=by intro _;with_unfolding_all rfl):
  Tr c E m n (subscriptTail o i (.str x t) (.int z u)) J:= .mk fun s l=>
 tail_of_ItemOn (PyProof.Rows.SBL.item (BY h0) h1 (BX hz) fun _=>⟨m,n,l.tok,h _⟩) hs ht
theorem HO(h:Tr c E m n (eval o env) fun v m' n'=>bW (fun x t=>v=.str x t) (fun x _=>x.length<=100000) (fun x _=>∀ t',J (.str (Txt.slice x none (some j)) t') m' n'))
  (hs:∀ x t r,subscripted (.Slice none (some (.Constant (.int j) kk pc)) none ps) false (.str x t) (.ref r)=operate [.ref r, .str x t] (getItem (.str x t) (.ref r)):=by intro x t r;with_unfolding_all rfl) (ht:∀ x t r,letTemporaryGo o (.str x t) r=Pure.pure ():=by intro _ _ _;with_unfolding_all rfl):
  Tr c E m n (eval (.Subscript o (.Slice none (some (.Constant (.int j) kk pc)) none ps) p) env) J:= .mk fun s l=>
 Oc (am (h s l) fun v s1 _ _ l1 ⟨x,t,e,hz,q⟩=>wpAny_Slice (KE (by
  subst e;refine Nh (k:=kk) (pos:=pc) (KE ?_);exact slice_strN_ns (s:={s1 with toks:=_}) l1.F l1.N (fun h' t' k F' N'=>⟨_,_,l1.to F' N' l1.D l1.G rfl,q t'⟩) (hs x t _) (ht x t) (by refine aa Lh ?_;exact bd hz))))
theorem HH(h:Tr c E m n (eval o env) fun v m' n'=>bW (fun x t=>v=.str x t) (fun x _=>x.length<=100000) (fun x _=>∀ t',J (.str (Txt.slice x (some j) none) t') m' n'))
  (hs:∀ x t r,subscripted (.Slice (some (.Constant (.int j) kk pc)) none none ps) false (.str x t) (.ref r)=operate [.ref r, .str x t] (getItem (.str x t) (.ref r)):=by intro x t r;with_unfolding_all rfl) (ht:∀ x t r,letTemporaryGo o (.str x t) r=Pure.pure ():=by intro _ _ _;with_unfolding_all rfl):
  Tr c E m n (eval (.Subscript o (.Slice (some (.Constant (.int j) kk pc)) none none ps) p) env) J:= .mk fun s l=>
 Oc (am (h s l) fun v s1 _ _ l1 ⟨x,t,e,hz,q⟩=>wpAny_Slice (by
  subst e;refine Nh (k:=kk) (pos:=pc) (KE (KE ?_));exact slice_strN_sn (s:={s1 with toks:=_}) l1.F l1.N (fun h' t' k F' N'=>⟨_,_,l1.to F' N' l1.D l1.G rfl,q t'⟩) (hs x t _) (ht x t) (by refine aa Lh ?_;exact bd hz)))
theorem IY(h:∀ t',J (.int (if b<a then b else a) t') m n):Tr c E m n (call (.builtin "min") [.int a t, .int b u]) J:= .mk fun s l=>
 min_two_ints rfl fun h' tk hk=>by
  have F':Fr c.h₀ c.L h' m:=⟨l.F.ns.at' fun o e=>hk _ o e,fun b o e=>hk b o (l.F.keep b o e),l.F.above⟩;have N':News c.h₀ c.L h' n:=fun p hp=>⟨hk _ _ (l.N p hp).1,(l.N p hp).2⟩;refine⟨m,n,l.to F' N' l.D l.G rfl,?_⟩;have:=h
  split
  ·rename_i q;have:=h u;rw[KZ q] at this;exact this
  ·rename_i q;have:=h t;rw[KO q] at this;exact this
theorem HC(h:J (.bool (decide (j<i))) m n):Tr c E m n (compareOp .Gt (.int i t) (.int j u)) J:= .mk fun _ l=>PyProof.Rows.gt_int ⟨m,n,l,h⟩
theorem Ku(h:J (.bool (decide (i<j))) m n):Tr c E m n (compareOp .Lt (.int i t) (.int j u)) J:= .mk fun _ l=>PyProof.Rows.lt_int ⟨m,n,l,h⟩
theorem Kv(h:J (.bool (i !=j)) m n):Tr c E m n (compareOp .NotEq (.int i t) (.int j u)) J:= .mk fun _ l=>PyProof.Rows.ne_int ⟨m,n,l,h⟩
theorem Hd(h:∀ t',J (.int (i+j) t') m n):Tr c E m n (binaryOp .Add (.int i t) (.int j u)) J:= .mk fun _ l=>PyProof.Rows.add_int ⟨m,n,l.tok,h _⟩
theorem Hm(h:∀ t',J (.int (i-j) t') m n):Tr c E m n (binaryOp .Sub (.int i t) (.int j u)) J:= .mk fun _ l=>PyProof.Rows.sub_int ⟨m,n,l.tok,h _⟩
theorem HW{y:Str}{xp p:Pos}{e e2:X9}{id:String}(e0:nsIn (ao w.params) mainGlobals y=some none)(hv:bootBuiltins y=some (.builtin id))(hn:y≠"__name__")(h:Tr c E m n (eval e c.env) (kE c E e2 c.env (fun v v2=>call (.builtin id) [v,v2]) J))
  (he:starEach [e,e2] c.env=(false,eval e c.env)::starEach [e2] c.env:=by rfl) (he2:starEach [e2] c.env=(false,eval e2 c.env)::starEach [] c.env:=by rfl) (hp:(backTo p (starEach [e2] c.env)).any (·.1)=false:=by rfl) (hx:c.env.kindOf y=some .globalImplicit:=by rfl) (hd:(y==("__debug__":Str))=false:=by decide):Tr c E m n (eval (.Call (.Name y xp) [e,e2] [] p) c.env) J:= .mk fun s l=>
 LC rfl (am (HK (J:=fun v m' n'=>v=.builtin id/\m'=m/\n'=n) e0 hv hn ⟨rfl,rfl,rfl⟩ hx hd s l) fun _ s' _ _ l' ⟨e1,e3,e4⟩=>by
  subst e1 e3 e4;exact N9 (Lo (am (h s' l') fun _ s1 _ _ l1 q=>Lo (am (q s1 l1) fun _ s2 _ _ l2 q2=>LA (q2 s2 l2)) he2) he) he hp)
theorem pK(ys:List Str):PySem.Spec.same (.list (ys.map PyData.str)) (.list [])=ys.isEmpty:=by cases ys<;>simp[PySem.Spec.same,PySem.Spec.sameAll]
theorem qO:∀ ys:List Str,(∀ y∈ys,PyData.strOk y=true)->PyData.canLayAll0 (ys.map PyData.str)=true
 |[],_=>rfl
 |y::r,h=>by simp[PyData.canLayAll0,PyData.canLay0,qO r fun z hz=>h z (.tail _ hz),h y (.head _)]
theorem mV:∀ ys:List Str,PyData.depthAll (ys.map PyData.str)=0
 |[]=>rfl
 |_::r=>by simp[PyData.depthAll,PyData.depth,mV r]
theorem qi{vs:Yb}{ys:List Str}(h:StrsAre vs ys):CarriedAll vs (ys.map PyData.str):=by
 induction h with
 |nil=>exact .nil
 |cons _ t r ih=>exact .cons (.str _ t) ih
theorem JZ(hm:(l,lO vs k)∈n)(hi:StrsAre vs ys)(he:(e,listOf #[] k2)∈n)(hk:4<=c.k)(Qe:∀ y∈ys,PyData.strOk y=true)(h:J (.bool (!ys.isEmpty)) m n):Tr c E m n (compareOp .NotEq (.ref l) (.ref e)) J:= .mk fun s l'=>
 ne_dataH_same (reads_newData ⟨_,(l'.N _ hm).1,rfl,k,rfl⟩ (qi hi)) (reads_newData (ys:=[]) (ds:=[]) ⟨_,(l'.N _ he).1,rfl,k2,rfl⟩ .nil) (by simp[SeqAt.shaped,PyData.canLay0,PyData.depth,qO ys Qe,mV]) (by rfl) (by have:=l'.hu;show c.un+64<cLine;exact L2 [_,_,_] (.a (.a V1 (.n 64)) W1) V2 16 (.n 4) V0 1 (.a (.a V1 (.m 20 V0)) W1) V2 rfl hk this)
  (SeqAt.noMix_of_shape (.list .str) rfl _ _ (list_map_has (g:=PyData.str) fun _=>rfl) (list_map_has (l:=([]:List Str)) (g:=PyData.str) fun _=>rfl)) (by refine aa (pK _) ?_;exact⟨m,n,l',h⟩)
end
section
variable{c:Fx}{E:X8}{m:X7}{n:X6}{K:ad Flow}{PO iter:X9}{body orelse:Yd}{pos:Pos}
def rA(I:Nat)(oI:Obj)(Inv:X7->X6->Prop)(K:ad Flow):ad Flow:=fun fl m' n'=>match fl with
 | .next| .cont=>aO (fun PS=>n'=(I,oI)::PS) (fun PS=>Inv m' PS)
 | .brk=>K .next m' n'
 | .ret v=>K (.ret v) m' n'
theorem qW{Inv:Nat->X7->X6->Prop}{N I:Nat}{P:Nat->Value->Prop}{fp:List Addr}{St:Nat->Heap->Prop}{src:Addr->Obj}{oI:Obj}{s:Shared}(hI:fb c.A I N P fp St)(l:ay c s m ((I,oI)::n))(hst:St 0 s.heap)
  (Ul:∀ j m n,Inv j m n->∀ b∈fp,b≠I->(b,src b)∈n∨c.h₀.get? b=some (src b)) (h0:Inv 0 m n)
  (turn:∀ j v m n (oI:Obj),j<N->P j v->Inv j m n->Tr c E m ((I,oI)::n) (assign PO c.env v) fun _ m n=>Tr c E m n (execs body c.env) (rA I oI (Inv (j+1)) K)) (last:∀ m n,Inv N m n->Tr c E m n (execs orelse c.env) K):
  i6 c.A c.h₀ c.env PO body orelse (fun fl s'=>bE (fun m' n'=>ay c s' m' n') (fun m' n'=>K fl m' n')) E (.ref I) s:=by
 have hN:=l.N (I,oI) (.head _);have mk:∀ {h:Heap} {g:Array GenState} {d:Drawn} {tk:Nat} {SJ:X7} {PY:X6},Fr c.h₀ c.L h SJ->News c.h₀ c.L h PY->ax PY->c.Gp g->ay c ⟨h,g,d,tk,s.os⟩ SJ PY:=
  fun F N D G=>⟨l.B,l.X,l.T,l.hk,l.hd,l.hu,F,N,D,G,l.O⟩
 refine⟨fun g _=>c.Gp g,I,fp,N,P,St,src,fun j m n=>Inv j m n/\∀ o:Obj,ax ((I,o)::n),m,n,oI,rfl,hI.W,hst,MH hN.2.1,hN.2.2,l.F,l.N,l.G,⟨h0,fun o=>l.D⟩,?_,hI.hex,fun i s' v Q'=>hI.hgo i PO s' v Q' E,?_,?_⟩
 ·rintro j m n ⟨hi,hd⟩
  exact⟨fun p hp=>(hd oI).ne hp,Ul j m n hi⟩
 ·rintro j v SJ PY Q3 h g d tk hj hv ⟨hi,hd⟩ hg F N
  refine am (turn j v SJ PY Q3 hj hv hi _ (mk F N (hd Q3) hg)) fun _ TG XI n₂ l₂ q=>am (q TG l₂) fun fl Ri WD Vf RE VU=>?_
  match fl,VU with
  | .next,⟨PS,e,q⟩=>
   subst e;exact⟨WD,PS,RE.F,RE.N,⟨q,fun o=>RE.D⟩,RE.G,RE.O.trans l.O.symm⟩
  | .cont,⟨PS,e,q⟩=>
   subst e;exact⟨WD,PS,RE.F,RE.N,⟨q,fun o=>RE.D⟩,RE.G,RE.O.trans l.O.symm⟩
  | .brk,q=>exact⟨WD,Vf,RE,q⟩
  | .ret v,q=>exact⟨WD,Vf,RE,q⟩
 ·rintro h g d tk SJ PY ⟨hi,hd⟩ hg F N
  exact last SJ PY hi _ (mk F N (hd oI).tail hg)
theorem II(h:∀ s,ay c s m n->wpAny MP c.A (eval iter c.env) (fun xv P1=>wpAny MP c.A (pyIter xv) (fun it QU=>i6 c.A c.h₀ c.env PO body orelse (fun fl s'=>bE (fun m' n'=>ay c s' m' n') (fun m' n'=>K fl m' n')) E it QU) E P1) E s)
  (hs:∀ x,foldedSetIterable iter c.env x=Pure.pure x:=by intro _;rfl) (hE:PassesOwn MP c.A c.env E):Tr c E m n (exec (.For PO iter body orelse pos) c.env) K:= .mk fun s l=>zv l.F (h s l) hs hE
noncomputable abbrev bl (i:Int) (t u z:Tok):Obj:={cls:= .type "range",dict:=none,data:= .fields #[.int 0 t, .int i u, .int 1 z],slots:=#[]}
theorem Hr(h:∀ (r:Nat) t u z,J (.ref r) m ((r,bl i t u z)::n)):Tr c E m n (call (.type "range") [.int i t]) J:= .mk fun _ l=>
 call_range_1 ⟨m,_,(l.push _).tok,h _ _ _ _⟩
theorem IQ(N:Nat)(Inv:Nat->X7->X6->Prop)(hE:PassesOwn MP c.A c.env E)
  (h:Tr c E m n (eval iter c.env) fun v m' n'=>vL (fun r t u z=>v=.ref r) (fun r t u z=>(r,bl N t u z)∈n') (fun _ _ _ _=>Inv 0 m' n')) (hz:N<=1000)
  (turn:∀ j t I oI m n,j<N->Inv j m n->Tr c E m ((I,oI)::n) (assign PO c.env (.int (j:Nat) t)) fun _ m n=>Tr c E m n (execs body c.env) (rA I oI (Inv (j+1)) K))
  (last:∀ m n,Inv N m n->Tr c E m n (execs orelse c.env) K) (hs:∀ x,foldedSetIterable iter c.env x=Pure.pure x:=by intro _;rfl):Tr c E m n (exec (.For PO iter body orelse pos) c.env) K:=
 II (fun s l=>am (h s l) fun v P1 m' n' l' ⟨r,t,u,z,e,hr,h0⟩=>by
  subst e;refine kU (n:=N) l'.F l'.N (l'.N _ hr).1 (small_one (by decide) (by decide) (iX) (tK hz)) (by refine aa (PyProof.Rows.rangeSize_nat _ _) ?_;exact BZ) fun I oI h1 hI F1 N1 PW hst Qh=>?_;have l1:ay c {P1 with heap:=h1} m' ((I,oI)::n'):=l'.to F1 N1 (l'.D.fresh PW) l'.G rfl;refine qW (Inv:=Inv) (N:=N) (src:=fun _=>oI) (nG rfl I 0 1 N) l1 hst (fun j m n hi b hb QJ=>absurd (by simpa using hb) QJ) h0 (fun j v m n oI hj hv hi=>?_) last;obtain⟨tk,rfl⟩:=hv;have:=turn j tk I oI m n hj hi;refine aa (show (0:Int)+(j:Nat)*1=(j:Nat) from B8) ?_;exact this) hs hE
theorem lz{h:Heap}:∀ l:X6,(∀ p∈l,h.get? p.1=some p.2)->fJ (fun l'=>l'.Sublist l) (fun l'=>ax l') (fun l'=>∀ p∈l,p∈l')
 |[],_=>⟨[], .slnil,ax.nil,fun _ h=>nomatch h⟩
 |x::l,hl=>by
  obtain⟨l',hs,hd,hm⟩:=lz l fun p hp=>hl p (.tail _ hp)
  by_cases hx:x∈l'
  ·exact⟨l', .cons _ hs,hd,fun p hp=>(KI.mp hp).elim (fun e=>e▸hx) fun h=>hm p h⟩
  ·refine⟨x::l', .cons₂ _ hs,ax.cons.mpr ⟨fun q hq e=>hx ?_,hd⟩,fun p hp=>(KI.mp hp).elim (fun e=>e▸ .head _) fun h=> .tail _ (hm p h)⟩
   have h1:=hl x (.head _);have h2:=hl q (.tail _ (hs.subset hq));rw[e,h1] at h2;have:q=x:=Prod.ext e (Mr h2).symm;exact this▸hq
noncomputable def Fx.still (c:Fx) (g:Array GenState):Fx:={c with k:=0,g₀:=g}
theorem Iu{c:Fx}{E:X8}{m:X7}{n:X6}{K:ad Flow}{PO:X9}{body:Yd}{x y:Str}{px VT ap ap2 p pos:Pos}{W D Ln cL k:Nat}{es:List DictEntry}{ns:az}
  (Inv:Nat->X7->X6->Prop) (hE:PassesOwn MP c.A c.env E) (hk:1<=c.k)
  (hx:m x=some (.ref W)) (h1:(W,instObj 150 D)∈n) (h2:(D,dictOf es k)∈n) (hm:iA "_iter_namespaces" es 75) (ho:dR y es (.ref Ln))
  (WF:∀ z∈ns,z.2.1.length<=1000) (Sl:∀ j m' n',Inv j m' n'->∀ z∈bI Ln cL ns.stk,z∈n'∨c.h₀.get? z.1=some z.2) (hA:∀ j m' n',Inv j m' n'->n'.map (·.1)=n.map (·.1)) (h0:Inv 0 m n)
  (turn:∀ (j:Nat) (q:Pr) (own:X6) m' n' (T7:ad Flow) (g:Array GenState),ns.flat[j]?=some q->Inv j m' n'->(∀ m'' PS,Inv (j+1) m'' PS->T7 .next m'' (own++PS))->(∀ v m'' PS,K (.ret v) m'' PS->T7 (.ret v) m'' PS)->
   Tr (c.still g) E m' (own++n') (assign PO c.env (.ref q.a)) (kS (c.still g) E body c.env T7))
  (last:∀ m' n',Inv ns.flat.length m' n'->K .next m' n')
  (hkx:c.env.kindOf x=some .local:=by rfl) (hdx:(x==("__debug__":Str))=false:=by decide)
  {pl:Sem Bool} (he:eval (.Call (.Attribute (.Name x px) "_iter_namespaces" ap) [.Attribute (.Name x VT) y ap2] [] p) c.env=(do
   let ov←eval (.Name x px) c.env
   standAt ap.atName
   let (f,first)←holding [ov] (getMethod ov "_iter_namespaces" pl)
   callWith p f first (backTo p (starEach [.Attribute (.Name x VT) y ap2] c.env)) []):=by rfl)
  (he2:eval (.Attribute (.Name x VT) y ap2) c.env=(do
   let v←eval (.Name x VT) c.env
   standAt ap2.atName
   let z←holding [v] (getAttr v y true)
   letTemporaryGo (.Name x VT) v z
   Pure.pure z):=by with_unfolding_all rfl)
  (hs:∀ z,foldedSetIterable (.Call (.Attribute (.Name x px) "_iter_namespaces" ap) [.Attribute (.Name x VT) y ap2] [] p) c.env z=Pure.pure z:=by intro _;rfl):
  Tr c E m n (exec (.For PO (.Call (.Attribute (.Name x px) "_iter_namespaces" ap) [.Attribute (.Name x VT) y ap2] [] p) body [] pos) c.env) K:=by
 refine .mk fun s l=>?_;obtain⟨Qv,mg,mb,T⟩:=l.T;obtain⟨at1,at2,at3⟩:=ho.ha;have hd:=l.hd;have Qc:c.A.depth<recursionLimit:=by show c.dp<recursionLimit;exact iS hd
 refine xV l.F (MethodCall_ (nameX_L l.F hx (method_inst l.F l.X (MX l.N h1 h2) hm.hg hm.hf hm.ht hm.hl (callWith_K l.X hm.hk (Lo (Attribute_any_ (nameX_L l.F hx (get_own l.F l.X (MX l.N h1 h2) ho.hg ho.hh at2 at3 ho.hl ho.hv (LA ⟨l.X.keeps l.F.keep,?_⟩)) l.hk hkx hdx) he2) rfl) rfl rfl)) l.hk hkx hdx) he) hs hE;have lt:ay c {s with toks:=s.toks+1} m n:=l.tok;have hsh0:bH s.heap (bI Ln cL ns.stk):=fun z hz=>(Sl 0 m n h0 z hz).elim (fun h=>(l.N z h).1) fun h=>l.F.keep _ _ h;refine rT (K:=ao w.params) (xs:=ns.stk) (cL:=cL) (Ln:=Ln) (s:={s with toks:=s.toks+1}) lt.F l.X lt.N T (by k_is) (by k_is) Qc (binds_K (l.X.keeps l.F.keep) rfl (by k_is) rfl rfl rfl) (locs rfl) rfl rfl rfl (by decide) rfl hsh0 (fun z hz=>?_) rfl fun C h' Qg tk own hC hG F N QE hL hh0 hn=>?_
 ·obtain⟨u,hu,rfl⟩:=KK.mp hz
  have:=WF u hu;simp only[KG];exact xQ this
 have hnC:∀ j m' n',Inv j m' n'->∀ z∈n',z.1<C:=fun j m' n' hi z hz=>by
  have:z.1∈n.map (·.1):=hA j m' n' hi▸KW hz;obtain⟨u,hu,e⟩:=KK.mp this;exact e▸hn u hu
 refine⟨C+2,C,Ln,cL,C+1,_,ns.stk,own,Inv,m,n,rfl,rfl,T.nolimit,Qc,LR _,LR _,hh0,hL,hG,F,N,QE l.G.1,fun j m' n' hi=>⟨hnC j m' n' hi,Sl j m' n' hi⟩,h0,?_,?_⟩
 ·intro j v SJ PY oa oC oI oJ I J' h₁ Wb XS Tx hv hi hCI hCJ hb F₁ XR
  rw[GX,LX] at hv;obtain⟨q,hq,rfl⟩:=Lv.mp hv;obtain⟨ow,os1,od,om⟩:=lz (h:=h₁) [(C+1,oa),(C,oC),(I,oI),(J',oJ)] fun z hz=>(XR z (KA _ hz)).1;have hge:∀ z∈ow,C<=z.1:=fun z hz=>by
   have h:=os1.subset hz;simp only[KI,LH,O1] at h;rcases h with rfl|rfl|rfl|rfl
   ·exact MG C
   ·exact K1 C
   ·exact hCI
   ·exact hCJ
  have Dn:ax PY:=by
   have h:=l.D;unfold ax at h⊢;exact aa (hA j SJ PY hi) h
  have lc:ay (c.still Wb) ⟨h₁,Wb,XS,Tx,s.os⟩ SJ (ow++PY):=
   ⟨l.B,l.X,l.T,l.hk,by show c.dp+0<recursionLimit;exact L1 [_,_,_] (.a (.a V1 W0) W1) V2 1 (.a (.a V1 V0) W1) V2 rfl hd,by have:=l.hu;show c.un+20*0<cLine;exact L1 [_,_,_] (.a (.a V1 (.m 20 W0)) W1) V2 1 (.a (.a V1 (.m 20 V0)) W1) V2 rfl this,F₁,fun z hz=>(KM.mp hz).elim (fun h=>XR z (KA _ (os1.subset h))) fun h=>XR z (KB _ h),od.append Dn fun z hz z' hz'=>MH (K8 (Lb (hnC j SJ PY hi z' hz') (hge z hz))),⟨hb,fun _=>rfl⟩,l.O⟩
  have st:=turn j q ow SJ PY (fun fl m' n'=>match fl with| .next=>aO (fun PS=>n'=ow++PS) (fun PS=>Inv (j+1) m' PS)| .ret v=>K (.ret v) m' n'|_=>False) Wb hq hi (fun _ PS h=>⟨PS,rfl,h⟩) (fun _ _ _ h=>h) _ lc;refine K9 st (fun _ TG ⟨WD,Vf,RE,Se⟩=>K9 (Se TG RE) (fun f Ri ⟨WX,XC,R7,R5⟩=>?_) fun _ _ e=>e) fun _ _ e=>e
  match f,R5 with
  | .next,⟨PS,e,S0⟩=>
   subst e;exact⟨WX,PS,R7.F,fun z hz=>(KM.mp hz).elim (fun h=>R7.N z (KA _ (om z h))) fun h=>R7.N z (KB _ h),S0,R7.G.2 rfl,R7.O.trans l.O.symm⟩
  | .ret v,R5=>exact⟨WX,XC,⟨l.B,l.X,l.T,l.hk,l.hd,l.hu,R7.F,R7.N,R7.D,⟨R7.G.1,fun h=>BU h hk⟩,R7.O⟩,R5⟩
 ·intro Sa tk₂ d₂ TD XI n₂ Xi Xj hb hi
  rw[GX,KG] at hi;have Dn:ax n₂:=by
   have h:=l.D;unfold ax at h⊢;exact aa (hA _ XI n₂ hi) h
  exact⟨XI,n₂,⟨l.B,l.X,l.T,l.hk,l.hd,l.hu,Xi,Xj,Dn,⟨hb,fun h=>BU h hk⟩,l.O⟩,last XI n₂ hi⟩
end
def iz(k:Nat)(f:Addr)(as:Args)(n read:X6)(P:Value->X6->Prop)(Rs:Str->X6->Prop):Prop:=
 ∀ (c:Fx) E m rest (J:ad Value),k<=c.k->(∀ p∈read,p∈rest)->(∀ v n',P v n'->J v m (n'++rest))->dC c m rest Rs E->∀ s,ay c s m (n++rest)->
  codeAny MP c.A (.call (.ref f) as) (fun r s'=>match r with| .ok (.ret v)=>bE (fun m' n'=>ay c s' m' n') (fun m' n'=>J v m' n')| .ok _=>False| .error e=>E e s') s
theorem Ic{k:Nat}{f:Addr}{as:Args}{n read:X6}{P:Value->X6->Prop}{Rs:Str->X6->Prop}(d:iz k f as n read P Rs):
  eE k f as (n++read) (fun v n'=>aO (fun f'=>P v f') (fun f'=>n'=f'++read)) Rs:=fun c E m rest J hk hJ hR s l=>by
 refine d c E m (read++rest) J hk (fun _ h=>KA _ h) (fun v n' h=>?_) (fun PQ Yr hw e t h' TD Qg d' TY tw F hr=>hR PQ Yr hw e t h' TD Qg d' TY tw F fun p hp=>hr p (KB _ hp)) s (by refine ae (KS _ _ _) ?_;exact l);exact ae (KS _ _ _) (hJ v _ ⟨n',h,rfl⟩)
def xw(Rs:Str->X6->Prop)(c:Fx)(E:X8):Prop:=
 ∀ PQ s m n e h' tw,Rs PQ []->ay c s m n->Heap.MadeExc s.heap h' e "ValueError" [.str PQ tw]->E (.ref e) {s with heap:=h'}
theorem HU{k:Nat}{f:Addr}{as:Args}{n read:X6}{P:Value->X6->Prop}{Rs:Str->X6->Prop}
  {name qual:Str} {params:Arguments} {body:Yd} {scope:Scope} {dV kV doc pm PX ct oc:Value} {an od:Option Addr} {RN:Array (Option Value)} {binds:List (Str×Value)}
  (ho:(ao w.params).lookup f=some ⟨oc,od, .func (fnOf name qual params body scope dV kV doc pm an PX ct),RN⟩) (Q1:codeIn (ao w.params) PX qual=true)
  (Qx:∀ s:Shared,(ao w.params).In s.heap->BindsTo s (fnOf name qual params body scope dV kV doc pm an PX ct) as binds) (RB:∀ y∈binds,scope.names.lookup y.1=some .local)
  (Q2:scope.isCoroutine=false) (QX:scope.isGenerator=false) (hk:scope.kind=.function) (P8:∀ x∈scope.names,x.2≠ .cell)
  (RA:∀ PQ Yr,Rs PQ Yr->∀ q∈Yr,q.1∈n.map (·.1))
  (hb:∀ A₀ base dp un gd L outer h₀ os g₀,let c:Fx:=⟨A₀,base,k,dp,un,gd,qual,scope,L,f,PX,[],outer,h₀,os,g₀⟩;∀ E (K:ad Flow),jF Rs c E->PassesOwn MP c.A c.env E->(∀ fl m n' PS,PS.Sublist n'->P (cw fl) PS->K fl m n')->(∀ p∈read,c.h₀.get? p.1=some p.2)->xw Rs c E->
   Tr c E (fun y=>binds.reverse.lookup y) n (execs body c.env) K):
  iz (k+1) f as n read P Rs:=by
 intro c E m rest J QB hrd hJ hR s l;obtain⟨Qv,mg,mb,T⟩:=l.T;have hd:=l.hd;have hu:=l.hu;refine iC l.B l.F l.X l.N T rfl rfl l.hk (fun p hp=>KA rest hp) ho Q1 (by show c.dp<recursionLimit;exact iS hd) (Qx s (l.X.keeps l.F.keep)) RB ?_ Q2 QX hk P8;intro g L' h₁ FG F' N' B' X' T' PW hg;have QL:∀ p∈rest,p∈n++rest/\∀ q∈n,q.1≠p.1:=fun p hp=>⟨KB _ hp,fun q hq=>l.D.apart q hq p hp⟩;have RC:∀ p∈rest,g.get? p.1=some p.2/\p.1≠c.L:=fun p hp=>⟨hg p (QL p hp).1 (QL p hp).2,(l.N p (QL p hp).1).2.1⟩;have l0:ay (⟨c.A,c.base,k,c.dp+1,c.un+3,c.gd,qual,scope,L',f,PX,[],c.env::c.outer,g,c.os,s.gens⟩:Fx) {s with heap:=h₁,toks:=s.toks+binds.length} (fun y=>binds.reverse.lookup y) n:=
  ⟨B',X',⟨_,_,_,T'⟩,hk,tZ QB hd,vw QB hu,F',N',l.D.left,⟨l.G.1,fun _=>rfl⟩,l.O⟩
 refine K9 (hb c.A c.base (c.dp+1) (c.un+3) c.gd L' (c.env::c.outer) g c.os s.gens _ (fun fl _ n'=>aO (fun PS=>PS.Sublist n') (fun PS=>P (cw fl) PS)) ?_ ?pas (fun _ _ _ PS a b=>⟨PS,a,b⟩) (fun p hp=>(RC p (hrd p hp)).1) ?mk _ l0) ?_ fun _ _ e=>e
 case pas=>passes_own
 case mk=>
  intro PQ s2 m2 n2 e h' tw hw l2 hx;refine leave_raiseS (news:=[]) B' hx.of l2.F News.nil (fun Sh t R _ U=>?_) hk;have:=hR PQ [] hw e t Sh g s2.gens s2.drawn s2.toks tw FG RC R U l2.G.1;rw[←(show s2.os=c.os from l2.O)] at this;exact this
 ·exact @jF.mk _ _ _ _ _ _ _ hR B' FG RC RA (fun p hp=>(N' p hp).2.2) rfl rfl rfl
 ·rintro fl s' ⟨m',n',l',q⟩
  cases fl<;>exact Hh l hJ QL RC l' q rfl (pH QB) fun v m' n' a b=>⟨m',n',a,b⟩
section
variable{c:Fx}{E:X8}{m:X7}{n pre post:X6}{J:ad Value}{U:ad Unit}{K:ad Flow}{env:Env}{r:Yd}
theorem Io(h:Tr c E m n (eval e env) (kT c E (assign t env) (kS c E r env K)))
  (hs:swapsWithSole [t] e p.line env=Pure.pure false:=by rfl) (he:(assignEach [t] env).map (·.2)=[assign t env]:=by rfl) (hw:swappedStores [t] e env=Pure.pure none:=by rfl):
  Tr c E m n (execs (.Assign [t] e p::r) env) K:= .mk fun s l=>
 Lr (wpAny_Assign_stores (am (h s l) fun v s' _ _ l' q=>by
  refine aa he ?_;exact am (q s' l') fun _ s' _ _ l' q=>q s' l') hs hw)
theorem Ih(hm:(D,listOf #[x,y] k)∈n)(h:Tr c E m n (assign a env x) (kT c E (fun _=>assign b env y) U))
  (he:assignEach [a,b] env=[(false,assign a env),(false,assign b env)]:=by rfl):Tr c E m n (assign (.Tuple [a,b] kk p) env (.ref D)) U:= .mk fun s l=>by
 have ht:s.heap.IsList D #[x,y]:=⟨_,(l.N _ hm).1,rfl,k,rfl⟩;exact kun_list l.F l.N ht rfl (by refine aa he ?_;rfl) (by refine aa he ?_;rfl) fun h' F' N'=>by
  exact aa he (MU (am (h _ (l.to F' N' l.D l.G rfl)) fun _ s1 _ _ l1 q=>MU (up (q s1 l1) fun _ s2 q=>assignInOrder_nil q)))
theorem JJ(hy:(y.length==0)=false)(hz:x.length<=100000)(hq:Txt.splitMax x y 1=[p,q])(h:∀ (D:Nat) t1 t2,J (.ref D) m ((D,listOf #[.str p t1, .str q t2] 0)::n)):Tr c E m n (call (.builtin "str.split") [.str x t, .str y u, .int 1 v]) J:= .mk fun s l=>
 splitN2A l.F l.N hy (by decide) (fun ls h' tk h1 _ _ _ F' N'=>by
  rw[hq] at h1;obtain⟨t1,t2,rfl⟩:=pV h1;exact⟨m,_,l.to F' N' (l.D.fresh fun p hp=>KQ (l.N p hp).1) l.G rfl,h _ t1 t2⟩) (by refine aa Lh ?_;exact L1 [_] (.a V0 (.n 2)) (.n 16777216) 1 V0 (.n 100000) rfl hz)
theorem Jg(hy:(y.length==0)=false)(hz:x.length<=100000)(hq:Txt.rsplitMax x y 1=[p,q])(h:∀ (D:Nat) t1 t2,J (.ref D) m ((D,listOf #[.str p t1, .str q t2] 0)::n)):Tr c E m n (call (.builtin "str.rsplit") [.str x t, .str y u, .int 1 v]) J:= .mk fun s l=>
 rsplitN2A l.F l.N hy (by decide) (fun ls h' tk h1 _ _ _ F' N'=>by
  rw[hq] at h1;obtain⟨t1,t2,rfl⟩:=pV h1;exact⟨m,_,l.to F' N' (l.D.fresh fun p hp=>KQ (l.N p hp).1) l.G rfl,h _ t1 t2⟩) (by refine aa Lh ?_;exact L1 [_] (.a V0 (.n 2)) (.n 16777216) 1 V0 (.n 100000) rfl hz)
theorem JH(hM:xw Rs c E)(h:Tr c E m n (eval XT c.env) fun v _ _=>bE (fun(x:Str) (t:Tok)=>v=.str x t) (fun x _=>Rs x []))
  (hx:c.env.kindOf "ValueError"=some .globalImplicit:=by rfl) (he:starEach [XT] c.env=[(false,eval XT c.env)]:=by rfl):Tr c E m n (execs (.Raise (some (.Call (.Name "ValueError" np) [XT] [] cpos)) none pos::r) c.env) K:= .mk fun s l=>by
 obtain⟨_,_,_,t⟩:=l.T;refine Lr (Raise_madeB PySem.F.excCall_ValueError PySem.F.excRaise_ValueError rfl (nameX_B l.F l.X (topRead_of t) (by k_is) (by boot_fast) (by decide) ⟨rfl,Lo (am (h s l) fun v s' m' n' l' ⟨x,tk,e,hw⟩=>LA ?_) he⟩ l.hk hx) he);subst e;exact⟨by refine aa Lh ?_;exact KC rfl,fun h' e hx=>hM _ _ _ _ _ _ _ hw l' hx⟩
theorem IH(h:J (.bool (x==y)) m n):Tr c E m n (compareOp .Eq (.str x t) (.str y u)) J:= .mk fun _ l=>PyProof.Rows.eq_str ⟨m,n,l,h⟩
theorem Hv(hz:(out++x).length<=1000000)(h:Tr c E m n (joinParts (out++x) ps) J):Tr c E m n (joinParts out (eval (.Constant (.str x) k p) env::ps)) J:=G4 (Gc fun _=>⟨_,_,rfl,hz,h⟩)
theorem H2(hv:m x=some (.str y t))(hy:y.length<=10000)(hz:(out++y).length<=1000000)(h:Tr c E m n (joinParts (out++y) ps) J)(hx:c.env.kindOf x=some .local:=by rfl)(hd:(x==("__debug__":Str))=false:=by decide):
  Tr c E m n (joinParts out (eval (.FormattedValue (.Name x px) (-1) none p) c.env::ps)) J:=G4 (HY (FY hv (HR (KH hy (by decide)) fun _=>⟨_,_,rfl,hz,h⟩) hx hd))
theorem H6(hm:c.h₀.get? t=some (bm x y k))(h:Tr c E m n (assign a env x) (kT c E (fun _=>assign b env y) U))
  (he:assignEach [a,b] env=[(false,assign a env),(false,assign b env)]:=by rfl):Tr c E m n (assign (.Tuple [a,b] kk p) env (.ref t)) U:= .mk fun s l=>by
 have ht:IsTup s.heap t #[x,y]:=⟨_,l.F.keep _ _ hm,rfl,k,rfl⟩;exact unpackN_ l.F l.N ht rfl (by refine aa he ?_;rfl) (by refine aa he ?_;rfl) fun h' F' N'=>by
  exact aa he (MU (am (h _ (l.to F' N' l.D l.G rfl)) fun _ s1 _ _ l1 q=>MU (up (q s1 l1) fun _ s2 q=>assignInOrder_nil q)))
theorem ba{names:List (Str×NameKind)}{binds:List (Str×Value)}(h:(binds.all fun y=>names.lookup y.1==some .local)=true):∀ y∈binds,names.lookup y.1=some .local:=fun y hy=>by simpa using List.all_eq_true.mp h y hy
theorem pf(a:aF)(t:Nat->Tok)(Yi:Value)(seen done:Bool):iA "_iter_namespaces" (aE a t Yi seen done) 75:=⟨by k_is,by k_is,by k_is,by k_is,by k_get⟩
end
structure rG(pre nm:Str)(tk t3 t4:Tok)(m:X7):Prop where
 p:m (Ye "prefix")=some (.str pre t3)
 n:m (Ye "name")=some (.str nm t4)
 q:m (Ye "prefixed_name")=some (.str (pre++Ye ":"++nm) tk)
theorem rR(wa:aF)(t:Nat->Tok)(Yi:Value)(seen done:Bool)(n cn:Nat)(ns:az)(pre nm:Str)(tk:Tok)(Qy:pre.length<=1000)(Qu:nm.length<=1000)(WF:∀ x∈ns,x.2.1.length<=1000)(RD:∀ p∈ns.flat,p.YC.length<=1000/\p.pre.length<=1000)(hsq:Txt.splitMax (pre++Ye ":"++nm) (Ye ":") 1=[pre,nm]):
  iz 4 82 ⟨[.ref wa.W, .str (pre++Ye ":"++nm) tk],[]⟩ [(wa.W,instObj 150 wa.D),(wa.D,dictOf (aE wa t Yi seen done) n),(wa.ns,lO ns.refs cn)] ns.read
   (fun r Wa=>(aO (fun u=>ns.uriOf pre=some u) (fun u=>fc (Ye "{"++u++Ye "}"++nm) r))/\Wa=[(wa.W,instObj 150 wa.D),(wa.D,dictOf (aE wa t Yi seen done) n),(wa.ns,lO ns.refs cn)])
   (fun PQ Yr=>(ns.uriOf pre=none/\PQ=Ye "Prefix "++pre++Ye " of QName \""++(pre++Ye ":"++nm)++Ye "\" is not declared in scope")/\Yr=[]):=by
 refine' HU (binds:=[(Ye "self", .ref wa.W),(Ye "prefixed_name", .str (pre++Ye ":"++nm) tk)]) (by k_is) (by k_is) (by exact fun s X=>LJ rfl) (by exact ba rfl) (by rfl) (by rfl) (by rfl) (by decide) ?k9 ?_
 case k9=>
  rintro PQ Yr ⟨-,rfl⟩ q hq
  cases hq
 intro A₀ base dp un gd L outer h₀ os g₀ c E K hE QR hK hR hM;have Qk:(pre++Ye ":"++nm).length<=2001:=by refine aa (KD _ _) (aa (KD _ _) ?_);show _+1+_<=_;exact L2 [_,_] (.a (.a V0 W1) V1) (.n 2001) 1 V0 (.n 1000) 1 V1 (.n 1000) rfl Qy Qu
 refine Io (Ga (FY rfl (HM PySem.F.slot_str_split PySem.F.type_str_split (Gq (F0 (Gc fun t1=>F0 (F7 fun t2=>FZ (JJ rfl (KH Qk (by decide)) hsq fun D t3 t4=>Ih (.head _) (Go (Go (GW (Ls _ _) ?_)))))))))));show Tr _ _ _ _ _ _;generalize hm:(fun y=>if y=Ye "name" then some (Value.str nm t4) else _)=m1;have s1:m1 (Ye "self")=some (.ref wa.W):=ae hm rfl;have l1:rG pre nm tk t3 t4 m1:=ae hm ⟨rfl,rfl,rfl⟩;clear hm;generalize SD:[(wa.W,instObj 150 wa.D),(wa.D,dictOf (aE wa t Yi seen done) n),(wa.ns,lO ns.refs cn)]=P4 at hK⊢;have f1:(wa.W,instObj 150 wa.D)∈P4:=ae SD (.head _);have f2:(wa.D,dictOf (aE wa t Yi seen done) n)∈P4:=ae SD aK;have f3:(wa.ns,lO ns.refs cn)∈P4:=ae SD cq;clear SD;refine Gu (Iu (ns:=ns) (cL:=cn) (fun j m' n'=>n'=P4/\rG pre nm tk t3 t4 m'/\∀ i,i<j->∀ p,ns.flat[i]?=some p->p.pre≠pre) QR (by show 1<=3;decide) s1 f1 f2 (pf wa t Yi seen done) (lC wa t Yi seen done) WF ?sh (fun j m' n' h=>by exact aa h.1 rfl) ⟨rfl,l1,fun i h=>absurd h (LM _)⟩ ?turn ?last)
 case sh=>
  rintro j m' n' ⟨rfl,-,-⟩ z hz;rw[HV] at hz;rcases KI.mp hz with rfl|hz
  ·exact .inl f3
  ·exact .inr (hR z (KA _ hz))
 case turn=>
  rintro j q own m' n' K2 g hq ⟨rfl,lk,Q8⟩ hnx hrt;have hqm:q∈ns.flat:=LL hq;have Uu:=RD q hqm;refine H6 (hR q.ent (KB _ (KW hqm))) (Go (Go ?_));show Tr _ _ _ _ _ _;generalize hm:(fun y=>if y=Ye "p" then some (Value.str q.pre q.tp) else _)=m2;have p2:m2 (Ye "p")=some (.str q.pre q.tp):=ae hm rfl;have u2:m2 (Ye "uri")=some (.str q.YC q.tu):=ae hm rfl;have l2:rG pre nm tk t3 t4 m2:=ae hm ⟨lk.p,lk.n,lk.q⟩;clear hm lk;refine Gk (Gb (FY p2 (FY l2.p (IH (F9 ?_)))))
  cases Rq:q.pre==pre
  ·exact F6 (F6 (hnx _ _ ⟨rfl,l2,fun i hi p hp=>by
    rcases N8.mp hi with h|rfl
    ·exact Q8 i h p hp
    ·rw[hq] at hp
     cases hp;intro e;rw[e,OG] at Rq
     cases Rq⟩))
  ·refine GM (Hf (Hv ?z1 (H2 u2 (bd Uu.1) ?z2 (GQ (Hv ?z3 (GQ (H2 l2.n (bd Qu) ?z4 (G0 (G7 ?z5 fun t5=>hrt _ _ _ (hK _ _ _ _ (Lz _ _) ⟨⟨q.YC,Im hq (eq_of_beq Rq) Q8,?is⟩,rfl⟩))))))))))
   case is=>exact fc.of (by exact aa (Me _) rfl)
   all_goals simp only[Me,KD,uG,uH,Ah];lia
 case last=>
  rintro m' n' ⟨rfl,lk,Q8⟩;refine JH hM (Hf (Hv ?y1 (H2 lk.p (KH Qy (by decide)) ?y2 ?_)))
  case y1=>exact KC rfl
  case y2=>refine aa (KD _ _) ?_;show 7+_<=_;exact L1 [_] (.a (.n 7) V0) (.n 1000000) 1 V0 (.n 1000) rfl Qy
  refine GQ (Hv ?y3 (GQ (H2 lk.q (KH Qk (by decide)) ?y4 ?_)))
  case y3=>refine aa (KD _ _) (aa (KD _ _) ?_);show 7+_+11<=_;exact L1 [_] (.a (.a (.n 7) V0) (.n 11)) (.n 1000000) 1 V0 (.n 1000) rfl Qy
  case y4=>(refine aa (KD _ _) ?_;rw[KD];refine aa (KD _ _) ?_);show 7+_+11+_<=_;exact L2 [_,_] (.a (.a (.a (.n 7) V0) (.n 11)) V1) (.n 1000000) 1 V0 (.n 1000) 1 V1 (.n 2001) rfl Qy Qk
  refine GQ (Hv ?y5 ?_)
  case y5=>(refine aa (KD _ _) (aa (KD _ _) ?_);rw[KD];refine aa (KD _ _) ?_);show 7+_+11+_+26<=_;exact L2 [_,_] (.a (.a (.a (.a (.n 7) V0) (.n 11)) V1) (.n 26)) (.n 1000000) 1 V0 (.n 1000) 1 V1 (.n 2001) rfl Qy Qk
  refine G0 ?_
  with_reducible refine G7 ?y6 ?_
  case y6=>(refine aa (KD _ _) (aa (KD _ _) ?_);rw[KD];refine aa (KD _ _) ?_);show 7+_+11+_+26<=_;exact L2 [_,_] (.a (.a (.a (.a (.n 7) V0) (.n 11)) V1) (.n 26)) (.n 1000000) 1 V0 (.n 1000) 1 V1 (.n 2001) rfl Qy Qk
  intro t5
  with_reducible refine bE.mk _ t5 rfl ⟨⟨Il fun i hi=>Q8 i (by rw[GX,KG] at hi;exact hi),?_⟩,rfl⟩
  rw[Me]
section
variable{c:Fx}{E:X8}{m:X7}{n pre post:X6}{J:ad Value}{U:ad Unit}{env Yl:Env}
theorem H1(e:nsIn (ao w.params) mainGlobals x=some none)(hv:bootBuiltins x=some v)(hn:x≠"__name__")(h:J v m n)(hg:Yl.globals=mainGlobals:=by rfl)(hb:Yl.builtins=builtinsNs:=by rfl)(hk:Yl.scope.kind=.function:=by rfl)(hx:Yl.kindOf x=some .globalImplicit:=by rfl)(hd:(x==("__debug__":Str))=false:=by decide):
  Tr c E m n (eval (.Name x p) Yl) J:= .mk fun _ l=>by
 obtain⟨_,_,_,t⟩:=l.T;have T:=topRead_of t;exact Name_function_global hk hx (loadGlobal_builtin (env:=Yl) (by refine aa hg ?_;exact T.g.keeps l.F.keep) (mg_none_of l.X T.g e) (by refine aa hb ?_;exact T.b.keeps l.F.keep) ((T.builtins x hn).trans hv) ⟨m,n,l,h⟩) hd
theorem HZ{y:Str}{xp p:Pos}{e:X9}{id:String}(hf:∀ J:ad Value,J (.builtin id) m n->Tr c E m n (eval (.Name y xp) env) J)(h:Tr c E m n (eval e env) (kT c E (fun v=>call (.builtin id) [v]) J))
  (he:starEach [e] env=[(false,eval e env)]:=by rfl):Tr c E m n (eval (.Call (.Name y xp) [e] [] p) env) J:= .mk fun s l=>
 LC rfl (am (hf (fun v m' n'=>v=.builtin id/\m'=m/\n'=n) ⟨rfl,rfl,rfl⟩ s l) fun _ s' _ _ l' hv=>by
  obtain⟨e1,e2,e3⟩:=hv;subst e1 e2 e3;exact N9 (Lo (up (h s' l') fun _ s1 hv=>LA (by obtain⟨_,_,l1,q⟩:=hv;exact q s1 l1)) he) he)
theorem Iv{y:Str}{xp p:Pos}{e:X9}{T:String}(hf:∀ J:ad Value,J (.type T) m n->Tr c E m n (eval (.Name y xp) env) J)(h:Tr c E m n (eval e env) (kT c E (fun v=>call (.type T) [v]) J))
  (he:starEach [e] env=(false,eval e env)::starEach [] env:=by rfl):Tr c E m n (eval (.Call (.Name y xp) [e] [] p) env) J:= .mk fun s l=>
 LC rfl (am (hf (fun v m' n'=>v=.type T/\m'=m/\n'=n) ⟨rfl,rfl,rfl⟩ s l) fun _ s' _ _ l' hv=>by
  obtain⟨e1,e2,e3⟩:=hv;subst e1 e2 e3;exact callWith_type1 (Lo (up (h s' l') fun _ s1 hv=>LA (by obtain⟨_,_,l1,q⟩:=hv;exact q s1 l1)) he) he)
theorem Ka(hn:n=pre++(a,o)::post)(hd:o.data=.cell X5)(h:∀ o',o'.data=.cell (some v)->U () m (pre++(a,o')::post))(hc:Yl.cells.lookup x=some a:=by rfl)(hk:Yl.scope.kind=.function:=by rfl)(hx:Yl.kindOf x=some .cell:=by rfl):
  Tr c E m n (assign (.Name x p) Yl v) U:= .mk fun s l=>by
 have Ud:=e9 pre hn l.D;obtain⟨own,rest,e,hg,h1,h2⟩:=Ud.split;subst hn;have Rl:=l.N (a,o) (KB _ (.head _));refine Oq (wpAny_storeName_cell hk hx hc ⟨o,Rl.1,hd⟩ fun h' hv hs=>?_);obtain⟨o',Ru,Ug⟩:=hv;have N2:News c.h₀ c.L h' (own++(a,o')::rest):=(e▸l.N).setAt h1 h2 hs Ru;rw[←hg] at N2;exact⟨m,_,l.to ⟨l.F.ns.sameBut hs (MH Rl.2.1),fun b ob e=>(hs.2 b (fun q=>by rw[q,Rl.2.2] at e;cases e)).trans (l.F.keep b ob e),l.F.above⟩ N2 l.D.set l.G rfl,h o' Ug⟩
def df(wa:aF)(t:Nat->Tok)(Yi:Value)(seen done:Bool)(n cd:Nat)(init:az)(al:Nat)(Ym:List Pr)(cl:Nat)(po:Obj):X6:=
 [(wa.W,instObj 150 wa.D),(wa.D,dictOf (aE wa t Yi seen done) n),(wa.decl,lO (init.refs++[Value.ref al]) cd),(al,lO (Ym.map Pr.val) cl),(wa.YD,po)]
abbrev ah(u tg:Str):Str:=Ye "{"++u++Ye "}"++tg
structure iB(u tg:Str):Prop where
 ul:u.length<=1000
 tl:tg.length<=1000
 q1:(Txt.slice (ah u tg) none (some 1)==Ye "{")=true
 q2:Txt.rsplitMax (Txt.slice (ah u tg) (some 1) none) (Ye "}") 1=[u,tg]
 q3:(Txt.slice (ah u tg) (some 1) none).length<=3000
structure zB(ns:az)(pm:List UP):Prop where
 YE:bL pm
 dk:bk (ns.flat.map Pr.up) pm
 pl:pm.length<=60
 cap:∀ x∈ns,x.2.1.length<=1000
 len:ns.flat.length<=1000
inductive BM(wa:aF)(t:Nat->Tok)(Yi:Value)(seen done:Bool)(n cd:Nat)(init:az)(al:Nat)(Ym:List Pr)(pm:List UP)(u tg:Str):Value->X6->Prop
 |mk (a3:Nat) (x:Str) (t1 t2 t3:Tok) (T5 new:List Pr) (YG:X6) (Sp:Nat) (Qi:Obj) (UC:List UP):aM (init.flat.map Pr.up) (Ym.map Pr.up,pm) u=(x,(T5.map Pr.up,UC))->gv Qi UC->T5=Ym++new->YG=new.map Pr.ent->
  BM wa t Yi seen done n cd init al Ym pm u tg (.ref a3) ((a3,ip (.str (x++Ye ":"++tg) t1) (.str tg t2) (.str u t3) 0)::(df wa t Yi seen done n cd init al T5 Sp Qi++YG))
theorem zB.inj(h:zB (init++[(al,Ym,cl)]) pm)(hp:p∈(init++[(al,Ym,cl)]:az).flat)(hq:q∈(init++[(al,Ym,cl)]:az).flat)(e:p.pre=q.pre):p.YC=q.YC:=
 h.dk.inj h.YE h.pl (KW (f:=Pr.up) hp) (KW (f:=Pr.up) hq) e
theorem pJ{init:az}{al cl:Nat}{Ym:List Pr}{pm:List UP}{u:Str}:
  aM (init.flat.map Pr.up) (Ym.map Pr.up,pm) u=match (init++[(al,Ym,cl)]:az).preOf u with
   |some x=>(x,(Ym.map Pr.up,pm))
   |none=>match b9 pm u with
    |some x=>(x,(Ym.map Pr.up++[(u,x)],pm))
    |none=>(cH pm,(Ym.map Pr.up++[(u,cH pm)],pm++[(u,cH pm)])):=by
 exact aa (IA _ _) (aa (cy _ _ _ _) (aa KP rfl))
variable{B:ad Bool}{K:ad (Value×Yb)}
theorem Ks(h:J (.bool true) m n):Tr c E m n (compareOp .Is .none .none) J:= .mk fun _ l=>is_none ⟨m,n,l,h⟩
theorem HJ(e:b=b')(h:B b' m n):Tr c E m n (truthy (.bool b)) B:=e▸F9 h
theorem Ko(e:nsIn (ao w.params) mainGlobals x=some none)(hv:bootBuiltins x=some (.type "set"))(hn:x≠"__name__")(h:∀ (D:Nat) so,so.SetObjOf (PySem.strKind PR w) (fun _=>false) 0->J (.ref D) m ((D,so)::n))
  (hx:c.env.kindOf x=some .globalImplicit:=by rfl) (hd:(x==("__debug__":Str))=false:=by decide):Tr c E m n (eval (.Call (.Name x px) [] [] p) c.env) J:= .mk fun s l=>
 LC rfl (am (HK (J:=fun v m' n'=>v=.type "set"/\m'=m/\n'=n) e hv hn ⟨rfl,rfl,rfl⟩ hx hd s l) fun _ s' _ _ l' ⟨e1,e2,e3⟩=>by
  subst e1 e2 e3;exact callWith_type0 (newSet_N l'.F l'.N fun h' led F' N'=>⟨_,_,l'.to F' N' (l'.D.fresh fun p hp=>KQ (l'.N p hp).1) l'.G rfl,h _ _ (setObjOf_fresh led)⟩))
theorem JF(hm:(D,so)∈n)(hS:so.SetObjOf (PySem.strKind PR w) S k)(hz:k<=1000)(h:J (.bool (!S x)) m n):Tr c E m n (compareOp .NotIn (.str x t) (.ref D)) J:= .mk fun _ l=>
 wpAny_notInSet_of (NH _ _ _ _) rfl (hS.setOf (l.N _ hm).1 (by unfold scanBound;exact L1 [_] (.a V0 W1) (.n 4096) 1 V0 (.n 1000) rfl hz)) ⟨m,n,l.tok,h⟩
theorem JW(hm:(D,so)∈n)(hS:so.SetObjOf (PySem.strKind PR w) S k)(hz:k<=1000)(h:K (.builtin "set.add",[.ref D]) m n):Tr c E m n (getMethod (.ref D) "add" pl) K:= .mk fun _ l=>
 getMethod_set_add (hS.setOf (l.N _ hm).1 (by unfold scanBound;exact L1 [_] (.a V0 W1) (.n 4096) 1 V0 (.n 1000) rfl hz)) ⟨m,n,l,h⟩
theorem J6(hn:n=pre++(D,so)::post)(hS:so.SetObjOf (PySem.strKind PR w) S k)(hz:k<=1000)(h:∀ SN,SN.SetObjOf (PySem.strKind PR w) (fun y=>S y||decide (y=x)) (if S x then k else k+1)->J .none m (pre++(D,SN)::post)):
  Tr c E m n (call (.builtin "set.add") [.ref D, .str x t]) J:= .mk fun s l=>by
 obtain⟨own,rest,e,hg,h1,h2⟩:=(e9 pre hn l.D).split;subst hn;exact add_sl1 l.F (e▸l.N) h1 h2 hS (by unfold scanBound;exact L1 [_] (.a (.a V0 W1) W1) (.n 4096) 1 V0 (.n 1000) rfl hz) (NH _ _ _ _) rfl fun _ SN F' N' S'=>⟨_,_,l.to F' (by refine aa (hg _) ?_;exact N') l.D.set l.G rfl,h SN S'⟩
theorem JA(hm:(d,ob)∈n)(hd:ob.IsDictOf (PySem.strKind PR w) PP)(lo:(d==sysModules)=false)(hb:(valueAt PP x).isSome=b)(h:J (.bool b) m n):Tr c E m n (compareOp .In (.str x t) (.ref d)) J:= .mk fun _ l=>
 kda_in l.N hm hd lo (NH _ _ _ _) b hb ⟨m,n,l.tok,h⟩
theorem Kj(hm:(d,ob)∈n)(hd:ob.IsDictOf (PySem.strKind PR w) PP)(lo:(d==sysModules)=false)(hz:PP.length<=1000)(h:∀ t,J (.int PP.length t) m n):Tr c E m n (call (.builtin "len") [.ref d]) J:= .mk fun _ l=>
 kda_len l.N hm hd lo (bd hz) ⟨m,n,l.tok,h _⟩
theorem Jy(hi:i.natAbs.log2<1920)(h:∀ t',J (.str (Ye (toString i)) t') m n):Tr c E m n (formatField (.int i t) Str.empty) J:= .mk fun _ l=>
 PyProof.Rows.formatField_int_small hi ⟨m,n,l.tok,h _⟩
theorem Kx(hv:m x=some (.str y t))(hy:y.length<=10000)(h:Tr c E m n (joinParts y ps) J)(hx:c.env.kindOf x=some .local:=by rfl)(hd:(x==("__debug__":Str))=false:=by decide):
  Tr c E m n (joinParts Str.empty (eval (.FormattedValue (.Name x px) (-1) none p) c.env::ps)) J:=H2 hv hy (by refine aa (Me _) ?_;exact bd hy) (by refine aa (Me _) ?_;exact h) hx hd
theorem IE(hx:m x=some (.str a t))(hy:m y=some (.str b u))(ha:a.length<=1000)(hb:b.length<=1000)(h:∀ t,J (.str (a++Ye ":"++b) t) m n)
  (kx:c.env.kindOf x=some .local:=by rfl) (dx:(x==("__debug__":Str))=false:=by decide) (ky:c.env.kindOf y=some .local:=by rfl) (dy:(y==("__debug__":Str))=false:=by decide):
  Tr c E m n (eval (.JoinedStr [.FormattedValue (.Name x p1) (-1) none p2, .Constant (.str (Ye ":")) k p3, .FormattedValue (.Name y p4) (-1) none p5] p6) c.env) J:=by
 have h1:(a++Ye ":").length<=1001:=by refine aa (KD _ _) ?_;show a.length+1<=1001;exact AK ha
 have h2:(a++Ye ":"++b).length<=2001:=by refine aa (KD _ _) ?_;exact L2 [_,_] (.a V1 V0) (.n 2001) 1 V0 (.n 1000) 1 V1 (.n 1001) rfl hb h1
 exact Hf (Kx hx (bd ha) (Hv (bd h1) (GQ (H2 hy (bd hb) (bd h2) (G0 (G7 (bd h2) h)) ky dy))) kx dx)
end
section
variable(a:aF)(t:Nat->Tok)(Yi:Value)(seen done:Bool)
theorem AA:dR "_rewrite_prefixes" (aE a t Yi seen done) (.bool true):=⟨by k_is,by k_is,⟨_,by k_is,by k_is⟩,by k_get,by k_handed⟩
theorem ia:dR "_prefix_map" (aE a t Yi seen done) (.ref a.YD):=⟨by k_is,by k_is,⟨_,by k_is,by k_is⟩,by k_get,by k_handed⟩
end
structure j7(W S:Nat)(u tg:Str)(tu tt:Tok)(m:X7):Prop where
 self:m (Ye "self")=some (.ref W)
 seen:m (Ye "prefixes_seen")=some (.ref S)
 YC:m (Ye "uri")=some (.str u tu)
 tag:m (Ye "tag")=some (.str tg tt)
inductive zz(W S:Nat)(u tg:Str)(tu tt:Tok)(ns:az)(P4:X6)(j:Nat):X7->X6->Prop
 |mk {m:X7} (so:Obj) (k:Nat):k<=j->so.SetObjOf (PySem.strKind PR w) (fY ns j) k->j7 W S u tg tu tt m->(∀ i,i<j->∀ p,ns.flat[i]?=some p->p.YC≠u)->zz W S u tg tu tt ns P4 j m ((S,so)::P4)
inductive zA(wa:aF)(t:Nat->Tok)(Yi:Value)(seen done:Bool)(n cd:Nat)(init:az)(al cl:Nat)(Ym:List Pr)(pm:List UP)(S:Nat)(u tg:Str)(tu tt:Tok):Flow->X7->X6->Prop
 |mk {m:X7} (x:Str) (tx:Tok) (Qi:Obj) (UC:List UP):m (Ye "prefix")=some (.str x tx)->j7 wa.W S u tg tu tt m->x.length<=1000->gv Qi UC->aM (init.flat.map Pr.up) (Ym.map Pr.up,pm) u=(x,(Ym.map Pr.up++[(u,x)],UC))->zA wa t Yi seen done n cd init al cl Ym pm S u tg tu tt .next m (df wa t Yi seen done n cd init al Ym cl Qi)
theorem I8(p:Pr)(hn:n=pre++(D,lO (Ym.map Pr.val) k)::post)(hz:Ym.length<=1000)(h:J .none m (pre++(D,lO ((Ym++[p]).map Pr.val) (k+1))::post)):
  Tr c E m n (call (.builtin "list.append") [.ref D, .ref p.a]) J:=Gs hn (by refine aa (KG _) ?_;exact bd hz) (by rw[KP] at h;exact h)
namespace QNk
def Q(wa:aF)(t:Nat->Tok)(Yi:Value)(seen done:Bool)(n cd:Nat)(init:az)(al cl:Nat)(Ym:List Pr)(pm:List UP)(po:Obj)(u tg:Str)(tk:Tok):Prop:=∀ (Qt:(wa.YD==sysModules)=false) (Yy:gv po pm) (hQ:zB (init++[(al,Ym,cl)]) pm) (hN:iB u tg),iz 4 90 ⟨[.ref wa.W, .str (ah u tg) tk],[]⟩ (df wa t Yi seen done n cd init al Ym cl po) (init.lists++(init++[(al,Ym,cl)]:az).flat.map Pr.ent) (BM wa t Yi seen done n cd init al Ym pm u tg) eT
def P_(y:(((aF×(Nat->Tok))×Value×Bool)×(Bool×Nat)×Nat×az)×((Nat×Nat)×(List Pr)×(List UP))×(Obj×Str)×Str×Tok):Prop:=Q y.1.1.1.1 y.1.1.1.2 y.1.1.2.1 y.1.1.2.2 y.1.2.1.1 y.1.2.1.2 y.1.2.2.1 y.1.2.2.2 y.2.1.1.1 y.2.1.1.2 y.2.1.2.1 y.2.1.2.2 y.2.2.1.1 y.2.2.1.2 y.2.2.2.1 y.2.2.2.2
def y_:(((aF×(Nat->Tok))×Value×Bool)×(Bool×Nat)×Nat×az)×((Nat×Nat)×(List Pr)×(List UP))×(Obj×Str)×Str×Tok:=pk (cE (cE (cE (cE ja inferInstance) inferInstance) inferInstance) inferInstance) P_
def wa:aF:=y_.1.1.1.1
def t:Nat->Tok:=y_.1.1.1.2
def Yi:Value:=y_.1.1.2.1
def seen:Bool:=y_.1.1.2.2
def done:Bool:=y_.1.2.1.1
def n:Nat:=y_.1.2.1.2
def cd:Nat:=y_.1.2.2.1
def init:az:=y_.1.2.2.2
def al:Nat:=y_.2.1.1.1
def cl:Nat:=y_.2.1.1.2
def Ym:List Pr:=y_.2.1.2.1
def pm:List UP:=y_.2.1.2.2
def po:Obj:=y_.2.2.1.1
def u:Str:=y_.2.2.1.2
def tg:Str:=y_.2.2.2.1
def tk:Tok:=y_.2.2.2.2
theorem go:Q wa t Yi seen done n cd init al cl Ym pm po u tg tk:=by
 intro Qt Yy hQ hN;refine' HU (binds:=[(Ye "self", .ref wa.W),(Ye "qname", .str (ah u tg) tk),(Ye "uri", .none)]) (by k_is) (by k_is) (by exact fun s X=>binds_K X rfl (by k_is) rfl rfl rfl) (by exact ba rfl) (by rfl) (by rfl) (by rfl) (by decide) (by exact fun _ _ h=>h.elim) ?_;intro A₀ base dp un gd L outer h₀ os g₀ c E K hE QR hK hR hM;have Uu:(ah u tg).length<=100000:=by refine aa (KD _ _) (aa (KD _ _) (aa (KD _ _) ?_));show 1+_+1+_<=_;have:=hN.ul;have:=hN.tl;lia
 refine Gk (Gb (FY rfl (Gw (Ks (F9 (Io (Hb (Gb (HO (FY rfl ⟨_,_,rfl,?z1,fun t1=>Gc fun t2=>IH (HJ hN.q1 (Ga (HH (FY rfl ⟨_,_,rfl,?z2,fun t3=>HM PySem.F.slot_str_rsplit PySem.F.type_str_rsplit (Gq (F0 (Gc fun t4=>F0 (F7 fun t5=>FZ (Jg rfl ?z3 hN.q2 fun D tu tt=>Ih (.head _) (Go (Go (GW (Ls _ _) (F6 ?_)))))))))⟩))))⟩))))))))))
 case z1=>exact Uu
 case z2=>exact Uu
 case z3=>exact KH hN.q3 (by decide)
 refine Gf (Ko (by k_is) (by boot_fast) (by decide) fun S so hso=>?_);show Tr _ _ _ _ _ _;generalize hm:(fun y=>if y=Ye "prefixes_seen" then some (Value.ref S) else _)=m1;revert m1;refine wrap ?_;intro m1 hm;have l1:j7 wa.W S u tg tu tt m1:=ae hm ⟨rfl,rfl,rfl,rfl⟩;clear hm;generalize SD:df wa t Yi seen done n cd init al Ym cl po=P4;revert P4;refine wrap ?_;intro P4 SD;have f1:(wa.W,instObj 150 wa.D)∈P4:=ae SD (.head _);have f2:(wa.D,dictOf (aE wa t Yi seen done) n)∈P4:=ae SD aK;have f3:∀ p∈[(wa.decl,lO (init.refs++[Value.ref al]) cd),(al,lO (Ym.map Pr.val) cl)],p∈P4:=ae SD (fun p hp=>dj (KA [_] hp));refine Gu (Iu (ns:=init++[(al,Ym,cl)]) (cL:=cd) (zz wa.W S u tg tu tt (init++[(al,Ym,cl)]) P4) QR (by show 1<=3;decide) l1.self (.tail _ f1) (.tail _ f2) (pf wa t Yi seen done) (fU wa t Yi seen done) hQ.cap ?sh ?hA (.mk so 0 (K1 _) hso l1 fun i h=>absurd h (LM _)) ?turn ?last)
 case hA=>
  rintro j m' n' ⟨SN,k,hk,hS,lk,Q8⟩
  rfl
 case sh=>
  rintro j m' n' ⟨SN,k,hk,hS,lk,Q8⟩ z hz;have e:bI wa.decl cd (init++[(al,Ym,cl)]:az).stk=(wa.decl,lO (init.refs++[Value.ref al]) cd)::(init.lists++[(al,lO (Ym.map Pr.val) cl)]):=by
   refine aa (HV _ _ _) ?_;unfold az.refs az.lists;exact aa KP (aa KP rfl)
  rw[e] at hz;rcases KI.mp hz with rfl|hz
  ·exact .inl (.tail _ (f3 _ (.head _)))
  ·rcases KM.mp hz with hz|hz
   ·exact .inr (hR z (KA _ hz))
   ·exact .inl (.tail _ (f3 _ (.tail _ hz)))
 case turn=>
  rintro j q own m' n' K2 g hq ⟨SN,k,hk,hS,lk,Q8⟩ hnx hrt;have hqm:q∈(init++[(al,Ym,cl)]:az).flat:=LL hq;have hj:j<1000:=Lb (Ll.mp hq).1 hQ.len;obtain⟨ql1,ql2,ql3⟩:=hQ.dk.len hQ.YE hQ.pl (KW (f:=Pr.up) hqm);refine H6 (hR q.ent (KB _ (KW hqm))) (Go (Go ?_));show Tr _ _ _ _ _ _;generalize hm:(fun y=>if y=Ye "prefix" then some (Value.str q.pre q.tp) else _)=m2;revert m2;refine wrap ?_;intro m2 hm;have p2:m2 (Ye "prefix")=some (.str q.pre q.tp):=ae hm rfl;have u2:m2 (Ye "u")=some (.str q.YC q.tu):=ae hm rfl;have l2:j7 wa.W S u tg tu tt m2:=ae hm ⟨lk.self,lk.seen,lk.YC,lk.tag⟩;clear hm lk;refine Gk (GR (Gy (Gb (FY u2 (FY l2.YC (IH ?_))))))
  by_cases hqu:q.YC=u
  ·have hb:(!fY (init++[(al,Ym,cl)]) j q.pre)=true:=by
    unfold fY
    (refine aa (Bool.not_eq_true' _) ?_;rw[List.any_eq_false])
    intro p hp he;obtain⟨i,hi,hp'⟩:=LQ.mp hp;rw[Ms] at hi;rw[List.getElem_take] at hp';exact Q8 i (mL hi) p (by refine ae hp' ?_;exact KL _) ((hQ.inj (hp'▸M8 _) hqm (eq_of_beq he)).trans hqu)
   refine HJ (Mz.mpr hqu) (Gy (Gb (FY p2 (FY l2.seen (JF (KB _ (.head _)) hS (by exact L2 [_,_] V0 (.n 1000) 1 V0 V1 1 (.a V1 W1) (.n 1000) rfl hk hj) (HJ hb (He (GM (GA (F0 (Hb (Gn (FY p2 (HF ql3 (KH ql2 (by decide)) (IE p2 l2.tag ql2 hN.tl fun t6=>F0 (FY l2.tag (F0 (FY l2.YC (FZ ⟨by show 3<=1000;decide,fun a3=>hrt _ _ _ (hK _ _ _ _ (.cons_cons _ ((Ls _ _).trans (Lz _ _))) ?fin)⟩)))))))))))))))))))
   case fin=>
    refine ae SD ?_;exact .mk a3 q.pre t6 tt tu Ym [] [] cl po pm (by exact aa (pJ (al:=al) (cl:=cl)) (aa (Ik hq hqu Q8) rfl)) Yy (Lj _).symm rfl
  ·refine HJ (LN.mpr hqu) (F6 (Ge (Ga (FY l2.seen (JW (KB _ (.head _)) hS (by exact L2 [_,_] V0 (.n 1000) 1 V0 V1 1 (.a V1 W1) (.n 1000) rfl hk hj) (Gq (F0 (FY p2 (FZ (J6 (pre:=own) rfl hS (by exact L2 [_,_] V0 (.n 1000) 1 V0 V1 1 (.a V1 W1) (.n 1000) rfl hk hj) fun so2 QN=>F6 (hnx _ _ (.mk so2 (if fY (init++[(al,Ym,cl)]) j q.pre then k else k+1) ?k1 ?S2 l2 ?no))))))))))))
   case k1=>split<;>lia
   case S2=>exact(qz hq).symm▸QN
   case no=>
    intro i hi p hp;rcases N8.mp hi with h|rfl
    ·exact Q8 i h p hp
    ·rw[hq] at hp
     cases hp;exact hqu
 case last=>
  rintro m' n' ⟨SN,k,hk,hS,lk,Q8⟩;have VF:(init++[(al,Ym,cl)]:az).preOf u=none:=Ij fun i hi=>Q8 i (by rw[GX,KG] at hi;exact hi);clear Q8 hS;refine GW (Ls _ _) ?_;obtain⟨PP,hd,Vw⟩:=Yy;have Tk:PP.length<=60:=aa Vw.len hQ.pl;have f4:(wa.YD,po)∈P4:=ae SD iu;have QW:Ym.length<=1000:=hQ.cap _ (KB _ (.head _));have Sk:=pJ (init:=init) (al:=al) (cl:=cl) (Ym:=Ym) (pm:=pm) (u:=u);rw[VF] at Sk;refine Gk (Gn (Gr (AA wa t Yi seen done) lk.self f1 f2 (F9 (Gu (GH (K₁:=zA wa t Yi seen done n cd init al cl Ym pm S u tg tu tt) (fun T7 Sc=>?choice) ?rest)))))
  case choice=>
   refine GV (Gb (FY lk.YC (Gr (ia wa t Yi seen done) lk.self f1 f2 ?_)));rcases Vw.get (u:=u) with⟨hg,hv⟩|⟨x,tx,hg,hv⟩
   ·rw[hg] at Sk
    have Qu:(cH pm).length<=1000:=(nR pm.length (by have:=hQ.pl;exact L1 [_] (.a V0 W1) (.n 64) 1 V0 (.n 60) rfl this)).1;have hpn:Ye "n"++Ye (toString (PP.length:Int))=cH pm:=aa Vw.len rfl;refine JA (b:=false) f4 hd Qt (congrArg _ hv) (F9 (Id (Hf (Hv ?z0 (GQ (G4 (HY (HZ (fun J h=>HK (by k_is) (by boot_fast) (by decide) h) (Gr (ia wa t Yi seen done) lk.self f1 f2 (Kj f4 hd Qt (bd Tk) fun t1=>Jy ?log fun t2=>⟨_,_,rfl,?z1,?_⟩))))))))))
    case z0=>exact KC rfl
    case log=>exact Lx (Nat.log2_le_self _) (by refine aa (Int.natAbs_natCast _) ?_;exact L1 [_] (.a V0 W1) (.n 1920) 1 V0 (.n 60) rfl Tk)
    case z1=>refine aa (Me _) (aa hpn ?_);exact bd Qu
    refine aa (Me _) (aa hpn ?_);refine G0 (G7 (bd Qu) fun t3=>Go ?_);show Tr _ _ _ _ _ _;generalize hm:(fun y=>if y=Ye "prefix" then some (Value.str (cH pm) t3) else _)=m3;revert m3;refine wrap ?_;intro m3 hm;have l3:j7 wa.W S u tg tu tt m3:=ae hm ⟨lk.self,lk.seen,lk.YC,lk.tag⟩;have p3:m3 (Ye "prefix")=some (.str (cH pm) t3):=ae hm rfl;clear hm lk;refine Ix (Gr (ia wa t Yi seen done) l3.self f1 f2 (FY l3.YC (Iw (pre:=[_,_,_,_]) SD.symm hd (bd Tk) fun Qi Ug=>F6 (Sc _ _ _ (.mk (cH pm) t3 Qi _ p3 l3 Qu ⟨_,Ug,Vw.put hg⟩ Sk)))))
   ·rw[hg] at Sk
    have Tu:x.length<=1000:=(hQ.YE.pre hQ.pl _ (iQ hg)).1;refine JA (b:=true) f4 hd Qt (congrArg _ hv) (F9 (Gf (Gg (Gr (ia wa t Yi seen done) lk.self f1 f2 (FY lk.YC (Hn f4 hd hv (F6 ?_)))))));exact ae SD (Sc _ _ _ (.mk x tx po _ rfl ⟨lk.self,lk.seen,lk.YC,lk.tag⟩ Tu ⟨_,hd,Vw⟩ Sk))
  case rest=>
   rintro fl m4 n4 ⟨x,tx,Qi,UC,p4,l4,Tu,UG,hqs'⟩;refine Ge (Ga (Gg (Gr (fU wa t Yi seen done) l4.self (.head _) aK (G6 fun t7=>Ho cq (Gj ir Lq Li (Gq (F0 (GA (F0 (FY l4.YC (F0 (FY p4 (FZ ⟨by show 2<=1000;decide,fun a2=>FZ (I8 (pre:=[_,_,_,_]) (Pr.mk a2 u x tu tx) rfl QW ?_)⟩)))))))))))));refine Gd (List.perm_append_singleton (a2,bm (.str u tu) (.str x tx) 0) (df wa t Yi seen done n cd init al (Ym++[Pr.mk a2 u x tu tx]) (cl+1) Qi)).symm ?_;refine GM (GA (F0 (IE p4 l4.tag Tu hN.tl fun t8=>F0 (FY l4.tag (F0 (FY l4.YC (FZ ⟨by show 3<=1000;decide,fun a3=>hK _ _ _ _ (List.Sublist.refl _) (.mk a3 x t8 tt tu (Ym++[Pr.mk a2 u x tu tx]) [Pr.mk a2 u x tu tx] _ (cl+1) Qi UC ?fin UG rfl rfl)⟩)))))))
   case fin=>refine aa hqs' (aa KP ?_);rfl
end QNk
theorem oG(wa:aF)(t:Nat->Tok)(Yi:Value)(seen done:Bool)(n cd:Nat)(init:az)(al cl:Nat)(Ym:List Pr)(pm:List UP)(po:Obj)(u tg:Str)(tk:Tok):QNk.Q wa t Yi seen done n cd init al cl Ym pm po u tg tk:=cU (P:=QNk.P_) QNk.go ((((wa,t),(Yi,seen)),((done,n),(cd,init))),(((al,cl),(Ym,pm)),((po,u),(tg,tk))))
section
variable{c:Fx}{E:X8}{m:X7}{n:X6}{J:ad Value}{K:ad Flow}{r:Yd}
abbrev dT(k:Nat)(f:Addr)(args:Yb)(P:Value->Prop):Prop:=bF k f args [] (fun v n'=>P v/\n'=[]) eT
theorem dT.to(d:dT k f args P)(hk:k<=c.k)(h:∀ v,P v->J v m n):Tr c E m n (call (.ref f) args) J:=
 bF.to d c E m n J hk (fun v n' hv=>by refine aa hv.2 ?_;exact h v hv.1) dC.no
theorem I7(h:∀ E',Tr c E' m n (execs body c.env) (Sq c E orelse c.env K)):Tr c E m n (exec (.Try body (h₀::hs) orelse [] p) c.env) K:= .mk fun s l=>
 wpAny_Try_except (am (h _ s l) fun f s' m' n' l' q=>by cases f<;>first|exact Tr.go q s' l'|exact⟨m',n',l',q⟩)
theorem GP(hv:m x=some (.str y t))(hn:¬(!(Builtin.Str.occurrences y z 0 y.length 1).isEmpty)=true)(h:Tr c E m n (execs r c.env) K)
  (hx:c.env.kindOf x=some .local:=by rfl) (hd:(x==("__debug__":Str))=false:=by decide):Tr c E m n (execs (.If (.Compare (.Constant (.str z) k p) [.In] [.Name x p2] p3) b [] p4::r) c.env) K:=
 Gk (Gb (Gc fun _=>FY hv (.mk fun _ l=>in_str ⟨m,n,l,HJ (Bool.eq_false_iff.mpr hn) (F6 h)⟩) hx hd))
theorem tL(x:Str)(tk:Tok)(hp:bo x):dT 2 161 [.str x tk] (fc x):=by
 refine' GG (binds:=[(Ye "text", .str x tk)]) (by k_is) (by k_is) (by exact fun s X=>LJ rfl) (by exact ba rfl) (by rfl) (by rfl) (by rfl) (by decide) (by exact fun _ _ h=>h.elim) ?_;intro A₀ base dp un gd L outer h₀ os g₀ c E K hE hK;exact Gu (I7 fun _=>GP rfl hp.c38 (GP rfl hp.c60 (GP rfl hp.c62 (GP rfl hp.c13 (GM (FY rfl (hK _ _ _ _ (My _) ⟨fc.of rfl,rfl⟩)))))))
theorem zI(x:Str)(tk:Tok)(hp:bo x):dT 2 168 [.str x tk] (fc x):=by
 refine' GG (binds:=[(Ye "text", .str x tk)]) (by k_is) (by k_is) (by exact fun s X=>LJ rfl) (by exact ba rfl) (by rfl) (by rfl) (by rfl) (by decide) (by exact fun _ _ h=>h.elim) ?_;intro A₀ base dp un gd L outer h₀ os g₀ c E K hE hK;exact Gu (I7 fun _=>GP rfl hp.c38 (GP rfl hp.c60 (GP rfl hp.c34 (GP rfl hp.c9 (GP rfl hp.c10 (GP rfl hp.c13 (GM (FY rfl (hK _ _ _ _ (My _) ⟨fc.of rfl,rfl⟩)))))))))
theorem cC{α:Type}{l:List α}{j:Nat}{x:α}(h:l[j]?=some x):l.take (j+1)=l.take j++[x]:=aa Mn (aa h rfl)
abbrev Qn:=Str×Str×Tok
def Qn.val(x:Qn):Value:= .str (ah x.1 x.2.1) x.2.2
def nP(tail:X6)(kv:Str×Value)(x:Qn)(pre:Str):Prop:=
 y7 (fun(a3:Nat) (t1 t2 t3:Tok)=>kv=(ah x.1 x.2.1, .ref a3)) (fun a3 t1 t2 t3=>(a3,ip (.str (pre++Ye ":"++x.2.1) t1) (.str x.2.1 t2) (.str x.1 t3) 0)∈tail)
theorem nP.mono(h:nP tail kv x pre)(hs:∀ p∈tail,p∈XK):nP XK kv x pre:=let ⟨a3,t1,t2,t3,e,m⟩:=h;⟨a3,t1,t2,t3,e,hs _ m⟩
structure vV(Yo:List UP)(pm:List UP)(qs:List Qn)(j:Nat)(dO:Obj)(Ym:List Pr)(po:Obj)(g:X6)(PP:List (Str×Value)):Prop where
 dict:dO.IsDictOf (PySem.strKind PR w) PP
 keys:PP.map (·.1)=(qs.take j).map fun x=>ah x.1 x.2.1
 tups:∀ (i:Nat) (kv:Str×Value) (x:Qn) (pre:Str),PP[i]?=some kv->qs[i]?=some x->(aH Yo ([],pm) ((qs.take j).map (·.1))).1[i]?=some pre->nP g kv x pre
 cur:Ym.map Pr.up=(aH Yo ([],pm) ((qs.take j).map (·.1))).2.1
 YE:gv po (aH Yo ([],pm) ((qs.take j).map (·.1))).2.2
 YG:∀ p∈Ym,p.ent∈g
variable{pre post:X6}{U:ad Unit}{Yl:Env}
theorem JT(h:Tr c E m n (eval kx Yl) (kE c E vx Yl (fun a b=>dictSet D a b) U)):Tr c E m n (gI kx vx D Yl) U:= .mk fun s l=>
 Kz (am (h s l) fun _ s' _ _ l' q=>Kz (Lk (am (q s' l') fun _ s' _ _ l' q=>Kz (LG (Lk (q s' l'))))))
theorem Kc(hn:n=pre++(D,ob)::post)(hd:ob.IsDictOf (PySem.strKind PR w) PP)(hz:PP.length<=1000)(h:∀ Tv,Tv.IsDictOf (PySem.strKind PR w) (PySem.stored PP x v)->U () m (pre++(D,Tv)::post)):Tr c E m n (dictSet D (.str x t) v) U:= .mk fun _ l=>
 qk l.F l.N (e9 pre hn l.D) hd hz (NH _ _ _ _) fun _ o' F' N' d'=>⟨_,_,l.to F' N' (hn▸l.D).set l.G rfl,h o' d'⟩
theorem Js(hc:Yl.cells.lookup x=some a)(hm:(a,o)∈n)(ho:o.data=.cell (some (.ref q)))(hq:(q,methodObj (.ref f) self)∈n)(hf:fnIn (ao w.params) f=true)
  (h:Tr c E m n (eval e Yl) fun v m' n'=>(q,methodObj (.ref f) self)∈n'/\Tr c E m' n' (call (.ref q) [v]) J) (hk:Yl.scope.kind=.function) (hx:Yl.kindOf x=some .cell) (hd:(x==("__debug__":Str))=false) (he:starEach [e] Yl=[(false,eval e Yl)]:=by rfl):
  Tr c E m n (eval (.Call (.Name x xp) [e] [] p) Yl) J:= .mk fun s l=>
 LC rfl (qP l.N hk hx hc hm ho (callWith_M (K:=ao w.params) l.X l.N hq hf (Lo (am (h s l) fun _ s1 _ _ l1 ⟨q1,q2⟩=>LA ⟨methP l1.N q1 (l1.X.keeps l1.F.keep),q2 s1 l1⟩) he) he) hd)
theorem IC{q:Addr}{f:Addr}{self:Value}{pos:Yb}{k:Nat}{rest read:X6}{P:Value->X6->Prop}(d:iz k f ⟨self::pos,[]⟩ n read P eT)(hq:(q,methodObj (.ref f) self)∈n++rest)(hk:k<=c.k)(hr:∀ p∈read,p∈rest)(hJ:∀ v n',P v n'->J v m (n'++rest)):
  Tr c E m (n++rest) (call (.ref q) pos) J:= .mk fun s l=>call_meth l.N hq (d c E m rest J hk hr hJ dC.no s l)
def xS(c:Fx)(PO kx vx:X9)(scope:Scope)(cls:List (Str×Addr))(vs:Yb)(m':X7)(Inv:Nat->Nat->X6->Prop):Prop:=
 ∀ (E':X8) (D j:Nat) (v:Value) (I C:Nat) (oI oC:Obj) (mC:X7) (PY:X6) (Y:ad Unit),vs[j]?=some v->Inv D j PY->bw oC mC->(∀ Qq RL n₂ Vf,bw Qq RL->Inv D (j+1) n₂->Vf.Perm ((I,oI)::(C,Qq)::n₂)->Y () m' Vf)->
  Tr c E' m' ((I,oI)::(C,oC)::PY) (assign PO (compEnvC scope cls C c.env) v) (kT c E' (fun _=>gI kx vx D (compEnvC scope cls C c.env)) Y)
theorem JR
  (Ry:swapsWith (.DictComp kx vx [⟨PO,iter,[],0⟩] scope pos) (some (.Name y py)) Rb.line c.env=Pure.pure true) (Ql:closureFor scope c.env=Pure.pure cls) (P6:scope.kind=.function) (P9:∀ x∈scope.names,x.2=.local->scope.names.lookup x.1=some .local) (Vq:∀ y∈scope.names,y.2≠ .cell)
  (hy:c.env.kindOf y=some .local) (hp:(c.env.scope.kind== .class||(c.env.scope.kind== .module&&c.env.locals !=c.env.globals))=false) (R0:∀ x,foldedSetIterable iter c.env x=Pure.pure x)
  (h:Tr c E m n (eval iter c.env) fun v m' n'=>vN (fun(l cL:Nat) (vs:Yb) (Inv:Nat->Nat->X6->Prop)=>v=.ref l) (fun l cL vs Inv=>∀ D j PY,Inv D j PY->(l,lO vs cL)∈PY) (fun l cL vs _=>(l,lO vs cL)∈n') (fun _ _ vs Inv=>∀ D,Inv D 0 ((D,({cls:= .type "dict",data:= .dict #[]}:Obj))::n')) (fun _ _ vs Inv=>xS c PO kx vx scope cls vs m' Inv)
   (fun _ _ vs Inv=>∀ D PY,Inv D vs.length PY->Tr c E (fun z=>if z=y then some (.ref D) else m' z) PY (execs r c.env) K)):
  Tr c E m n (execs (.Assign [.Name y py] (.DictComp kx vx [⟨PO,iter,[],0⟩] scope pos) Rb::r) c.env) K:= .mk fun s l=>by
 refine Lr (j0 (h₀:=c.h₀) Ry Ql P6 P9 Vq hy rfl hp (am (h s l) fun v s' m' n' l' hv=>?_) R0);obtain⟨lL,cL,vs,Inv,rfl,hm,P7,h0,turn,last⟩:=hv;refine ng (ol:=lO vs cL) l'.F l'.N rfl rfl (.inl P7) ?_;intro I oI h1 hI hlI F1 N1 PW hst Qh;refine⟨I,_,_,_,_,fun _=>lO vs cL,oI,m',_,rfl,pQ rfl I lL (K8 hlI) _,hst,F1,N1,?_⟩;intro D C TJ hCe hID hLD hhD Vy;have hCI:∀ oI oC:Obj,ax ((I,oI)::(C,oC)::(D,({cls:= .type "dict",data:= .dict #[]}:Obj))::n'):=fun oI oC=>by
  have d1:ax ((D,({cls:= .type "dict",data:= .dict #[]}:Obj))::n'):=l'.D.fresh Vy;refine ax.cons.mpr ⟨fun x hx=>?_,d1.fresh fun x hx=>?_⟩
  ·rcases KI.mp hx with rfl|hx
   ·show C≠I;lia
   ·rcases KI.mp hx with rfl|hx
    ·show D≠I;lia
    ·exact K8 (PW x hx)
  ·rcases KI.mp hx with rfl|hx
   ·show D<C;exact L3 [_,_,_] (.a V0 W1) V2 3 V0 V1 3 V1 V0 1 (.a V0 W1) V2 rfl (eL TJ) (eG TJ) (eG hCe)
   ·have:=Vy x hx
    show x.1<C;exact Mh this (by exact L3 [_,_,_] (.a V0 W1) V2 3 V0 V1 3 V1 V0 1 (.a V0 W1) V2 rfl (eL TJ) (eG TJ) (eG hCe))
 refine⟨fun g _=>c.Gp g,fun j mC PY=>(∀ oI oC:Obj,ax ((I,oI)::(C,oC)::PY))/\Inv D j PY,⟨hCI,h0 D⟩,l'.G,?_,?_,?_⟩
 ·rintro j mC PY ⟨Q7,hv⟩
  refine⟨fun p Yy=>⟨(Q7 oI oI).ne (.tail _ Yy),(Q7 oI oI).tail.ne Yy⟩,fun b hb QJ=> .inl ?_⟩;have:b=lL:=by simpa [QJ] using hb
  subst this;exact hm D j PY hv
 ·rintro j v mC oC PY Q3 h2 g2 d2 So hj hv xC ⟨Q7,hiv⟩ hg F2 N2
  rw[Ou] at hv;intro E';refine am (turn E' D j v I C Q3 oC mC PY (fun _ WD Vf=>WD=m'/\eg (fun Qq RL n₂=>bw Qq RL) (fun _ _ n₂=>Inv D (j+1) n₂) (fun Qq _ n₂=>Vf.Perm ((I,Q3)::(C,Qq)::n₂))) hv hiv xC (fun Qq RL n₂ Vf a b d=>⟨rfl,Qq,RL,n₂,a,b,d⟩) _ (l'.to F2 N2 (Q7 Q3 oC) hg rfl)) fun _ s3 m2 n2 l2 q=>?_;refine tT (kG (am (q s3 l2) fun _ s4 m3 n3 l3 h4=>?_));obtain⟨rfl,Qq,RL,n₂,SR,hiv',QC⟩:=h4;have l4:=l3.perm QC;exact i8 l4.F l4.N SR ⟨fun _ _=>l4.D,hiv'⟩ l4.G (l4.O.trans l'.O.symm)
 ·rintro h2 g2 d2 So mC oC PY xC ⟨Q7,hiv⟩ hg F2 N2
  intro h' tk F3 N3;have hz:vs.toArray.size=vs.length:=Lw;rw[hz] at hiv;exact last D PY hiv _ (l'.to F3 N3 (Q7 oI oI).tail.tail hg rfl)
theorem yC(a I C D p q l:α)(Q e g T:List α):(((a::(Q++e))++[I,C])++D::(p::q::(g++l::T))).Perm (I::C::D::(Q++p::q::((a::(e++g))++l::T))):=by
 refine aa (KS _ _ _) ?_;refine(Lf.trans ((Lf.trans ((Lf.trans (List.Perm.cons _ ?_)).cons _)).cons _));refine aa Md (aa (KS _ _ _) ?_);refine Lf.symm.trans (Lu _ ?_);have e1:(a::(e++g))++l::T=(a::e)++(g++l::T):=congrArg (List.cons a) (KS e g (l::T));exact aa e1 (Ld (a::e) [p,q] (g++l::T))
inductive BL(wa:aF)(t:Nat->Tok)(Yi:Value)(seen done:Bool)(cnt cd:Nat)(init:az)(al:Nat)(pm:List UP)(qs:List Qn)(z1 z2:Addr×Obj)(W:X6)(D j:Nat)(PY:X6):Prop
 |mk (dO:Obj) (Ym:List Pr) (Rr:Nat) (Qi:Obj) (gr:X6) (PP:List (Str×Value)):PY.Perm ((D,dO)::(df wa t Yi seen done cnt cd init al Ym Rr Qi++z1::z2::(gr++W)))->vV (init.flat.map Pr.up) pm qs j dO Ym Qi gr PP->BL wa t Yi seen done cnt cd init al pm qs z1 z2 W D j PY
theorem JG{wa:aF}{t:Nat->Tok}{Yi:Value}{seen done:Bool}{cnt cd cl:Nat}{init:az}{al:Nat}{pm:List UP}{po:Obj}{iter:X9}{scope:Scope}{xn xq y:Str}{p1 p2 p3 p4 p5 pos Rb py:Pos}{qs:List Qn}
  (Ry:swapsWith (.DictComp (.Name xn p2) (.Call (.Name xq p3) [.Name xn p4] [] p5) [⟨.Name xn p1,iter,[],0⟩] scope pos) (some (.Name y py)) Rb.line c.env=Pure.pure true) {cls:List (Str×Addr)}
  (Ql:closureFor scope c.env=Pure.pure cls) (P6:scope.kind=.function) (P9:∀ x∈scope.names,x.2=.local->scope.names.lookup x.1=some .local) (Vq:∀ y∈scope.names,y.2≠ .cell)
  (hy:c.env.kindOf y=some .local) (hp:(c.env.scope.kind== .class||(c.env.scope.kind== .module&&c.env.locals !=c.env.globals))=false) (R0:∀ x,foldedSetIterable iter c.env x=Pure.pure x)
  (hk:4<=c.k) (Qt:(wa.YD==sysModules)=false)
  (hkf:∀ C,(compEnvC scope cls C c.env).scope.kind=.function) (RT:∀ C,(compEnvC scope cls C c.env).kindOf xn=some .local) (hxq:∀ C,(compEnvC scope cls C c.env).kindOf xq=some .cell) (hcls:∀ C,((compEnvC scope cls C c.env).scope.kind== .class||((compEnvC scope cls C c.env).scope.kind== .module&&(compEnvC scope cls C c.env).locals !=(compEnvC scope cls C c.env).globals))=false) (SZ:(xn==("__debug__":Str))=false) (hdq:(xq==("__debug__":Str))=false)
  (Yy:gv po pm) (ok:bL pm) (UN:bk (init.flat.map Pr.up) pm) (Qy:pm.length<=40) (Ti:∀ x∈init,x.2.1.length<=1000) (Qk:init.flat.length<=900) (Uu:qs.length<=10) (hq:∀ x∈qs,iB x.1 x.2.1) (hqn:(qs.map fun x=>ah x.1 x.2.1).Nodup)
  (h:Tr c E m n (eval iter c.env) fun v m' n'=>zq (fun(l cL cp q:Nat) (Sf:Obj) (Sz:X6)=>v=.ref l) (fun _ _ cp _ _ _=>cls.lookup xq=some cp) (fun _ _ _ q Sf _=>Sf.data=.cell (some (.ref q))) (fun _ _ _ _ _ Sz=>(∀ p∈init.lists++init.flat.map Pr.ent,p∈Sz)) (fun l cL cp q Sf Sz=>n'.Perm (df wa t Yi seen done cnt cd init al [] cl po++(cp,Sf)::(q,methodObj (.ref 90) (.ref wa.W))::(l,lO (qs.map Qn.val) cL)::Sz)) (fun l cL cp q Sf Sz=>∀ (D:Nat) (dO:Obj) (Ym:List Pr) (Rr:Nat) (Qi:Obj) (g:X6) (PP:List (Str×Value)),vV (init.flat.map Pr.up) pm qs qs.length dO Ym Qi g PP->
    Tr c E (fun z=>if z=y then some (.ref D) else m' z) ((D,dO)::(df wa t Yi seen done cnt cd init al Ym Rr Qi++(cp,Sf)::(q,methodObj (.ref 90) (.ref wa.W))::(g++(l,lO (qs.map Qn.val) cL)::Sz))) (execs r c.env) K)):
  Tr c E m n (execs (.Assign [.Name y py] (.DictComp (.Name xn p2) (.Call (.Name xq p3) [.Name xn p4] [] p5) [⟨.Name xn p1,iter,[],0⟩] scope pos) Rb::r) c.env) K:=by
 refine JR Ry Ql P6 P9 Vq hy hp R0 (Tr.mono h fun v m' n' hv=>?_);obtain⟨l,cL,cp,q,Sf,Sz,rfl,hcq,P8,Xc,QC,k⟩:=hv;refine⟨l,cL,qs.map Qn.val,BL wa t Yi seen done cnt cd init al pm qs (cp,Sf) (q,methodObj (.ref 90) (.ref wa.W)) ((l,lO (qs.map Qn.val) cL)::Sz),rfl,?_,?_,?_,?_,?_⟩
 ·rintro D j PY ⟨dO,Ym,Rr,Qi,gr,PP,hp,-⟩
  exact hp.symm.subset (.tail _ (KB _ (dj (KB _ (.head _)))))
 ·exact QC.symm.subset (KB _ cq)
 ·exact fun D=> .mk _ [] cl po [] [] (QC.cons _) ⟨Internal.dict0,rfl,fun i kv x pre h=>(by simp at h),rfl,Yy,fun p hp=>(nomatch hp)⟩
 ·rintro E' D j v I C oI oC mC PY Y hv ⟨dO,Ym,Rr,Qi,gr,PP,hp,Sd⟩ xC hY
  rw[LX] at hv;obtain⟨x,hx,rfl⟩:=Lv.mp hv;have Vu:j<qs.length:=(Ll.mp hx).1;have hxm:x∈qs:=LL hx;have RD:∀ u∈(qs.take j).map (·.1),u.length<=1000:=fun u hu=>by
   obtain⟨z,hz,rfl⟩:=KK.mp hu;exact(hq z (List.mem_of_mem_take hz)).ul
  obtain⟨r1,r2,r3,r4⟩:=jc (Yo:=init.flat.map Pr.up) ((qs.take j).map (·.1)) ([],pm) ok (by refine aa (Oi _) ?_;exact UN) RD;have TU:((qs.take j).map (·.1)).length<=9:=by refine aa (KG _) (aa Ms ?_);exact mB Uu Vu
  rw[←Sd.cur] at r2 r4;rw[KG] at r4;simp only[List.length_nil] at r4;dsimp only at r3;have Tk:PP.length=j:=by
   have:=congrArg List.length Sd.keys;rw[KG,KG,Ms] at this;exact mE Vu this
  have okj:zB (init++[(al,Ym,Rr)]) (aH (init.flat.map Pr.up) ([],pm) ((qs.take j).map (·.1))).2.2:=by
   refine⟨r1,by refine aa (cy _ _ _ _) (aa KP ?_);exact r2,by exact L3 [_,_,_] V1 (.n 60) 1 V0 (.n 40) 1 V1 (.a V0 V2) 1 V2 (.n 9) rfl Qy r3 TU,fun y hy=>?_,by refine aa (cy _ _ _ _) (aa KJ ?_);exact L3 [_,_,_] (.a V1 V0) (.n 1000) 1 V0 (.n 900) 1 V1 (.a W0 V2) 1 V2 (.n 9) rfl Qk r4 TU⟩;rcases KM.mp hy with hy|hy
   ·exact Ti y hy
   ·rw[KF] at hy
    subst hy;show Ym.length<=1000;exact L2 [_,_] V0 (.n 1000) 1 V0 (.a W0 V1) 1 V1 (.n 9) rfl r4 TU
  have est:(Ym.map Pr.up,(aH (init.flat.map Pr.up) ([],pm) ((qs.take j).map (·.1))).2.2)=(aH (init.flat.map Pr.up) ([],pm) ((qs.take j).map (·.1))).2:=by exact aa Sd.cur rfl
  have ets:(qs.take (j+1)).map (·.1)=(qs.take j).map (·.1)++[x.1]:=aa (cC hx) (aa KP rfl);have Rm:(PP.any fun kv=>decide (kv.1=ah x.1 x.2.1))=false:=by
   rw[List.any_eq_false];intro kv Vw e;have e:=Nu e;have h1:kv.1∈(qs.take j).map fun x=>ah x.1 x.2.1:=ae Sd.keys (KW Vw);obtain⟨i,hi,S1⟩:=LQ.mp h1;rw[KG,Ms] at hi;rw[N7,List.getElem_take] at S1;have h2:=(NU.mp hqn) i j (by refine aa (KG _) ?_;exact mR hi) (by refine aa (KG _) ?_;exact Vu) (mL hi);rw[N7,N7] at h2;refine h2 (S1.trans (e.trans ?_));exact aa ((Ll.mp hx).2) rfl
  refine Gd ((hp.cons _).cons _) (GB (pre:=[_]) rfl xC (fun Q9 Qz=>JT (Gh aK Qz (KZ rfl) ?_ rfl (hkf C) (RT C) SZ)) rfl (RT C) (hcls C));refine Js (o:=Sf) hcq (cZ (KB _ (.head _))) P8 (cZ (KB _ (.tail _ (.head _)))) (by rfl) (Gh aK Qz (KZ rfl) ⟨cZ (KB _ (.tail _ (.head _))),?_⟩ rfl (hkf C) (RT C) SZ) (hkf C) (hxq C) hdq;refine Gd (Ld [_,_,_] (df wa t Yi seen done cnt cd init al Ym Rr Qi) _) (IC (oG wa t Yi seen done cnt cd init al Rr Ym _ Qi x.1 x.2.1 x.2.2 Qt Sd.YE okj (hq x hxm)) (KB _ iu) hk (fun p Yy=>?rd) fun v PS hP=>?_)
  case rd=>
   refine xJ ?_;rcases KM.mp Yy with Yy|Yy
   ·exact KB _ (.tail _ (Xc p (KA _ Yy)))
   ·rw[cy,KP] at Yy
    rcases KM.mp Yy with Yy|Yy
    ·obtain⟨y,hy,rfl⟩:=KK.mp Yy
     exact KA _ (Sd.YG y hy)
    ·exact KB _ (.tail _ (Xc p (KB _ Yy)))
  obtain⟨a3,x',t1,t2,t3,T5,new,YG,cl3,po3,pm3,Sk,hpm3,hn,he⟩:=hP;rw[est] at Sk;refine Kc (pre:=_++[_,_]) (KS _ [_,_] _).symm Sd.dict (by exact L3 [_,_,_] V2 (.n 1000) 1 V0 (.n 10) 1 (.a V1 W1) V0 1 V2 V1 rfl Uu Vu (eL Tk)) fun dO' Ug=>hY Q9 _ _ _ Qz ⟨dO',T5,cl3,po3,(a3,_)::(YG++gr),PP++[(ah x.1 x.2.1, .ref a3)], .refl _,?_⟩ (yC _ _ _ _ _ _ _ _ _ _ _);unfold PySem.stored at Ug;rw[Rm] at Ug;refine⟨Ug,?_,?_,?_,?_,?_⟩
  ·refine aa (cC hx) (aa KP (aa KP (aa Sd.keys ?_)));rfl
  ·intro i kv x₂ pre hi U7 QY
   rw[ets,gm] at QY;rcases M6 i j with q1|q1
   ·rw[Mu (by lia)] at hi
    rw[Mu (by refine aa (fW _ _ _) (aa (KG _) (aa Ms ?_));exact mI q1 Vu)] at QY;exact(Sd.tups i kv x₂ pre hi U7 QY).mono fun p hp=> .tail _ (KB _ hp)
   ·rw[LU (q7 q1 Tk)] at hi
    rw[LU (by refine aa (fW _ _ _) (aa (KG _) (aa Ms ?_));exact Ej q1)] at QY;have hi0:i-PP.length=0:=by
     rcases Oj (i-PP.length) with q2|q2
     ·exact q2
     ·rw[NP (by simp;exact BS q2)] at hi;cases hi
    have hij:i=j:=aS (L3 [_,_,_,_] V2 V1 1 V0 V1 1 V3 W0 1 V2 (.a V3 V0) rfl (eL Tk) (eL hi0) (Ov.mp (K1 _))) (by exact L3 [_,_,_] V1 V2 3 V0 V1 3 V1 V0 1 V1 V2 rfl (eL Tk) (eG Tk) q1);subst hij;rw[hi0] at hi;have hl0:i-(aH (init.flat.map Pr.up) ([],pm) ((qs.take i).map (·.1))).1.length=0:=by refine aa (fW _ _ _) (aa (KG _) (aa Ms ?_));exact El Vu
    rw[hl0] at QY;rw[hx] at U7
    cases U7
    cases hi
    cases QY;exact aa Sk ⟨a3,t1,t2,t3,rfl, .head _⟩
  ·exact aa ets (aa (gm _ _ _ _) (aa Sk rfl))
  ·refine aa ets (aa (gm _ _ _ _) (aa Sk ?_));exact hpm3
  ·intro p Yy
   rw[hn] at Yy;rcases KM.mp Yy with Yy|Yy
   ·exact .tail _ (KB _ (Sd.YG p Yy))
   ·exact .tail _ (KA _ (he▸KW Yy))
 ·rintro D PY ⟨dO,Ym,Rr,Qi,gr,PP,hp,Sd⟩
  rw[KG] at Sd;exact Gd hp (k D dO Ym Rr Qi gr PP Sd)
def j5(qual:Str)(pos:Pos)(ps:Array Value)(ex:X6):Prop:=
 ps=#[]/\ex=[]∨vM (fun c' oc vs t=>ps=#[rawInt pos.line,rawInt pos.col, .ref c']) (fun c' oc _ _=>ex=[(c',oc)]) (fun _ oc vs _=>oc.data=.fields vs) (fun _ _ vs t=>vs[1]?=some (.str qual t))
theorem Kt(hC:∀ h,(ao w.params).In h->CodeHd h cc P)(Q1:c.ccd=.ref cc)(hn:n=pre++(P,tabObj ps)::(ex++post))(hx:j5 (c.env.qual++"<lambda>") pos ps ex)
  (hdef:defaultsOf params c.env=([],[])) (QW:closureFor scope c.env=Pure.pure [])
  (h:∀ (f c':Nat) oc vs t T8 pm,oc.data=.fields vs->vs[1]?=some (.str (c.env.qual++"<lambda>") t)->J (.ref f) m ((f,kla_obj "<lambda>" (c.env.qual++"<lambda>") params body scope [] pm c' T8)::(pre++(P,tabObj #[rawInt pos.line,rawInt pos.col, .ref c'])::((c',oc)::post)))):
  Tr c E m n (eval (.Lambda params body scope pos) c.env) J:= .mk fun s l=>by
 obtain⟨Qv,mg,mb,t⟩:=l.T;refine kla_eval hdef ?_;rcases hx with⟨rfl,rfl⟩|⟨c',oc,vs,t',rfl,rfl,hd,hv⟩
 ·rw[Oi] at hn
  refine kla_nest l.F l.N t (hC _ l.X) Q1 (e9 pre hn l.D) trivial rfl QW fun f c' oc vs t T8 h' tk F' N' hd hv PW SY=>?_;have D1:ax ((c',oc)::(pre++(P,tabObj (#[]++#[rawInt pos.line,rawInt pos.col, .ref c']))::post)):=(hn▸l.D).set.fresh fun p hp=>by
   rcases KM.mp hp with hp|hp
   ·exact PW p (hn▸KA _ hp)
   ·rcases KI.mp hp with rfl|hp
    ·exact PW (P,tabObj #[]) (hn▸KB _ (.head _))
    ·exact PW p (hn▸KB _ (.tail _ hp))
  have pm:=(Lf (l₁:=pre) (a:=(c',oc)) (l₂:=(P,tabObj (#[]++#[rawInt pos.line,rawInt pos.col, .ref c']))::post)).symm.trans ((List.Perm.swap (P,tabObj (#[]++#[rawInt pos.line,rawInt pos.col, .ref c'])) (c',oc) post).append_left pre);have N2:=gk N' (pm.cons _);have D2:ax ((f,kla_obj "<lambda>" (c.env.qual++"<lambda>") params body scope [] ((mg "__name__").getD .none) c' T8)::_):=(D1.perm pm).fresh fun p hp=>by
   rcases KI.mp (pm.mem_iff.mpr hp) with rfl|hp
   ·exact SY
   ·refine Mh ?_ SY
    rcases KM.mp hp with hp|hp
    ·exact PW p (hn▸KA _ hp)
    ·rcases KI.mp hp with rfl|hp
     ·exact PW (P,tabObj #[]) (hn▸KB _ (.head _))
     ·exact PW p (hn▸KB _ (.tail _ hp))
  exact⟨m,_,l.to F' N2 D2 l.G rfl,h f c' oc vs t T8 _ hd hv⟩
 ·rw[List.singleton_append] at hn
  refine kla_hit (ps:=#[rawInt pos.line,rawInt pos.col, .ref c']) (c':=c') l.F l.N t (hC _ l.X) Q1 (hn▸KB _ (.head _)) trivial (by simp[codeAmong,rawInt]) QW fun f T8 h' tk F' N' PW=>?_;subst hn;exact⟨m,_,l.to F' N' (l.D.fresh PW) l.G rfl,h f c' oc vs t' T8 _ hd hv⟩
theorem wE{s:Shared}{f c':Nat}{oc:Obj}{vs:Array Value}{t:Tok}{T8 pm:Value}{qual:Str}{pa pn pt pk1 pk2 pc:Pos}{scope:Scope}{x a b:Str}{tx:Tok}{g:Array GenState}{os:OsState}{k1 k2:Nat}(l:ay c s m n)(hk:1<=c.k)
  (hf:(f,kla_obj "<lambda>" qual {posonlyargs:=[],args:=[{arg:=Ye "n",annotation:=none,pos:=pa}],vararg:=none,kwonlyargs:=[],kw_defaults:=[],kwarg:=none,defaults:=[]} (.Call (.Attribute (.Name (Ye "n") pn) (Ye "split") pt) [.Constant (.str (Ye "}")) k1 pk1, .Constant (.int 1) k2 pk2] [] pc) scope [] pm c' T8)∈n) (hc:(c',oc)∈n) (hd:oc.data=.fields vs) (hv:vs[1]?=some (.str qual t))
  (hs:scope.names.lookup (Ye "n")=some .local) (Rx:∀ x∈scope.names,x.2≠ .cell) (TS:scope.kind=.function) (Tp:scope.isCoroutine=false) (hs5:scope.isGenerator=false) (hs6:∀ L ff cc,(envX qual scope L ff cc []).kindOf (Ye "n")=some .local)
  (he:∀ L',∃ pl,eval (.Call (.Attribute (.Name (Ye "n") pn) (Ye "split") pt) [.Constant (.str (Ye "}")) k1 pk1, .Constant (.int 1) k2 pk2] [] pc) (envX qual scope L' f (.ref c') [])=(do
   let ov←eval (.Name (Ye "n") pn) (envX qual scope L' f (.ref c') [])
   standAt pt.atName
   let (f1,first)←holding [ov] (getMethod ov (Ye "split") pl)
   callWith pc f1 first (backTo pc (starEach [.Constant (.str (Ye "}")) k1 pk1, .Constant (.int 1) k2 pk2] (envX qual scope L' f (.ref c') []))) []))
  (hx:Txt.splitMax x (Ye "}") 1=[a,b]) (hz:x.length<=100000):cQ c.A.in1.in1 c.h₀ c.L m n (.ref f) (.str x tx) a b g os:=by
 intro h tk d own F N;obtain⟨_,_,_,T⟩:=l.T;have hdp:=l.hd;refine OK (kla_code l.B F l.X N T rfl rfl l.hk (KB _ hf) ⟨c',oc,vs,t,rfl,(N _ (KB _ hc)).1,hd,hv⟩ (by show c.dp<recursionLimit;exact iS hdp) (binds:=[(Ye "n", .str x tx)]) rfl (fun y hy=>by refine aa (KF.mp hy) ?_;exact hs) ?_ Tp hs5 TS Rx);intro g' L' h₁ FG F' N' B' X' T';obtain⟨pl,he⟩:=he L';refine MethodCall_ (pl:=pl) (he:=he) (nameX_L F' (v:= .str x tx) (by simp) ?_ TS (hs6 _ _ _) (by decide));refine Pd (typeIs_str _ _ _) Pi PySem.F.slot_str_split PySem.F.type_str_split (fun a e=>by cases e) ?_;refine N9 (Lo (wpAny_Constant_str (Lo (Nh (LA ?_)))));refine splitN2A (t:=tx) F' N' (by decide+kernel) (by decide) (fun ls h2 So e1 e2 e3 e4 F2 N2=>?_) (by refine aa Lh ?_;exact L1 [_] (.a V0 (.n 2)) (.n 16777216) 1 V0 (.n 100000) rfl hz);rw[hx] at e1;obtain⟨t1,u1,rfl⟩:=pV e1;refine leaveK_ F2 N2 fun F3 N3=>r9 F3 N3 fun p hp=>?_;exact K8 (KQ (N' p hp).1)
def rJ(x:Qn):Prop:=Txt.splitMax (ah x.1 x.2.1) (Ye "}") 1=[Ye "{"++x.1,x.2.1]
def dI(x1:Qn):Option Qn->List Qn
 |none=>[x1]
 |some x2=>if bG (Ye "{"++x2.1) x2.2.1 (Ye "{"++x1.1) x1.2.1 then[x2,x1] else[x1,x2]
def setOf(x1:Qn):Option Qn->List (Str×Value)
 |none=>[(ah x1.1 x1.2.1,x1.val)]
 |some x2=>[(ah x1.1 x1.2.1,x1.val),(ah x2.1 x2.2.1,x2.val)]
theorem o8(h:x∈dI x1 y2):x=x1∨y2=some x:=by
 cases y2 with
 |none=>exact .inl (KF.mp h)
 |some x2=>
  unfold dI at h;dsimp only at h
  split at h<;>(rcases KI.mp h with rfl|h<;>first|exact .inl rfl|exact .inr rfl|(refine aa (KF.mp h) ?_;first|exact .inl rfl|exact .inr rfl))
theorem wX:(dI x1 y2).length<=10:=by
 cases y2 with
 |none=>exact KC rfl
 |some x2=>
  unfold dI;dsimp only
  split<;>exact KC rfl
theorem ve:(dI x1 y2).length<=2:=by
 cases y2 with
 |none=>exact KC rfl
 |some x2=>
  unfold dI;dsimp only
  split<;>exact KC rfl
theorem wY:x1∈dI x1 y2:=by
 cases y2 with
 |none=>exact .head _
 |some x2=>
  unfold dI;dsimp only
  split
  ·exact aK
  ·exact .head _
theorem lJ(h:∀ x,y2=some x->ah x.1 x.2.1≠ah x1.1 x1.2.1):((dI x1 y2).map fun x=>ah x.1 x.2.1).Nodup:=by
 cases y2 with
 |none=>exact Ly.mpr ⟨LH,MF⟩
 |some x2=>
  have:=h x2 rfl;unfold dI;dsimp only
  split
  ·exact Ly.mpr ⟨fun q=>this (KF.mp q),Ly.mpr ⟨LH,MF⟩⟩
  ·exact Ly.mpr ⟨fun q=>this (KF.mp q).symm,Ly.mpr ⟨LH,MF⟩⟩
theorem vc(h:iB u tg):(ah u tg).length<=100000:=by
 have:=h.ul;have:=h.tl;simp only[ah,KD,uH,Ah]
 lia
variable{env:Env}
theorem be{α:Type}(pre:List α){x:α}{post r:List α}(h:(pre++post).Perm r):(pre++x::post).Perm (x::r):=Lf.trans (h.cons x)
theorem Jt{x kn:Str}{xp p kp:Pos}{e kv:X9}{id:String}(e0:nsIn (ao w.params) mainGlobals x=some none)(hv:bootBuiltins x=some (.builtin id))(hn:x≠"__name__")
  (h:Tr c E m n (eval e c.env) (kE c E kv c.env (fun a f=>call (.builtin id) [a] [(kn,f)]) J)) (he:starEach [e] c.env=[(false,eval e c.env)]:=by rfl) (hx:c.env.kindOf x=some .globalImplicit:=by rfl) (hd:(x==("__debug__":Str))=false:=by decide):Tr c E m n (eval (.Call (.Name x xp) [e] [⟨some kn,kv,kp⟩] p) c.env) J:= .mk fun s l=>
 wpAny_Call_Name_kw (am (HK (J:=fun v m' n'=>v=.builtin id/\m'=m/\n'=n) e0 hv hn ⟨rfl,rfl,rfl⟩ hx hd s l) fun _ s' _ _ l' ⟨e1,e2,e3⟩=>by
  subst e1 e2 e3;exact callWith_kw (Lo (am (h s' l') fun a s1 _ _ l1 q=>LA (kws_cons (am (q s1 l1) fun f s2 _ _ l2 q=>kws_nil (q s2 l2)))) he) (by refine aa he ?_;rfl) (by refine aa he ?_;rfl))
theorem Ji(hm:(D,so)∈n)(hS:bb (PySem.strKind PR w) so [(k,v)])(turn:∀ s,ay c s m n->cQ c.A.in1.in1 c.h₀ c.L m n (.ref f) v x y s.gens s.os)(h:∀ (a:Nat) cL,J (.ref a) m ((a,listOf #[v] cL)::n)):Tr c E m n (call (.builtin "sorted") [.ref D] [(Ye "key", .ref f)]) J:= .mk fun s l=>
 qA rfl l.F l.N hm hS (fun x=>ksk_t1 _ _) (turn s l) fun a h' tk d cL F' N' lt=>⟨m,_,l.to F' N' (l.D.fresh lt) l.G rfl,h a cL⟩
theorem Jj(hk:1<=c.k)(hm:(D,so)∈n)(hS:bb (PySem.strKind PR w) so [(k1,v1),(k2,v2)])(YK:∀ s,ay c s m n->cQ c.A.in1.in1 c.h₀ c.L m n (.ref f) v1 x1 y1 s.gens s.os)(YI:∀ s,ay c s m n->cQ c.A.in1.in1 c.h₀ c.L m n (.ref f) v2 x2 y2 s.gens s.os)(P5:¬(x2=x1/\y2=y1))
  (h:∀ (a:Nat) cL,J (.ref a) m ((a,listOf (bT (bG x2 y2 x1 y1) v1 v2) cL)::n)):Tr c E m n (call (.builtin "sorted") [.ref D] [(Ye "key", .ref f)]) J:= .mk fun s l=>
 qB rfl (by show c.un+1+1<cLine;have:=l.hu;exact L2 [_,_,_] (.a (.a (.a V1 W1) W1) W1) V2 2 W1 V0 1 (.a (.a V1 (.m 20 V0)) W1) V2 rfl hk this) l.F l.N hm hS (fun x=>ksk_t1 _ _) (YK s l) (YI s l) P5 fun a h' tk d cL F' N' lt=>⟨m,_,l.to F' N' (l.D.fresh lt) l.G rfl,h a cL⟩
theorem Jk(hk:1<=c.k)(hm:(D,so)∈n)(hS:bb (PySem.strKind PR w) so (setOf x1 y2))(turn:∀ x,x=x1∨y2=some x->∀ s,ay c s m n->cQ c.A.in1.in1 c.h₀ c.L m n (.ref f) x.val (Ye "{"++x.1) x.2.1 s.gens s.os)
  (P5:∀ x2,y2=some x2->¬(Ye "{"++x2.1=Ye "{"++x1.1/\x2.2.1=x1.2.1)) (h:∀ (a:Nat) cL,J (.ref a) m ((a,lO ((dI x1 y2).map Qn.val) cL)::n)):Tr c E m n (call (.builtin "sorted") [.ref D] [(Ye "key", .ref f)]) J:=by
 cases y2 with
 |none=>exact Ji hm hS (turn x1 (.inl rfl)) h
 |some x2=>
  refine Jj hk hm hS (turn x1 (.inl rfl)) (turn x2 (.inr rfl)) (P5 x2 rfl) fun a cL=>?_;have e:bT (bG (Ye "{"++x2.1) x2.2.1 (Ye "{"++x1.1) x1.2.1) x1.val x2.val=((dI x1 (some x2)).map Qn.val).toArray:=by
   show _=((if bG (Ye "{"++x2.1) x2.2.1 (Ye "{"++x1.1) x1.2.1 then[x2,x1] else[x1,x2]:List Qn).map Qn.val).toArray
   cases bG (Ye "{"++x2.1) x2.2.1 (Ye "{"++x1.1) x1.2.1<;>rfl
  exact aa e (h a cL)
theorem yw{tail:X6}{PP:List (Str×Value)}{qs:List Qn}{Yp:List Str}(hk:PP.map (·.1)=qs.map fun x=>ah x.1 x.2.1)(hl:Yp.length=qs.length)(hn:(qs.map fun x=>ah x.1 x.2.1).Nodup)
  (ht:∀ (i:Nat) (kv:Str×Value) (x:Qn) (pre:Str),PP[i]?=some kv->qs[i]?=some x->Yp[i]?=some pre->nP tail kv x pre) {x:Qn} (hx:x∈qs):
  zn (fun(i a3:Nat) (pre:Str) (t1 t2 t3:Tok)=>qs[i]?=some x) (fun i _ pre _ _ _=>Yp[i]?=some pre) (fun _ a3 _ _ _ _=>valueAt PP (ah x.1 x.2.1)=some (.ref a3)) (fun _ a3 pre t1 t2 t3=>(a3,ip (.str (pre++Ye ":"++x.2.1) t1) (.str x.2.1 t2) (.str x.1 t3) 0)∈tail):=by
 obtain⟨i,hi,he⟩:=LQ.mp hx;have hlk:PP.length=qs.length:=by simpa using congrArg List.length hk
 obtain⟨a3,t1,t2,t3,e,hm⟩:=ht i _ x _ (KL (q1 hi hlk)) (by exact aa (KL hi) (aa he rfl)) (KL (q1 hi hl));refine⟨i,a3,_,t1,t2,t3,by exact aa (KL hi) (aa he rfl),KL (q1 hi hl),valueAt_of_get (i:=i) (by refine aa hk ?_;exact hn) (by exact aa (KL (q1 hi hlk)) (aa e rfl)),hm⟩
theorem lH:∀ (l:List Str) (st:List UP×List UP),bL st.2->bk (st.1++Yo) st.2->(∀ u∈l,u.length<=1000)->∃ more,(aH Yo st l).2.1=st.1++more
 |[],st,_,_,_=>⟨[],(Lj _).symm⟩
 |v::l,(cur,pm),h,d,hu=>by
  obtain⟨a1,a2,_,_,_,more,a6⟩:=ik h d (hu v (.head _));obtain⟨more2,b⟩:=lH l (aM Yo (cur,pm) v).2 a1 a2 fun u h=>hu u (.tail _ h);exact⟨more++more2,by show (aH Yo (aM Yo (cur,pm) v).2 l).2.1=_;exact aa b (aa a6 (aa (KS _ _ _) rfl))⟩
theorem pI:∀ (l:List Str) (st:List UP×List UP),bL st.2->bk (st.1++Yo) st.2->(∀ u∈l,u.length<=1000)->∀ (i:Nat) (u pre:Str),l[i]?=some u->(aH Yo st l).1[i]?=some pre->(u,pre)∈(aH Yo st l).2.1++Yo
 |[],_,_,_,_,i,_,_,h,_=>by simp at h
 |v::l,(cur,pm),h,d,hu,0,u,pre,e1,e2=>by
  obtain⟨a1,a2,_,_,a5,_⟩:=ik h d (hu v (.head _));obtain⟨more,b⟩:=lH l (aM Yo (cur,pm) v).2 a1 a2 fun u h=>hu u (.tail _ h);have e1':v=u:=by simpa using e1
  have e2':(aM Yo (cur,pm) v).1=pre:=by simpa [aH] using e2
  subst e1' e2';show _∈(aH Yo (aM Yo (cur,pm) v).2 l).2.1++Yo;refine aa b ?_;rcases KM.mp a5 with q|q
  ·exact KA _ (KA _ q)
  ·exact KB _ q
 |v::l,(cur,pm),h,d,hu,i+1,u,pre,e1,e2=>by
  obtain⟨a1,a2,_,_,_,_⟩:=ik h d (hu v (.head _));exact pI l (aM Yo (cur,pm) v).2 a1 a2 (fun u h=>hu u (.tail _ h)) i u pre (by simpa using e1) (by simpa [aH] using e2)
variable{α:Type}
end
theorem AJ:∀ {l g:List α},l.Nodup->(∀ p∈l,p∈g)->∃ r,g.Perm (l++r)
 |[],g,_,_=>⟨g, .refl _⟩
 |p::l,g,hn,hs=>by
  obtain⟨s,t,rfl⟩:=List.append_of_mem (hs p (.head _));obtain⟨h1,h2⟩:=Ly.mp hn;obtain⟨r,hr⟩:=AJ (g:=s++t) h2 fun q hq=>by
   rcases KM.mp (hs q (.tail _ hq)) with h|h
   ·exact KA _ h
   ·rcases KI.mp h with rfl|h
    ·exact absurd hq h1
    ·exact KB _ h
  exact⟨r,Lf.trans (hr.cons p)⟩
theorem kI:∀ {Ym:List Pr},((Ym.map Pr.up).map (·.1)).Nodup->(Ym.map Pr.ent).Nodup
 |[],_=>MF
 |p::r,h=>by
  obtain⟨h1,h2⟩:=Ly.mp h;refine Ly.mpr ⟨fun hm=>h1 ?_,kI h2⟩;obtain⟨q,hq,e⟩:=KK.mp hm;have e1:q.YC=p.YC:=by
   have e2:=congrArg (fun x=>x.2.data) e;injection e2 with e3 _
   have e4:=congrArg (fun a:Array Value=>a[0]?) e3;injection (Mr e4)
  exact KK.mpr ⟨q.up,KW hq,e1⟩
theorem bo.Yv(h:bo x)(h':bo y):bo (x++y):=fun c hc=>by
 have e:(x++y).cps.toList=x.cps.toList++y.cps.toList:=by show (x.cps++y.cps).toList=_;simp
 rw[e] at hc;exact(KM.mp hc).elim (h c) (h' c)
theorem yv:∀ i,i<64->∀ c∈(Ye "n"++Ye (toString ((i:Nat):Int))).cps.toList,c≠38/\c≠60/\c≠62/\c≠34/\c≠9/\c≠10/\c≠13:=by decide+kernel
theorem qj:∀ c∈(Ye ":").cps.toList,c≠38/\c≠60/\c≠62/\c≠34/\c≠9/\c≠10/\c≠13:=by decide+kernel
theorem vF:∀ c∈(Ye "xml").cps.toList,c≠38/\c≠60/\c≠62/\c≠34/\c≠9/\c≠10/\c≠13:=by decide+kernel
theorem bk.plain(d:bk l pm)(h:bL pm)(hz:pm.length<=60)(hx:x∈l):bo x.2:=by
 rcases d x hx with q|rfl
 ·obtain⟨i,hi,rfl⟩:=LQ.mp q
  refine aa (h.nm i _ (KL hi)) ?_;exact yv i (by exact L2 [_,_] (.a V1 W1) (.n 64) 1 V0 (.n 60) 1 (.a V1 W1) V0 rfl hz hi)
 ·exact vF
theorem qG{k:Str}{v:Value}:valueAt [(k,v)] k=some v:=by
 unfold valueAt;exact aa (List.find?_cons_of_pos (by simp)) rfl
def dS(u tg:Str)(xn:Str):Option Str->List Str
 |none=>[u]
 |some u2=>if bG (Ye "{"++u2) xn (Ye "{"++u) tg then[u2,u] else[u,u2]
theorem vz{u tg xn u2:Str}{tk t2:Tok}:(dI (u,tg,tk) (some (u2,xn,t2))).map (·.1)=dS u tg xn (some u2):=by
 unfold dI dS;dsimp only
 split<;>rfl
def aX(QM tg:Str)(as:List (Str×Str))(Qw:Option Str)(xn:Str):List Str:=
 (Ye "<"++(QM++Ye ":"++tg))::((if as=[] then[] else[fL as])++(Ye ">"::match Qw with|none=>[]|some p=>[p++Ye ":"++xn]))
section
variable(a:aF)(t:Nat->Tok)(Yi:Value)(seen done:Bool)(cnt:Nat)(t0:Tok)
theorem wW:(putL "_root_seen" (PyData.keyHash w.params "_root_seen") (.str "_root_seen" t0) (.bool true) (aE a t Yi seen done),putN "_root_seen" (aE a t Yi seen done) cnt)=(aE a t Yi true done,cnt):=by kernel_rfl
theorem wV(b:Bool):(putL "_root_done" (PyData.keyHash w.params "_root_done") (.str "_root_done" t0) (.bool b) (aE a t Yi seen done),putN "_root_done" (aE a t Yi seen done) cnt)=(aE a t Yi seen b,cnt):=by kernel_rfl
theorem pG(v:Value):(putL "_pending_start" (PyData.keyHash w.params "_pending_start") (.str "_pending_start" t0) v (aE a t Yi seen done),putN "_pending_start" (aE a t Yi seen done) cnt)=(aE a t v seen done,cnt):=by kernel_rfl
end
section
variable{A:Around}{E:X8}{s:Shared}
theorem wb{id:String}{b:Builtin}{q:Addr}{self:Value}{args:Yb}{Q:X8}{S:PySem.Spec}(hq:s.heap.get? q=some (bf id self))(hp:plainId id=true)(hb:entryFor table id=some b)
  (hc:∀ (Q':Unit->Shared->Prop) (E':X8),Q' () s->wpAny MP A.in1 (checkBoundCall id ⟨self::args,[]⟩) Q' E' s)
  (g:Meets (b ⟨self::args,[]⟩) S) (h:S A (wants Q E) s):wpAny MP A (call (.ref q) args) Q E s:=by
 refine OK (NQ ?_);show wpAny _ _ (callAny (.ref q) _) _ _ _;refine Kz (wpAny_load hq ?_);show wpAny _ A.in1 (checkBoundCall id ⟨self::args,[]⟩>>=fun _=>again (.builtin id ⟨self::args,[]⟩)>>=fun x=>pure x) _ _ _;refine Kz (hc _ _ (Kz (KE (KE ⟨M7 hp _,NQ ?_⟩))));show wpAny _ _ (match entryFor table id with|some b=>b ⟨self::args,[]⟩|none=>unsupported ((withoutEnding? id "#data").getD id)) _ _ s;exact aa hb (aa (LO hp _) (g _ _ A (wants Q E) s h))
theorem rO(D:Addr)(its:Array Value)(n:Nat)(x:Str)(t:Tok)(S:Setting):∃ k,ie (fun _=>some (listOf its n)) S (checkBoundCall "str.join" ⟨[.str x t, .ref D],[]⟩)=some (List.replicate k D,()):=by
 first
 |exact⟨0,by kernel_rfl!⟩
 |exact⟨1,by kernel_rfl!⟩
 |exact⟨2,by kernel_rfl!⟩
 |exact⟨3,by kernel_rfl!⟩
theorem yg(hl:s.heap.get? D=some (listOf #[x,y] k))(hs:s.heap.IsSliceOf sl .none .none .none)
  (h:∀ f:Array Value->Array Value,f #[x,y]=#[]->Q () {s with heap:=s.heap.update D (Obj.mapSeq f)}):wpAny MP A (delItem (.ref D) (.ref sl)) Q E s:=by
 obtain⟨os,Rv,Uf,hds⟩:=id hs;have hT:s.TypeIs (.ref D) "list":=⟨_,hl,rfl⟩;have hTs:s.TypeIs (.ref sl) "slice":=⟨os,Rv,Uf⟩;refine wpAny_delItem_slot hT (by decide) PySem.F.slot_list_delitem (LS PySem.F.slot_list_delitem hT PySem.F.entry_list_delitem ?_ (PySem.F.args_list_delitem_2 _ _));show wpAny _ _ (Builtin.List.listSubscript? (.ref sl)>>=_) _ _ s;refine Kz ?_;unfold Builtin.List.listSubscript?;refine Kz (wpAny_specialOf hTs slice_no_index ?_);refine aa (KZ rfl) ?_;refine KE ?_;show wpAny _ _ (typeOf (.ref sl)>>=_) _ _ s;refine Kz (OA hTs ?_);refine aa (KO (by decide)) ?_;refine aa (listSliceParts_eq _) ?_;refine Kz (Kz (Mg Rv hds (x:= .none) rfl (Kz (wpAny_listPart .none ?_))));refine aa (KO (show¬((rawPart none==rawInt 0)=true) from KR)) ?_;refine Kz (Mg Rv hds (x:= .none) rfl (Kz (wpAny_listPart .none ?_)));refine Kz (Mg Rv hds (x:= .none) rfl (Kz (wpAny_listPart .none (KE ?_))));refine Kz (m:=Builtin.List.listItems (.ref D)) ?_;unfold Builtin.List.listItems;refine Kz (NZ hl rfl (KE ?_));refine Kz (Ni (sliceIndices_raw none none none 2 (by decide)) ?_);refine Kz (MC ?_);refine Kz (Oe hl rfl ?_ (by refine aa Lh ?_;show 2<=16777216;decide) (KH (Mf (congrArg Array.size (show _=(#[]:Array Value) by kernel_rfl))) (K6 _)));refine Kz (wpAny_letGo ?_);exact KE ⟨_,rfl,h _ (by kernel_rfl)⟩
variable{c:Fx}{m:X7}{n pre post:X6}{J:ad Value}{K:ad Flow}{U:ad Unit}{B:ad Bool}{env:Env}{r:Yd}
theorem ax.split(h:ax (pre++(D,o)::post)):(∀ p∈pre,p.1≠D)/\∀ p∈post,p.1≠D:=⟨fun p hp=>h.apart p hp (D,o) (.head _),fun _ hp=>h.right.ne hp⟩
theorem Kd(h:Tr c E m n (eval o env) fun v m n=>vQ (fun D x y pre post k=>v=.ref D) (fun D x y pre post k=>n=pre++(D,listOf #[x,y] k)::post) (fun D _ _ pre post k=>Tr c E m (pre++(D,listOf #[] (k+1))::post) (execs r env) K)):
  Tr c E m n (execs (.Delete [.Subscript o (.Slice none none none ps) pp] pd::r) env) K:= .mk fun s l=>
 Lr (wpAny_Delete (wpAny_deleteEach_cons (wpAny_delete_Subscript (am (h s l) fun v s' m' n' l' ⟨D,x,y,pre,post,k,e1,e2,q⟩=>by
  subst e1 e2;refine wpAny_Slice (KE (KE (KE ?_)));have l2:=l'.push (⟨.type "slice",none, .fields #[.none, .none, .none],#[]⟩:Obj);have hm:=l2.N (D,listOf #[x,y] k) (.tail _ (KB _ (.head _)));refine yg hm.1 (Heap.IsSliceOf.new ..) fun f hf=>wpAny_deleteEach_nil ?_;have hD:=ax.split (pre:=_::pre) l2.D;have N2:=kl_turn f (pre:=(_::pre:X6)) l2.N hD.1 hD.2 hf (by show (0:Nat)≠2;decide);have D2:ax ((_,_)::(pre++(D,listOf #[] (k+1))::post)):=ax.set (pre:=_::pre) l2.D;have F2:=l2.F.change (Lp _ D (Obj.mapSeq f)) hm.2.1 hm.2.2;exact q _ ((ay.to (s':=⟨(s'.heap.push (⟨.type "slice",none, .fields #[.none, .none, .none],#[]⟩:Obj)).update D (Obj.mapSeq f),s'.gens,s'.drawn,s'.toks,s'.os⟩) l2 F2 N2 D2 l2.G rfl).sub (Ls _ _))))))
theorem Jo(h:Tr c E m n (eval oe env) (kT c E (fun x=>PySem.setAttr x y v) U)):Tr c E m n (assign (.Attribute oe y p) env v) U:= .mk fun s l=>by
 refine aa (assign_Attribute _ _ _ _) ?_;refine Kz (Lk (am (h s l) fun _ s' _ _ l' q=>Kz (LG (Kz (Lk (up (q s' l') fun _ s' q=>wpAny_release q))))))
theorem JD{o:X9}{name:Str}{ap p:Pos}{args:List X9}(h:Tr c E m n (eval o env) (kT c E (fun ov=>getAttr ov name true) (kT c E (fun f=>callWith p f [] (backTo p (starEach args env)) []) J)))
  (he:eval (.Call (.Attribute o name ap) args [] p) env=(do
   let ov←eval o env
   standAt ap.atName
   let (f,first)←holding [ov] (do Pure.pure (←getAttr ov name true,[]))
   callWith p f first (backTo p (starEach args env)) []):=by rfl):Tr c E m n (eval (.Call (.Attribute o name ap) args [] p) env) J:= .mk fun s l=>by
 refine aa he ?_;refine Kz (am (h s l) fun _ s' _ _ l' q=>Kz (LG (Kz (Lk (Kz (am (q s' l') fun _ s1 _ _ l1 q1=>KE ?_))))));exact q1 s1 l1
theorem Jq(o:xx y es f)(h1:(W,instObj 150 D)∈n)(h2:(D,dictOf es k)∈n)(h:∀ q:Nat,J (.ref q) m ((q,methodObj (.ref f) (.ref W))::n)):Tr c E m n (getAttr (.ref W) y true) J:= .mk fun _ l=>
 kbm_bound l.F l.X l.N (MX l.N h1 h2) o.hg o.hh o.ha o.hf o.hgf o.ht o.hc o.hl fun q _ F' N' lt=>⟨m,_,l.to F' N' (l.D.fresh lt) l.G rfl,h q⟩
theorem Jc(_hq:(q,methodObj (.ref f) self)∈n)(hf:fnIn (ao w.params) f=true)
  (h:Tr c E m n (eval e env) fun v m n=>gR (fun T its k=>v=.ref T) (fun T its k=>(T,(⟨.type "tuple",none, .seq its k,#[]⟩:Obj))∈n) (fun _ its _=>its.size<=1000) (fun _ its _=>Tr c E m n (eval e2 env) fun u m n=>(q,methodObj (.ref f) self)∈n/\Tr c E m n (call (.ref q) (its.toList++[u])) J))
  (he:starEach [.Starred e p2,e2] env=[(true,eval e env),(false,eval e2 env)]:=by rfl):Tr c E m n (callWith p (.ref q) [] (backTo p (starEach [.Starred e p2,e2] env)) []) J:= .mk fun s l=>by
 refine aa he ?_;refine ks_call (P:=fun h=>MethP (ao w.params) q f self h) rfl (keeps_M hf) ?_;unfold evalArgs;show wpAny _ _ (spliced ((true,_)::backTo p [(false,eval e2 env)])>>=_) _ _ s;refine Kz (ks_spliced (am (h s l) fun v s1 _ _ l1 ⟨T,its,k,e1,hm,hz,q⟩=>?_));subst e1;refine star_seq l1.F l1.N hm rfl rfl (.inr rfl) rfl (by refine aa Lh ?_;exact bd hz) fun h' F' N'=>?_;refine Calls.spliced_cons (am (q _ (l1.to F' N' l1.D l1.G rfl)) fun u s2 _ _ l2 ⟨TR,q2⟩=>Calls.spliced_nil ?_);refine Lk ?_;exact Kz (KE (Kz (KE (KE ⟨methP l2.N TR (l2.X.keeps l2.F.keep),q2 _ l2⟩))))
theorem IO(d:bF k f (self::pos) n P Rs)(hq:(q,methodObj (.ref f) self)∈n++rest)(hk:k<=c.k)(hJ:∀ v n',P v n'->J v m (n'++rest))(hR:dC c m rest Rs E):
  Tr c E m (n++rest) (call (.ref q) pos) J:= .mk fun s l=>call_meth l.N hq (d c E m rest J hk hJ hR s l)
theorem Ju(hf:∀ J:ad Value,J (.ref 52) m n->Tr c E m n (eval (.Name x xp) env) J)(hx:kb y b)
  (h:Tr c E m n (eval e env) fun v m n=>v=.str y tk/\(b=true->∀ (a:Nat) vs,J (.ref a) m ((a,nV vs)::n))/\(b=false->J .none m n))
  (he:starEach [e] env=[(false,eval e env)]:=by rfl):Tr c E m n (eval (.Call (.Name x xp) [e] [] p) env) J:= .mk fun s l=>
 LC rfl (am (hf (fun v m' n'=>v=.ref 52/\m'=m/\n'=n) ⟨rfl,rfl,rfl⟩ s l) fun _ s' _ _ l' ⟨e1,e2,e3⟩=>by
  subst e1 e2 e3;refine qh l'.X (Lo (am (h s' l') fun v s1 _ _ l1 ⟨e4,q1,q2⟩=>LA ⟨l1.X.keeps l1.F.keep,?_⟩) he) he;subst e4;exact yd l1.F l1.X l1.N hx (fun hb a h' vs F' N' lt=>⟨_,_,l1.to F' N' (l1.D.fresh lt) l1.G rfl,q1 hb a vs⟩) fun hb=>⟨_,_,l1,q2 hb⟩)
theorem J8(hm:(a,nV vs)∈n)(h:B true m n):Tr c E m n (truthy (.ref a)) B:= .mk fun _ l=>vu l.N hm ⟨m,n,l,h⟩
theorem IN(hv:m x=some (.ref 98))(h:Tr c E m n (eval e c.env) fun v m n=>y8 (fun(D:Addr) (its:Array Value) (ys:List Str) (k:Nat)=>v=.ref D) (fun D its _ k=>(D,listOf its k)∈n) (fun _ its ys _=>StrsAre its.toList ys) (fun _ _ ys _=>(ys.map (·.length)).sum+ys.length<=1048576) (fun _ _ ys _=>∀ t',J (.str (Txt.join (Ye "") ys) t') m n))
  (he:starEach [e] c.env=[(false,eval e c.env)]:=by rfl) (hx:c.env.kindOf x=some .local:=by rfl) (hd:(x==("__debug__":Str))=false:=by decide):Tr c E m n (eval (.Call (.Name x xp) [e] [] p) c.env) J:= .mk fun s l=>
 LC rfl (nameX_L l.F hv (by
  have z:wpAny MP c.A (spliced (backTo p (starEach [e] c.env))) (fun vs P1=>(ao w.params).In P1.heap/\wpAny MP c.A (call (.ref 98) vs) (fun v s'=>bE (fun m' n'=>ay c s' m' n') (fun m' n'=>J v m' n')) E P1) E s:=Lo (am (h s l) fun v s1 _ _ l1 ⟨D,its,ys,k,e1,hm,hi,hw,q⟩=>LA ⟨l1.X.keeps l1.F.keep,(by
   subst e1;obtain⟨ll,hv2,ht⟩:=strsAre_values hi;have e2:its=(strValues ll).toArray:=by exact ae hv2 rfl
   subst e2 ht;have Qe:=joinOk_of (sep:=Ye "") (ys:=ll.map (·.1)) (by refine aa (show (Ye "").length=0 from rfl) ?_;exact L1 [_,_] (.a V0 (.w V1 0)) (.n 16777216) 1 (.a V0 V1) (.n 1048576) rfl hw);unfold JoinOk at Qe;rw[Bool.not_eq_true'] at Qe;have hl:=(l1.N _ hm).1;refine wb (id:="str.join") (args:=[.ref D]) (self:= .str (Ye "") 437) ((l1.X.keeps l1.F.keep) 98 Ay (by k_is)) (by decide+kernel) PySem.F.entry_str_join (fun Q' E' hQ=>?_) (meets_str_join_list _ _ D ll Qe) ⟨⟨_,hl,rfl,k,rfl⟩,post_join ll ⟨joinFit_length Qe,fun t' _=>⟨_,_,l1.tok,q t'⟩⟩⟩;obtain⟨kk,e⟩:=rO D (strValues ll).toArray k (Ye "") 437 ⟨PR,w.params⟩;exact gE e (fun a ha=>by refine aa (OU ha) ?_;exact hl) hQ)⟩) he
  rw[he] at z⊢;exact callWith_of (P:=fun h=>(ao w.params).In h) rfl (fun h hq=>⟨.machine, .inr (.inl rfl),(Looks.ld (part:=none) (hq 98 Ay (by k_is))).andThen .now⟩) (evalArgs_plain z)) l.hk hx hd)
theorem sy{a b c:Str}(h:a++b=a++c):b=c:=by
 have h2:(a++b).cps.toList=(a++c).cps.toList:=by exact aa h rfl
 have e:∀ x y:Str,(x++y).cps.toList=x.cps.toList++y.cps.toList:=fun x y=>by show (x.cps++y.cps).toList=_;simp
 rw[e,e] at h2;have h3:=List.append_cancel_left h2
 cases b;cases c;exact congrArg Str.mk (Array.toList_inj.mp h3)
theorem uV{l:List UP}(h:(l.map (·.1)).Nodup)(k:∀ x∈l,∀ y∈l,x.2=y.2->x.1=y.1):(l.map (·.2)).Nodup:=List.pairwise_map.mpr ((List.pairwise_map.mp h).imp_of_mem fun hx hy P5 e=>P5 (k _ hx _ hy e))
theorem Ht{B:ad Bool}{n:X6}{a:Addr}{vs:Yb}{k:Nat}{b:Bool}(hm:(a,lO vs k)∈n)(hz:vs.length<=100000)(e:vs.isEmpty= !b)(h:B b m n):Tr c E m n (truthy (.ref a)) B:=HE hm (by refine aa Lw ?_;exact bd hz) (by refine aa (List.isEmpty_toArray _) (aa e (aa (Bool.not_not _) ?_));exact h)
theorem J2{D cD:Nat}{PN:Yb}{l:List UP}{g:X6}(hP:bV g PN (l.map aV))(hg:∀ p∈g,p∈post)(P5:l≠[])(hl:l.length<=2)(RS:(l.map (·.2)).Nodup)(h:∀ SU k',bV g SU (aY l)->J .none m ((D,lO SU k')::post)):
  Tr c E m ((D,lO PN cD)::post) (call (.builtin "list.sort") [.ref D]) J:=by
 rcases l with _|⟨x,_|⟨y,l⟩⟩
 ·exact absurd rfl P5
 ·cases hP with|cons h1 h2=>cases h2;exact J0 (pre:=[]) rfl fun k'=>h _ k' (.cons h1 .nil)
 ·cases l with
  |cons z l=>simp only[Le] at hl;exact B0 hl
  |nil=>
   cases hP with
   |cons h1 h2=>
    cases h2 with
    |cons h2 h3=>
     cases h3;have a1:=h1;have a2:=h2;obtain⟨A,_,t1,u1,m1⟩:=h1;obtain⟨B,_,t2,u2,m2⟩:=h2;have hxy:(aV x).1≠(aV y).1:=fun e=>(Ly.mp RS).1 (KF.mpr (sy e));refine J1 (pre:=[]) rfl (hg _ m1) (hg _ m2) hxy fun k'=>?_;have e:aY [x,y]=if (aV y).1.cps.toList<(aV x).1.cps.toList then[aV y,aV x] else[aV x,aV y]:=rfl
     rw[e] at h
     by_cases q:(aV y).1.cps.toList<(aV x).1.cps.toList
     ·refine aa (KY q) ?_
      rw[KZ q] at h;exact h [.ref B, .ref A] k' (.cons a2 (.cons a1 .nil))
     ·refine aa (K0 q) ?_
      rw[KO q] at h;exact h [.ref A, .ref B] k' (.cons a1 (.cons a2 .nil))
theorem qf(h:l.length<=2):(aY l).length<=2:=by
 rcases l with _|⟨x,_|⟨y,_|⟨z,l⟩⟩⟩
 ·exact h
 ·exact h
 ·show (if _ then _ else _:List (Str×Str)).length<=2
  split<;>exact h
 ·simp only[Le] at h;exact B0 h
inductive dv where
 |list (l:Nat) (vs:Yb) (k:Nat)
 |YJ (l:Nat) (vs:Yb) (k:Nat)
 |range (r N:Nat) (t u z:Tok)
end
noncomputable def dv.v:dv->Value
 | .list l _ _=> .ref l
 | .YJ l _ _=> .ref l
 | .range r _ _ _ _=> .ref r
noncomputable def dv.N:dv->Nat
 | .list _ vs _=>vs.length
 | .YJ _ vs _=>vs.length
 | .range _ N _ _ _=>N
def dv.P:dv->Nat->Value->Prop
 | .list _ vs _=>fun i x=>vs[i]?=some x
 | .YJ _ vs _=>fun i x=>vs[i]?=some x
 | .range _ _ _ _ _=>fun i x=>∃ t,x=.int (i:Nat) t
noncomputable def dv.ent:dv->Addr×Obj
 | .list l vs k=>(l,lO vs k)
 | .YJ l vs k=>(l,⟨.type "tuple",none, .seq vs.toArray k,#[]⟩)
 | .range r N t u z=>(r,bl N t u z)
section
variable{c:Fx}{E:X8}{m:X7}{n:X6}
def eS(c:Fx)(n:X6)(e:Addr×Obj):Prop:=e∈n∨c.h₀.get? e.1=some e.2
theorem dv.iter(S:dv)(l:ay c s m n)(hm:eS c n S.ent)(hz:S.N<=1000)
  (k:∀ (I:Nat) (oI:Obj) (h':Heap) (fp:List Addr) (St:Nat->Heap->Prop) (src:Addr->Obj),I=s.heap.objs.size->(∀ p∈n,p.1<I)->ay c {s with heap:=h'} m ((I,oI)::n)->fb c.A I S.N S.P fp St->St 0 h'->h'.objs.size=I+1->(∀ b∈fp,b≠I->(b,src b)=S.ent)->Q (.ref I) {s with heap:=h'}):
  wpAny MP c.A (pyIter S.v) Q E s:=by
 have le:∀ {I:Nat} {oI h'},Fr c.h₀ c.L h' m->News c.h₀ c.L h' ((I,oI)::n)->(∀ p∈n,p.1<I)->ay c {s with heap:=h'} m ((I,oI)::n):=fun F N PW=>l.to F N (l.D.fresh PW) l.G rfl;have e2:∀ {I a:Nat},∀ b∈[I,a],b≠I->b=a:=fun b hb QJ=>by simpa [QJ] using hb
 cases S with
 |list a vs kk=>
  refine ng (ol:=lO vs kk) l.F l.N rfl rfl hm fun I oI h1 hI hlI F1 N1 PW hst Qh=>?_;have hs:fb c.A I vs.length (fun i x=>vs[i]?=some x) [I,a] (fun i h=>h.IsListIter I a i/\h.IsList a vs.toArray):=by have:=pQ (A:=c.A) rfl I a (K8 hlI) vs.toArray;simpa only[Lw,Ou] using this
  exact k I oI h1 _ _ (fun _=>lO vs kk) hI PW (le F1 N1 PW) hs hst Qh fun b hb QJ=>aa (e2 b hb QJ) rfl
 |YJ a vs kk=>
  refine r7 (ol:=⟨.type "tuple",none, .seq vs.toArray kk,#[]⟩) l.F l.N rfl rfl hm fun I oI h1 hI hlI F1 N1 PW hst Qh=>?_;have hs:fb c.A I vs.length (fun i x=>vs[i]?=some x) [I,a] (fun i h=>h.IsTupleIter I a i/\h.IsTuple a vs.toArray):=by have:=vp (A:=c.A) rfl I a (K8 hlI) vs.toArray;simpa only[Lw,Ou] using this
  exact k I oI h1 _ _ (fun _=>⟨.type "tuple",none, .seq vs.toArray kk,#[]⟩) hI PW (le F1 N1 PW) hs hst Qh fun b hb QJ=>aa (e2 b hb QJ) rfl
 |range r N t u z=>
  have hz:N<=1000:=hz;have hr:s.heap.get? r=some (bl N t u z):=hm.elim (fun q=>(l.N _ q).1) fun q=>l.F.keep _ _ q;refine kU (n:=N) l.F l.N hr (small_one (by decide) (by decide) (iX) (tK hz)) (by refine aa (PyProof.Rows.rangeSize_nat _ _) ?_;exact BZ) fun I oI h1 hI F1 N1 PW hst Qh=>?_;have hs:=nG (A:=c.A) rfl I 0 1 N;have hP:(fun(i:Nat) (v:Value)=>∃ t,v=.int ((0:Int)+(i:Nat)*1) t)=dv.P (.range r N t u z):=by
   funext i v
   exact aa (show (0:Int)+(i:Nat)*1=(i:Nat) from B8) rfl
  rw[hP] at hs;exact k I oI h1 _ _ (fun _=>oI) hI PW (le F1 N1 PW) hs hst Qh fun b hb QJ=>absurd (by simpa using hb) QJ
def xU(c:Fx)(E:X8)(PO:X9)(body:Yd)(S:dv)(Inv:Nat->X7->X6->Prop)(K:ad Flow):Prop:=
 ∀ j x I oI m n,∀ T7:ad Flow,j<S.N->S.P j x->Inv j m n->(∀ fl m n,rA I oI (Inv (j+1)) K fl m n->T7 fl m n)->Tr c E m ((I,oI)::n) (assign PO c.env x) (kS c E body c.env T7)
theorem Hw{K:ad Flow}{PO iter:X9}{body orelse:Yd}{pos:Pos}(Inv:dv->Nat->X7->X6->Prop)(hE:PassesOwn MP c.A c.env E)
  (h:Tr c E m n (eval iter c.env) fun v m' n'=>yY (fun(S:dv)=>v=S.v) (fun S=>S.N<=1000) (fun S=>Inv S 0 m' n') (fun S=>(∀ j m n,Inv S j m n->eS c n S.ent)) (fun S=>xU c E PO body S (Inv S) K) (fun S=>∀ m n,Inv S S.N m n->Tr c E m n (execs orelse c.env) K))
  (hs:∀ x,foldedSetIterable iter c.env x=Pure.pure x:=by intro _;rfl):Tr c E m n (exec (.For PO iter body orelse pos) c.env) K:=
 II (fun s l=>am (h s l) fun v P1 m' n' l' hv=>by
  obtain⟨S,e,hz,h0,hm,turn,last⟩:=hv;subst e;refine S.iter l' (hm 0 _ _ h0) hz fun I oI h1 fp St src hI PW l1 Ts hst Qh Ul=>?_;refine qW (Inv:=Inv S) (src:=src) Ts l1 hst (fun j m n hi b hb QJ=>?_) h0 (fun j v m n oI hj hv hi=>turn j v I oI m n _ hj hv hi fun _ _ _ h=>h) last;have e:=Ul b hb QJ;have:=hm j m n hi;rw[←e] at this;exact this) hs hE
variable{m':X7}{n':X6}{J:ad Value}{K:ad Flow}{r:Yd}{env:Env}
noncomputable abbrev db (I:Nat) (oI:Obj) (C:Nat) (oC:Obj) (D:Nat) (PN:Yb) (cD:Nat) (n:X6):X6:=(I,oI)::(C,oC)::(D,lO PN cD)::n
def nY(I:Nat)(oI:Obj)(C D:Nat)(PN:Yb)(cD:Nat)(n':X6)(m':X7)(P:X7->X6->Prop)(m:X7)(n:X6):Prop:=
 m=m'/\eg (fun oC mC g=>bw oC mC) (fun oC _ g=>n.Perm (db I oI C oC D PN cD (g++n'))) (fun _ mC g=>P mC g)
abbrev kP(c:Fx)(E:X8)(e:X9)(env:Env)(Y:ad Value)(N:X7->X6->Prop):ad Bool:=fun b m n=>Br b (Tr c E m n (eval e env) Y) (N m n)
def j1(c:Fx)(PO:X9)(Qb:List X9)(P2:X9)(scope:Scope)(cls:List (Str×Addr))(env:Env)(S:dv)(m':X7)(n':X6)(P:Nat->X7->Yb->X6->Prop):Prop:=
 ∀ (E':X8) (j:Nat) (x:Value) (PN:Yb) (g:X6) (I D C:Nat) (oI oC:Obj) (mC:X7) (cD:Nat) (Y:ad Value) (N:X7->X6->Prop),j<S.N->S.P j x->P j mC PN g->bw oC mC->
  (∀ y m4 n4,nY I oI C D PN cD n' m' (fun RL g'=>P (j+1) RL (PN++[y]) g') m4 n4->Y y m4 n4)->(∀ m3 n3,nY I oI C D PN cD n' m' (fun RL g'=>P (j+1) RL PN g') m3 n3->N m3 n3)->
  Tr c E' m' (db I oI C oC D PN cD (g++n')) (assign PO (compEnvC scope cls C env) x) (kT c E' (fun _=>dL Qb (compEnvC scope cls C env)) (kP c E' P2 (compEnvC scope cls C env) Y N))
theorem Kg{P2:X9}{Yl:Env}{I C D:Nat}{oI:Obj}{PN:Yb}{cD:Nat}{P:Value->X7->X6->Prop}{U:ad Unit}(hz:PN.length<=100000)(h:Tr c E m n (eval P2 Yl) fun y m4 n4=>nY I oI C D PN cD n' m' (P y) m4 n4)
  (k:∀ y oC mC g,bw oC mC->P y mC g->U () m' (db I oI C oC D (PN++[y]) (cD+1) (g++n'))):Tr c E m n (dK P2 (.ref D) Yl) U:=by
 refine IW (Tr.mono h fun y m4 n4 q=>?_);obtain⟨rfl,oC,mC,g,hx,hp,q⟩:=q;exact Gd hp (IW (Gs (pre:=[_,_]) rfl hz (Kn (k y oC mC g hx q))))
theorem GI(h:B true m n):Tr c E m n (dL [] env) B:= .mk fun _ l=>tT ⟨m,n,l,h⟩
theorem HS(h:Tr c E m n (isTrue e env (eval e env)) B):Tr c E m n (dL [e] env) B:= .mk fun s l=>zP (h s l)
def fH(I:Nat)(oI:Obj)(C D:Nat)(n':X6)(m':X7)(P:X7->Yb->X6->Prop)(m:X7)(n:X6):Prop:=
 m=m'/\mf (fun oC mC PN cD g=>bw oC mC) (fun oC _ PN cD g=>n.Perm (db I oI C oC D PN cD (g++n'))) (fun _ mC PN _ g=>P mC PN g)
def lY(c:Fx)(PO:X9)(Qb:List X9)(B:Addr->Env->Sem Unit)(scope:Scope)(cls:List (Str×Addr))(env:Env)(S:dv)(m':X7)(n':X6)(P:Nat->X7->Yb->X6->Prop):Prop:=
 ∀ (E':X8) (j:Nat) (x:Value) (PN:Yb) (g:X6) (I D C:Nat) (oI oC:Obj) (mC:X7) (cD:Nat),j<S.N->S.P j x->P j mC PN g->bw oC mC->
  Tr c E' m' (db I oI C oC D PN cD (g++n')) (assign PO (compEnvC scope cls C env) x) fun _ m2 n2=>Tr c E' m2 n2 (dL Qb (compEnvC scope cls C env)) fun b m3 n3=>Br b (Tr c E' m3 n3 (B D (compEnvC scope cls C env)) fun _ m4 n4=>fH I oI C D n' m' (P (j+1)) m4 n4)
   (fH I oI C D n' m' (P (j+1)) m3 n3)
theorem HB(S:dv)(P:Nat->X7->Yb->X6->Prop)(l':ay c s' m' n')(hm:eS c n' S.ent)(SB:P 0 (fun _=>none) [] [])(hz:S.N<=1000)
  (turn:lY c PO Qb B scope cls env S m' n' P)
  (last:∀ (D C:Nat) (mC:X7) (PN:Yb) (g:X6) (cD:Nat) (s2:Shared),P S.N mC PN g->ay c s2 m' ((D,lO PN cD)::(g++n'))->s2.os=s'.os->Fi m' D C ((D,lO PN cD)::(g++n')) s2):
  wpAny MP c.A (pyIter S.v) (ix c.A c.h₀ c.L env scope cls PO Qb B (listOf #[] 0) Fi) E s':=by
 refine S.iter l' hm hz fun I oI h1 fp St src hI PW l1 Ts hst Qh Ul=>?_;refine⟨I,_,_,fp,St,src,oI,m',n',rfl,Ts,hst,l1.F,l1.N,?_⟩;intro D C TJ hCe hID hLD hhD Vy;refine⟨fun g _=>c.Gp g,fun j mC PY=>eg (fun PN g cD=>PY=(D,lO PN cD)::(g++n')) (fun PN g _=>P j mC PN g) (fun _ _ _=>∀ oI oC:Obj,ax ((I,oI)::(C,oC)::PY)),?_,l'.G,?_,?_,?_⟩
 ·refine⟨[],[],0,rfl,SB,fun oI oC=>?_⟩
  have d1:ax ((D,listOf (#[]:Array Value) 0)::n'):=l'.D.fresh Vy;refine ax.cons.mpr ⟨fun x hx=>?_,d1.fresh fun x hx=>?_⟩
  ·rcases KI.mp hx with rfl|hx
   ·show C≠I;lia
   ·rcases KI.mp hx with rfl|hx
    ·show D≠I;lia
    ·exact K8 (PW x hx)
  ·rcases KI.mp hx with rfl|hx
   ·show D<C;exact L3 [_,_,_] (.a V0 W1) V2 3 V0 V1 3 V1 V0 1 (.a V0 W1) V2 rfl (eL TJ) (eG TJ) (eG hCe)
   ·have:=Vy x hx
    show x.1<C;exact Mh this (by exact L3 [_,_,_] (.a V0 W1) V2 3 V0 V1 3 V1 V0 1 (.a V0 W1) V2 rfl (eL TJ) (eG TJ) (eG hCe))
 ·rintro j mC PY ⟨PN,g,cD,rfl,hp,Q7⟩
  refine⟨fun p Yy=>⟨(Q7 oI oI).ne (.tail _ Yy),(Q7 oI oI).tail.ne Yy⟩,fun b hb QJ=>?_⟩;have e:=Ul b hb QJ;have h2:eS c ((D,lO PN cD)::(g++n')) S.ent:=hm.imp (fun q=> .tail _ (KB _ q)) id;rw[←e] at h2;exact h2
 ·rintro j v mC oC PY Q3 h2 g2 d2 So hj hv xC ⟨PN,g,cD,rfl,hp,Q7⟩ hg F2 N2
  intro E';have l2:ay c ⟨h2,g2,d2,So,s'.os⟩ m' (db I Q3 C oC D PN cD (g++n')):=l'.to F2 N2 (Q7 Q3 oC) hg rfl;have Tw:∀ {s4:Shared} {m4 n4},ay c s4 m4 n4->fH I Q3 C D n' m' (P (j+1)) m4 n4->
    fG c.h₀ c.L I C m' Q3 (fun mC PY=>eg (fun PN g cD=>PY=(D,lO PN cD)::(g++n')) (fun PN g _=>P (j+1) mC PN g) (fun _ _ _=>∀ oI oC:Obj,ax ((I,oI)::(C,oC)::PY))) s'.os (fun g _=>c.Gp g) s4:=by
   rintro s4 m4 n4 l4 ⟨rfl,Qq,RL,SU,cD',g',SR,QC,TK⟩;have l5:=l4.perm QC;exact i8 l5.F l5.N SR ⟨_,_,_,rfl,TK,fun _ _=>l5.D⟩ l5.G (l5.O.trans l'.O.symm)
  refine am (turn E' j v PN g I D C Q3 oC mC cD hj hv hp xC _ l2) fun _ s3 m2 n2 l3 q=>?_;refine am (q s3 l3) fun b s4 m3 n3 l4 q4=>?_
  cases b with
  |false=>exact rW (Tw l4 q4)
  |true=>
   refine kG (am (q4 s4 l4) fun _ s5 m5 n5 l5 q5=>?_);exact Tw l5 q5
 ·rintro h2 g2 d2 So mC oC PY xC ⟨PN,g,cD,rfl,hp,Q7⟩ hg F2 N2
  exact last D C mC PN g cD _ hp (l'.to F2 (iM N2) (Q7 oI oI).tail.tail hg rfl) rfl
theorem j1.toB(hb:b+S.N<=100000)(h:j1 c PO Qb P2 scope cls env S m' n' P):
  lY c PO Qb (fun D Yl=>dK P2 (.ref D) Yl) scope cls env S m' n' fun j mC PN g=>P j mC PN g/\PN.length<=b+j:=by
 intro E' j x PN g I D C oI oC mC cD hj hx hP xC;refine Tr.mono (h E' j x PN g I D C oI oC mC cD _ _ hj hx hP.1 xC (fun _ _ _ q=>q) fun _ _ q=>q) fun _ m2 n2 h2=>Tr.mono h2 fun t m3 n3 h3=>?_;have ho:=hP.2
 cases t with
 |false=>
  obtain⟨rfl,Qq,RL,g',hx,hp,hq⟩:=h3;exact⟨rfl,Qq,RL,PN,cD,g',hx,hp,hq,by exact L1 [_,_,_] V0 (.a V1 (.a V2 W1)) 1 V0 (.a V1 V2) rfl hP.2⟩
 |true=>exact Kg (by exact L3 [_,_,_,_] V3 (.n 100000) 1 (.a V0 V1) (.n 100000) 1 (.a V2 W1) V1 1 V3 (.a V0 V2) rfl hb hj hP.2) h3 fun y Qq RL g' hx hq=>⟨rfl,Qq,RL,_,_,g',hx, .refl _,hq,by refine aa KJ ?_;show PN.length+1<=_;exact L1 [_,_,_] (.a V0 W1) (.a V1 (.a V2 W1)) 1 V0 (.a V1 V2) rfl hP.2⟩
def rt(c:Fx)(PO:X9)(Qb:List X9)(P2:X9)(scope:Scope)(cls:List (Str×Addr))(env:Env)(Z:Nat->Yb->X7->X6->Prop):ad Value:=fun v m' n'=>
 oh (fun(S:dv) (P:Nat->X7->Yb->X6->Prop)=>v=S.v) (fun S _=>eS c n' S.ent) (fun S _=>S.N<=1000) (fun _ P=>P 0 (fun _=>none) [] []) (fun S P=>j1 c PO Qb P2 scope cls env S m' n' P) (fun S P=>∀ (D:Nat) (mC:X7) (PN:Yb) (g:X6) (cD:Nat),PN.length<=S.N->P S.N mC PN g->Z D PN m' ((D,lO PN cD)::(g++n')))
theorem GU
  (h:Tr c E m n (eval iter env) (rt c PO Qb P2 scope cls env fun D _ m' n'=>J (.ref D) m' n'))
  (Ql:closureFor scope env=Pure.pure cls:=by rfl) (P6:scope.kind=.function:=by rfl) (P9:∀ x∈scope.names,x.2=.local->scope.names.lookup x.1=some .local:=by decide) (P8:∀ y∈scope.names,y.2≠ .cell:=by decide)
  (R0:∀ x,foldedSetIterable iter env x=Pure.pure x:=by intro _;rfl):
  Tr c E m n (eval (.ListComp P2 [⟨PO,iter,Qb,0⟩] scope pos) env) J:= .mk fun s l=>by
 refine nK (h₀:=c.h₀) (L:=c.L) Ql P6 P9 P8 (am (h s l) fun v s' m' n' l' hv=>?_) R0;obtain⟨S,P,rfl,hm,hz,SB,turn,last⟩:=hv;exact HB S _ l' hm ⟨SB,K1 0⟩ hz (turn.toB (by exact L1 [_] (.a W0 V0) (.n 100000) 1 V0 (.n 1000) rfl hz)) fun D C mC PN g cD s2 hp l2 Rv=>fun h' F3 N3=>⟨m',_,l2.to F3 N3 l2.D l2.G rfl,last D mC PN g cD (by have:=hp.2;exact L1 [_,_] V0 V1 1 V0 (.a W0 V1) rfl hp.2) hp.1⟩
theorem IF
  (h:Tr c E m n (eval iter c.env) (rt c PO Qb P2 scope cls c.env fun D _ m' n'=>Tr c E (fun z=>if z=y then some (.ref D) else m' z) n' (execs r c.env) K))
  (Ry:swapsWith (.ListComp P2 [⟨PO,iter,Qb,0⟩] scope pos) (some (.Name y py)) Rb.line c.env=Pure.pure true:=by rfl)
  (Ql:closureFor scope c.env=Pure.pure cls:=by rfl) (P6:scope.kind=.function:=by rfl) (P9:∀ x∈scope.names,x.2=.local->scope.names.lookup x.1=some .local:=by decide) (P8:∀ y∈scope.names,y.2≠ .cell:=by decide)
  (hy:c.env.kindOf y=some .local:=by rfl) (hp:(c.env.scope.kind== .class||(c.env.scope.kind== .module&&c.env.locals !=c.env.globals))=false:=by rfl) (R0:∀ x,foldedSetIterable iter c.env x=Pure.pure x:=by intro _;rfl):
  Tr c E m n (execs (.Assign [.Name y py] (.ListComp P2 [⟨PO,iter,Qb,0⟩] scope pos) Rb::r) c.env) K:= .mk fun s l=>by
 refine Lr (fF (h₀:=c.h₀) Ry Ql P6 P9 P8 hy rfl hp (am (h s l) fun v s' m' n' l' hv=>?_) R0);obtain⟨S,P,rfl,hm,hz,SB,turn,last⟩:=hv;exact HB S _ l' hm ⟨SB,K1 0⟩ hz (turn.toB (by exact L1 [_] (.a W0 V0) (.n 100000) 1 V0 (.n 1000) rfl hz)) fun D C mC PN g cD s2 hp l2 Rv=>fun h' tk F3 N3=>last D mC PN g cD (by have:=hp.2;exact L1 [_,_] V0 V1 1 V0 (.a W0 V1) rfl hp.2) hp.1 _ (l2.to F3 N3 l2.D l2.G rfl)
theorem JX
  (h:Tr c E m n (eval i2 (compEnvC sc cls C env)) fun v m3 n3=>m3=m'/\zr (fun(S:dv) (Q:Nat->X7->Yb->X6->Prop) (oC:Obj) (mC:X7) (PN:Yb) (cD:Nat) (g:X6)=>v=S.v) (fun _ _ oC mC _ _ _=>bw oC mC) (fun _ _ oC _ PN cD g=>n3.Perm (db I oI C oC D PN cD (g++n'))) (fun S _ _ _ _ _ _=>eS c n' S.ent) (fun S _ _ _ _ _ _=>S.N<=1000) (fun _ _ _ _ PN _ _=>PN.length<=b) (fun _ Q _ mC PN _ g=>Q 0 mC PN g) (fun S Q _ _ _ _ _=>j1 c t2 f2 P2 sc cls env S m' ((I,oI)::n') Q) (fun S Q _ mC PN _ g=>∀ mC PN g,PN.length<=b+S.N->Q S.N mC PN g->P mC PN g)) (hb:b<=99000)
  (hs:∀ x,foldedSetIterable i2 (compEnvC sc cls C env) x=Pure.pure x:=by intro _;rfl):
  Tr c E m n (dq (.ListComp P2 [⟨t1,i1,f1,0⟩,⟨t2,i2,f2,0⟩] scope pos) i2 (.ref D) (compEnvC sc cls C env)) fun _ m4 n4=>fH I oI C D n' m' P m4 n4:= .mk fun s l=>by
 refine we (h₀:=c.h₀) (L:=c.L) (m:=m') (C:=C) (D:=D) (K:=fun _ s'=>bE (fun m4 n4=>ay c s' m4 n4) (fun m4 n4=>fH I oI C D n' m' P m4 n4)) (am (h s l) fun v s1 m3 n3 l1 hv=>?_) hs;obtain⟨rfl,S,Q,oC,mC,PN,cD,g,rfl,xC,QC,hm,hz,hob,hQ0,turn,last⟩:=hv;have l2:=l1.perm QC;have Tl:eS c (db I oI C oC D PN cD (g++n')) S.ent:=hm.imp (fun q=>cZ (KB _ q)) id;refine S.iter l2 Tl hz fun I2 SK h1 fp St src hI PW l3 Ts hst Qh Ul=>?_;have pm:∀ {o1 o2:Obj} {PN:Yb} {cD:Nat} {g:X6},(db I oI C o2 D PN cD (g++n')).Perm ((C,o2)::(D,lO PN cD)::(g++((I,oI)::n'))):=by
  intro o1 o2 PN cD g;refine(List.Perm.swap _ _ _).trans (List.Perm.cons _ ?_);exact(List.Perm.swap _ _ _).trans ((Lf (l₁:=g)).symm.cons _)
 have l4:ay c {s1 with heap:=h1} m3 (db I2 SK C oC D PN cD (g++((I,oI)::n'))):=l3.perm ((pm (o1:=oI)).cons _);refine⟨I2,S.N,S.P,fp,St,src,SK,oC,mC,(D,lO PN cD)::(g++((I,oI)::n')),rfl,Ts,hst,l4.F,l4.N,xC,l4.D.ne (.head _),?_⟩;have turnB:=turn.toB (b:=b) (by exact L2 [_,_] (.a V0 V1) (.n 100000) 1 V0 (.n 99000) 1 V1 (.n 1000) rfl hb hz);refine⟨fun g _=>c.Gp g,fun j mC PY=>eg (fun PN g cD=>PY=(D,lO PN cD)::(g++((I,oI)::n'))) (fun PN g _=>(Q j mC PN g/\PN.length<=b+j)) (fun _ _ _=>∀ oI oC:Obj,ax ((I2,oI)::(C,oC)::PY)),⟨PN,g,cD,rfl,⟨hQ0,hob⟩,fun _ _=>l4.D⟩,l4.G,?_,?_,?_⟩
 ·rintro j mC PY ⟨PN,g,cD,rfl,hp,Q7⟩
  refine⟨fun p Yy=>(Q7 oI oI).ne (.tail _ Yy),fun b hb QJ=>?_⟩;have e:=Ul b hb QJ;have h2:eS c ((D,lO PN cD)::(g++((I,oI)::n'))) S.ent:=hm.imp (fun q=> .tail _ (KB _ (.tail _ q))) id;rw[←e] at h2;exact h2
 ·rintro j v mC oC PY Q3 h2 g2 d2 So hj hv xC ⟨PN,g,cD,rfl,hp,Q7⟩ hg F2 N2
  intro E';have l5:ay c ⟨h2,g2,d2,So,s1.os⟩ m3 (db I2 Q3 C oC D PN cD (g++((I,oI)::n'))):=l4.to F2 N2 (Q7 Q3 oC) hg rfl;have Tw:∀ {s4:Shared} {m4 n4},ay c s4 m4 n4->fH I2 Q3 C D ((I,oI)::n') m3 (fun mC PN g=>Q (j+1) mC PN g/\PN.length<=b+(j+1)) m4 n4->
    fG c.h₀ c.L I2 C m3 Q3 (fun mC PY=>eg (fun PN g cD=>PY=(D,lO PN cD)::(g++((I,oI)::n'))) (fun PN g _=>(Q (j+1) mC PN g/\PN.length<=b+(j+1))) (fun _ _ _=>∀ oI oC:Obj,ax ((I2,oI)::(C,oC)::PY))) s1.os (fun g _=>c.Gp g) s4:=by
   rintro s4 m4 n4 lx ⟨rfl,Qq,RL,SU,cD',g',SR,QC,TK⟩;have l5:=lx.perm QC;exact i8 l5.F l5.N SR ⟨_,_,_,rfl,TK,fun _ _=>l5.D⟩ l5.G (l5.O.trans l1.O.symm)
  refine am (turnB E' j v PN g I2 D C Q3 oC mC cD hj hv hp xC _ l5) fun _ s3 m2 n2 l7 q=>?_;refine am (q s3 l7) fun t s4 m6 n6 l6 q4=>?_
  cases t with
  |false=>exact rW (Tw l6 q4)
  |true=>
   refine kG (am (q4 s4 l6) fun _ s5 m5 n5 l5 q5=>?_);exact Tw l5 q5
 ·rintro h2 g2 d2 So mC oC PY xC ⟨PN,g,cD,rfl,hp,Q7⟩ hg F2 N2
  have l5:ay c ⟨h2,g2,d2,So,s1.os⟩ m3 ((C,oC)::(D,lO PN cD)::(g++((I,oI)::n'))):=l4.to F2 N2 (Q7 oI oC).tail hg rfl;exact⟨m3,_,l5,rfl,oC,mC,PN,cD,g,xC,(pm (o1:=oI)).symm,last mC PN g hp.2 hp.1⟩
def lX(c:Fx)(t1 i2 t2:X9)(f2:List X9)(P2:X9)(scope:Scope)(cls:List (Str×Addr))(env:Env)(S:dv)(m':X7)(n':X6)(P:Nat->X7->Yb->X6->Prop):Prop:=
 ∀ (E':X8) (j:Nat) (x:Value) (PN:Yb) (g:X6) (I D C:Nat) (oI oC:Obj) (mC:X7) (cD:Nat),j<S.N->S.P j x->P j mC PN g->bw oC mC->
  Tr c E' m' (db I oI C oC D PN cD (g++n')) (assign t1 (compEnvC scope cls C env) x) fun _ m2 n2=>Tr c E' m2 n2 (eval i2 (compEnvC scope cls C env)) fun v m3 n3=>m3=m'/\vO (fun(S2:dv) (Q:Nat->X7->Yb->X6->Prop) (Rz:Obj) (RM:X7) (g2:X6)=>v=S2.v) (fun _ _ Rz RM _=>bw Rz RM) (fun _ _ Rz _ g2=>n3.Perm (db I oI C Rz D PN cD (g2++n'))) (fun S2 _ _ _ _=>eS c n' S2.ent) (fun S2 _ _ _ _=>S2.N<=1000) (fun _ Q _ RM g2=>Q 0 RM PN g2) (fun S2 Q _ _ _=>j1 c t2 f2 P2 scope cls env S2 m' ((I,oI)::n') Q) (fun S2 Q _ _ _=>∀ mC PN g,Q S2.N mC PN g->P (j+1) mC PN g)
theorem lX.toB(hz:S.N<=90)(h:lX c t1 i2 t2 f2 P2 sc cls env S m' n' P)
  (hs:∀ C x,foldedSetIterable i2 (compEnvC sc cls C env) x=Pure.pure x):
  lY c t1 [] (fun D Yl=>dq (.ListComp P2 [⟨t1,i1,[],0⟩,⟨t2,i2,f2,0⟩] scope pos) i2 (.ref D) Yl) sc cls env S m' n' fun j mC PN g=>P j mC PN g/\PN.length<=1000*j:=by
 intro E' j x PN g I D C oI oC mC cD hj hx hP xC;refine Tr.mono (h E' j x PN g I D C oI oC mC cD hj hx hP.1 xC) fun _ m2 n2 h2=>GI (JX (b:=1000*j) (Tr.mono h2 fun v m3 n3 h3=>?_) (by exact L2 [_,_] (.m 1000 V1) (.n 99000) 1000 V0 (.n 90) 1000 (.a V1 W1) V0 rfl hz hj) (hs C));obtain⟨rfl,S2,Q,Rz,RM,g2,rfl,xC2,QC,hm,hz2,hQ,turn,last⟩:=h3;exact⟨rfl,S2,Q,Rz,RM,PN,cD,g2,rfl,xC2,QC,hm,hz2,hP.2,hQ,turn,fun mC PN g hl hq=>⟨last mC PN g hq,by exact L2 [_,_,_] V1 (.m 1000 (.a V2 W1)) 1 V0 (.n 1000) 1 V1 (.a (.m 1000 V2) V0) rfl hz2 hl⟩⟩
def sY(c:Fx)(t1 i2 t2:X9)(f2:List X9)(P2:X9)(scope:Scope)(cls:List (Str×Addr))(env:Env)(Z:Nat->Yb->X7->X6->Prop):ad Value:=fun v m' n'=>
 oh (fun(S:dv) (P:Nat->X7->Yb->X6->Prop)=>v=S.v) (fun S _=>eS c n' S.ent) (fun S _=>S.N<=90) (fun _ P=>P 0 (fun _=>none) [] []) (fun S P=>lX c t1 i2 t2 f2 P2 scope cls env S m' n' P) (fun S P=>∀ (D:Nat) (mC:X7) (PN:Yb) (g:X6) (cD:Nat),P S.N mC PN g->Z D PN m' ((D,lO PN cD)::(g++n')))
theorem Jx
  (h:Tr c E m n (eval i1 env) (sY c t1 i2 t2 f2 P2 scope cls env fun D _ m' n'=>J (.ref D) m' n'))
  (Ql:closureFor scope env=Pure.pure cls:=by rfl) (P6:scope.kind=.function:=by rfl) (P9:∀ x∈scope.names,x.2=.local->scope.names.lookup x.1=some .local:=by decide) (P8:∀ y∈scope.names,y.2≠ .cell:=by decide)
  (R0:∀ x,foldedSetIterable i1 env x=Pure.pure x:=by intro _;rfl) (Vt:∀ C x,foldedSetIterable i2 (compEnvC scope cls C env) x=Pure.pure x:=by intro _ _;rfl):
  Tr c E m n (eval (.ListComp P2 [⟨t1,i1,[],0⟩,⟨t2,i2,f2,0⟩] scope pos) env) J:= .mk fun s l=>by
 refine nL (h₀:=c.h₀) (L:=c.L) Ql P6 P9 P8 (am (h s l) fun v s' m' n' l' hv=>?_) R0;obtain⟨S,P,rfl,hm,hz,SB,turn,last⟩:=hv;exact HB S _ l' hm ⟨SB,K1 0⟩ (bd hz) (turn.toB hz Vt) fun D C mC PN g cD s2 hp l2 Rv=>fun h' F3 N3=>⟨m',_,l2.to F3 N3 l2.D l2.G rfl,last D mC PN g cD hp.1⟩
theorem jE
  (Ry:swapsWith (.ListComp P2 [⟨t1,i1,f1,0⟩,⟨t2,i2,f2,0⟩] scope pos) (some (.Name y py)) Rb.line env=pure true)
  (Ql:closureFor scope env=pure cl) (P6:scope.kind=.function) (P9:∀ x∈scope.names,x.2=.local->scope.names.lookup x.1=some .local) (P8:∀ y∈scope.names,y.2≠ .cell)
  (hy:env.kindOf y=some .local) (hL:env.locals=L) (hp:(env.scope.kind== .class||(env.scope.kind== .module&&env.locals !=env.globals))=false)
  (h:wpAny MP A (eval i1 env) (fun xv P1=>wpAny MP A (pyIter xv) (ix A h₀ L env scope cl t1 f1 (fun D Yl=>dq (.ListComp P2 [⟨t1,i1,f1,0⟩,⟨t2,i2,f2,0⟩] scope pos) i2 (.ref D) Yl) (listOf #[] 0) (rY h₀ L y Q)) E P1) E s)
  (hs:∀ x,foldedSetIterable i1 env x=pure x:=by intro _;rfl):
  wpAny MP A (exec (.Assign [.Name y py] (.ListComp P2 [⟨t1,i1,f1,0⟩,⟨t2,i2,f2,0⟩] scope pos) Rb) env) Q E s:=by
 refine aa (Oz _ _ _ _ Ry) ?_;refine Kz (LG (Kz ?_));show wpAny _ A (do let _←comprehension (.ListComp P2 [⟨t1,i1,f1,0⟩,⟨t2,i2,f2,0⟩] scope pos) scope env _ (newList []) false (eval i1 env) (some (assign (.Name y py) env))) _ _ s;refine Kz (K9 (fO (Q:=fun _ s'=>Q .next s') (gi hy hL hp) (YL:=i1.pos) (B:=fun D Yl=>dq (.ListComp P2 [⟨t1,i1,f1,0⟩,⟨t2,i2,f2,0⟩] scope pos) i2 (.ref D) Yl) rfl hs Ql P6 P9 P8 (fun s Q q=>LY q) rfl (fun _ _ _=>rfl) (fun _ _ _=>rfl) (fun _ _ _=>rfl) (fun it D Yl=>jY ..) (fun _ _ _=>rfl) (fun _ _ _=>rfl) (fun _ _ _=>rfl) h) (fun _ s' hq=>KE (KE hq)) fun _ _ e=>e)
theorem Jv
  (h:Tr c E m n (eval i1 c.env) (sY c t1 i2 t2 f2 P2 scope cls c.env fun D _ m' n'=>Tr c E (fun z=>if z=y then some (.ref D) else m' z) n' (execs r c.env) K))
  (Ry:swapsWith (.ListComp P2 [⟨t1,i1,[],0⟩,⟨t2,i2,f2,0⟩] scope pos) (some (.Name y py)) Rb.line c.env=Pure.pure true:=by rfl)
  (Ql:closureFor scope c.env=Pure.pure cls:=by rfl) (P6:scope.kind=.function:=by rfl) (P9:∀ x∈scope.names,x.2=.local->scope.names.lookup x.1=some .local:=by decide) (P8:∀ y∈scope.names,y.2≠ .cell:=by decide)
  (hy:c.env.kindOf y=some .local:=by rfl) (hp:(c.env.scope.kind== .class||(c.env.scope.kind== .module&&c.env.locals !=c.env.globals))=false:=by rfl) (R0:∀ x,foldedSetIterable i1 c.env x=Pure.pure x:=by intro _;rfl) (Vt:∀ C x,foldedSetIterable i2 (compEnvC scope cls C c.env) x=Pure.pure x:=by intro _ _;rfl):
  Tr c E m n (execs (.Assign [.Name y py] (.ListComp P2 [⟨t1,i1,[],0⟩,⟨t2,i2,f2,0⟩] scope pos) Rb::r) c.env) K:= .mk fun s l=>by
 refine Lr (jE (h₀:=c.h₀) Ry Ql P6 P9 P8 hy rfl hp (am (h s l) fun v s' m' n' l' hv=>?_) R0);obtain⟨S,P,rfl,hm,hz,SB,turn,last⟩:=hv;exact HB S _ l' hm ⟨SB,K1 0⟩ (bd hz) (turn.toB hz Vt) fun D C mC PN g cD s2 hp l2 Rv=>fun h' tk F3 N3=>last D mC PN g cD hp.1 _ (l2.to F3 N3 l2.D l2.G rfl)
abbrev kW:Pos:={line:=139,col:=71,endLine:=139,endCol:=96}
theorem dictE(ca:Nat):(dictOf [] ca).IsDictOf (PySem.strKind PR w) ([]:List (Str×Value)):=⟨#[],ca,⟨rfl,rfl,rfl⟩,rfl,fun e he=>by simp at he, .nil,MF⟩
def vU:Str:=Ye "C14NWriterTarget._start"++".<locals>."++"<lambda>"
def mQ(wa:aF)(Yi:Value)(done:Bool)(cnt cd:Nat)(init Ys:az)(al ak ca:Nat)(pm:List UP)(u tg xp xn:Str)(t:Nat->Tok)(pg ps:Yb)(R:X6)(qt:Value)(v:Value)(n':X6):Prop:=
 v=.none/\xo (fun(yu:Option Str) (Rr cg' cs' cn' A:Nat) (Ym:List Pr) (Qi:Obj) (P0:Yb) (QM:Str) (Qw:Option Str) (UJ:Array Value) (ex':X6)=>(qt=.none/\yu=none∨(∃ tq,qt=.str (xp++Ye ":"++xn) tq)/\yu=Ys.uriOf xp/\yu≠none)) (fun yu _ _ _ _ _ Ym _ _ _ _ _ _=>Ym.map Pr.up=(aH (init.flat.map Pr.up) ([],pm) (dS u tg xn yu)).2.1) (fun yu _ _ _ _ _ _ Qi _ _ _ _ _=>gv Qi (aH (init.flat.map Pr.up) ([],pm) (dS u tg xn yu)).2.2) (fun yu _ _ _ _ _ _ _ _ QM _ _ _=>(u,QM)∈(aH (init.flat.map Pr.up) ([],pm) (dS u tg xn yu)).2.1++init.flat.map Pr.up) (fun yu _ _ _ _ _ _ _ _ _ Qw _ _=>(yu=none/\Qw=none∨bW (fun u2 p2=>yu=some u2) (fun _ p2=>Qw=some p2) (fun u2 p2=>(u2,p2)∈(aH (init.flat.map Pr.up) ([],pm) (dS u tg xn yu)).2.1++init.flat.map Pr.up))) (fun _ _ _ _ _ _ Ym _ P0 QM Qw _ _=>StrsAre P0 (aX QM tg (aY (Ym.map Pr.up)) Qw xn)) (fun _ _ _ _ _ _ _ _ _ _ _ UJ ex'=>j5 vU kW UJ ex') (fun _ Rr cg' cs' cn' A Ym Qi P0 _ _ UJ ex'=>n'=(A,lO (([]:List Pr).map Pr.val) 0)::(df wa t Yi true done cnt cd init al Ym Rr Qi++((wa.Yj,lO (pg++P0) cg')::(wa.Yv,bf "list.append" (.ref wa.Yj))::(wa.Yp,lO (ps++[Value.bool false]++[Value.bool false]) cs')::(wa.ns,lO (Ys.refs++[Value.ref A]) cn')::(ak,dictOf [] ca)::(123,tabObj UJ)::(ex'++(Ym.map Pr.ent++(Ys.read++R))))))
structure gb(u tg:Str)(tk:Tok)(ak al:Nat)(qt:Value)(m:X7):Prop where
 tg:m (Ye "tag")=some (.str (ah u tg) tk)
 at':m (Ye "attrs")=some (.ref ak)
 nn:m (Ye "new_namespaces")=some (.ref al)
 qt:m (Ye "qname_text")=some qt
structure zx(Yo pm:List UP)(qs:List Qn)(st:List Str×List UP×List UP)(dO:Obj)(Ym:List Pr)(Qi:Obj)(g:X6)(PP:List (Str×Value)):Prop where
 hst:st=aH Yo ([],pm) (qs.map (·.1))
 dict:dO.IsDictOf (PySem.strKind PR w) PP
 YG:∀ p∈Ym,p.ent∈g
 cur:Ym.map Pr.up=st.2.1
 YE:gv Qi st.2.2
 i1:bL st.2.2
 i2:bk (Ym.map Pr.up++Yo) st.2.2
 i3:st.2.2.length<=60
 i4:Ym.length<=2
 i5:((Ym.map Pr.up).map (·.1)).Nodup
 pl:∀ p∈Ym,bo p.YC
 name:∀ x∈qs,mf (fun(a3:Nat) (pre:Str) (t1 t2 t3:Tok)=>valueAt PP (ah x.1 x.2.1)=some (.ref a3)) (fun a3 pre t1 t2 t3=>(a3,ip (.str (pre++Ye ":"++x.2.1) t1) (.str x.2.1 t2) (.str x.1 t3) 0)∈g) (fun _ pre _ _ _=>(x.1,pre)∈Ym.map Pr.up++Yo)
theorem uY(h:vV Yo pm qs qs.length dO Ym Qi g PP)(ok:bL pm)(UN:bk Yo pm)(Qy:pm.length<=40)(hq:∀ x∈qs,iB x.1 x.2.1/\bo x.1)(hn:(qs.map fun x=>ah x.1 x.2.1).Nodup)(hl:qs.length<=2):
  ∃ st,zx Yo pm qs st dO Ym Qi g PP:=by
 have RD:∀ v∈qs.map (·.1),v.length<=1000:=fun v hv=>by
  obtain⟨x,hx,rfl⟩:=KK.mp hv;exact(hq x hx).1.ul
 obtain⟨r1,r2,r3,r4⟩:=jc (Yo:=Yo) (qs.map (·.1)) ([],pm) ok (by refine aa (Oi _) ?_;exact UN) RD;have r5:=lI (Yo:=Yo) (qs.map (·.1)) ([],pm) MF;have QP:=h.cur;have hpmo:=h.YE;have hk:=h.keys;have ht:=h.tups;rw[Lm] at QP hpmo hk ht;rw[KG] at r3 r4;dsimp only at r3;simp only[List.length_nil] at r4;refine⟨_,rfl,h.dict,h.YG,QP,hpmo,r1,by refine aa QP ?_;exact r2,by exact L3 [_,_,_] V2 (.n 60) 1 V0 (.n 40) 1 V1 (.n 2) 1 V2 (.a V0 V1) rfl Qy hl r3,by rw[←QP,KG] at r4;exact L2 [_,_] V1 (.n 2) 1 V0 (.n 2) 1 V1 (.a W0 V0) rfl hl r4,by refine aa QP ?_;exact r5,fun p hp=>?_,fun x hx=>?_⟩
 ·have h1:p.up∈(aH Yo ([],pm) (qs.map (·.1))).2.1:=ae QP (KW hp)
  rcases nC _ _ _ h1 with h|h
  ·exact(nomatch h)
  ·obtain⟨x,hx,e⟩:=KK.mp h
   show bo p.up.1;exact ae e ((hq x hx).2)
 ·obtain⟨i,a3,pre,t1,t2,t3,hi,hp,hv,hm⟩:=yw hk (by exact aa (fW _ _ _) (aa (KG _) rfl)) hn ht hx
  exact⟨a3,pre,t1,t2,t3,hv,hm,by refine aa QP ?_;exact pI _ ([],pm) ok (by refine aa (Oi _) ?_;exact UN) RD i x.1 pre (by refine aa LX (aa hi ?_);rfl) hp⟩
structure zD{α:Type}(Dp W D de al pm o1 q a f rd Dq tab c Yj Yp ns:α)(g YG G3 Z:List α):Prop where
 p:(Dp::([W,D,de,al,pm]++o1::q::(g++a::(f::rd::Dq::tab::c::(Yj::Yp::ns::G3))))).Perm (Yj::Yp::D::ns::Z)
 mDp:Dp∈Z
 mW:W∈Z
 Yu:al∈Z
 mrd:rd∈Z
 mG:∀ x∈G3,x∈Z
 mg:∀ x∈g,x∈Z
 s:∀ S:List α,S.Sublist G3->(W::de::al::pm::(YG++(tab::c::S))).Sublist Z
theorem vo(Dp W D de al pm o1 q a f rd Dq tab c Yj Yp ns:α)(G3:List α)(h:g.Perm (YG++g')):∃ Z,zD Dp W D de al pm o1 q a f rd Dq tab c Yj Yp ns g YG G3 Z:=by
 refine⟨Dp::W::de::al::pm::o1::q::((YG++g')++a::f::rd::Dq::tab::c::G3),?_,by simp,by simp,by simp,by simp,fun x hx=>by simp[hx],fun x hx=>?_,fun S hS=>?_⟩
 ·have h1:(g++a::(f::rd::Dq::tab::c::(Yj::Yp::ns::G3))).Perm ([Yj,Yp,ns]++((YG++g')++a::f::rd::Dq::tab::c::G3)):=
   (h.append (be [_,_,_,_,_,_] (be [_,_,_,_,_,_] (be [_,_,_,_,_,_] (.refl _))))).trans (Ld (YG++g') [_,_,_] _)
  refine(h1.append_left [Dp,W,D,de,al,pm,o1,q]).trans ?_;exact be [_,_,_,_,_,_,_,_] (be [_,_,_,_,_,_,_,_] (be [_,_] (be [_,_,_,_,_,_,_] (.refl _))))
 ·have:=h.mem_iff.mp hx
  simp only[KM] at this;simp only[KI,KM];rcases this with h|h<;>simp[h]
 ·refine .cons _ (.cons_cons _ (.cons_cons _ (.cons_cons _ (.cons_cons _ (.cons _ (.cons _ ?_))))))
  refine aa (KS _ _ _) ?_;refine List.Sublist.append (List.Sublist.refl _) ?_;exact List.Sublist.trans (.cons _ (.cons _ (.cons _ (.cons _ (.cons_cons _ (.cons_cons _ hS)))))) (Lz g' _)
theorem m4{α:Type}{p x y a b:α}{Z:List α}(h:p∈Z):p∈x::y::a::b::Z:=cT h
end
theorem JN(h1:∀ J:ad Value,J (.str y ty) m n->Tr c E m n (eval e1 env) J)(hy:y.length<=1006)(h2:∀ J:ad Value,(∀ t,J (.str z t) m n)->Tr c E m n (eval e2 env) J)(hz:z.length<=1000)
  (h:∀ t,J (.str (Ye " "++y++Ye "=\""++z++Ye "\"") t) m n):
  Tr c E m n (eval (.JoinedStr [.Constant (.str (Ye " ")) k1 p1, .FormattedValue e1 (-1) none p2, .Constant (.str (Ye "=\"")) k2 p3, .FormattedValue e2 (-1) none p4, .Constant (.str (Ye "\"")) k3 p5] p6) env) J:=by
 have l1:(Ye " "++y).length<=1007:=by refine aa (KD _ _) (aa wG ?_);exact L1 [_] (.a W1 V0) (.n 1007) 1 V0 (.n 1006) rfl hy
 have l2:(Ye " "++y++Ye "=\"").length<=1009:=by refine aa (KD _ _) (aa Af ?_);exact L1 [_] (.a V0 (.n 2)) (.n 1009) 1 V0 (.n 1007) rfl l1
 have l3:(Ye " "++y++Ye "=\""++z).length<=2009:=by refine aa (KD _ _) ?_;exact L2 [_,_] (.a V1 V0) (.n 2009) 1 V0 (.n 1000) 1 V1 (.n 1009) rfl hz l2
 have l4:(Ye " "++y++Ye "=\""++z++Ye "\"").length<=2010:=by refine aa (KD _ _) (aa Ag ?_);exact AK l3
 refine Hf (G4 (Gc fun _=>⟨_,_,rfl,by refine aa (Me _) (aa wG ?_);decide,?_⟩));refine aa (Me _) ?_;exact G4 (HY (h1 _ (HR (bd hy) fun _=>⟨_,_,rfl,bd l1,GQ (Hv (bd l2) (GQ (G4 (HY (h2 _ fun _=>HR (bd hz) fun _=>⟨_,_,rfl,bd l3,GQ (Hv (bd l4) (G0 (G7 (bd l4) h)))⟩)))))⟩)))
theorem sj{α:Type}{A Yj Yp D ns W de al pm tab c Yv ak:α}(e X:List α):
  (A::Yj::Yp::D::ns::W::de::al::pm::(e++(tab::c::Yv::ak::X))).Perm (A::([W,D,de,al,pm]++(Yj::Yv::Yp::ns::ak::tab::([c]++(e++X))))):=by
 refine(((Ld e [tab,c,Yv,ak] X).append_left [Yj,Yp,D,ns,W,de,al,pm]).trans ?_).cons A;exact be [_,_,_,_] (be [_,_] (be [_,_,_] (be [_,_,_] (be [_,_,_] (be [] (be [_,_,_,_] (be [] (be [] (be [_,_] (.refl _))))))))))
inductive xz(u tg:Str)(tk:Tok)(ak al:Nat)(qt:Value)(rd Dp:Nat)(Ym:List Pr)(V:X6):Flow->X7->X6->Prop
 |mk {m:X7} (A:Nat) (PN:Yb) (cA:Nat) (g2:X6):bV g2 PN (aY (Ym.map Pr.up))->gb u tg tk ak al qt m->m (Ye "resolved_names")=some (.ref rd)->m (Ye "parsed_qnames")=some (.ref Dp)->m (Ye "attr_list")=some (.ref A)->
  xz u tg tk ak al qt rd Dp Ym V .next m ((A,lO PN cA)::(g2++V))
inductive xA(u tg:Str)(tk:Tok)(ak al:Nat)(qt:Value)(rd Dp Yv Yj:Nat)(QM:Str)(Ym:List Pr)(pg:Yb)(v1 v2 v3:Addr×Obj)(Z:X6):Flow->X7->X6->Prop
 |mk {m:X7} (P0:Yb) (cg3:Nat) (Z3:X6):Z.Sublist Z3->P0.length<=2->StrsAre P0 ((Ye "<"++(QM++Ye ":"++tg))::(if aY (Ym.map Pr.up)=[] then[] else[fL (aY (Ym.map Pr.up))]))->
  gb u tg tk ak al qt m->m (Ye "resolved_names")=some (.ref rd)->m (Ye "parsed_qnames")=some (.ref Dp)->m (Ye "write")=some (.ref Yv)->xA u tg tk ak al qt rd Dp Yv Yj QM Ym pg v1 v2 v3 Z .next m ((Yj,lO (pg++P0) cg3)::v1::v2::v3::Z3)
inductive xB(u tg xp xn QM:Str)(qt:Value)(Yj:Nat)(init Ys:az)(Ym:List Pr)(pm:List UP)(st:List Str×List UP×List UP)(pg:Yb)(v1 v2 v3:Addr×Obj)(Z3:X6):Flow->X7->X6->Prop
 |mk {m:X7} (yu Qw:Option Str) (cg5:Nat) (Wy:Yb):(qt=.none/\yu=none∨(∃ tq,qt=.str (xp++Ye ":"++xn) tq)/\yu=Ys.uriOf xp/\yu≠none)->st=aH (init.flat.map Pr.up) ([],pm) (dS u tg xn yu)->
  (yu=none/\Qw=none∨bW (fun u2 p2=>yu=some u2) (fun _ p2=>Qw=some p2) (fun u2 p2=>(u2,p2)∈st.2.1++init.flat.map Pr.up))->StrsAre Wy (aX QM tg (aY (Ym.map Pr.up)) Qw xn)->
  xB u tg xp xn QM qt Yj init Ys Ym pm st pg v1 v2 v3 Z3 .next m ((Yj,lO (pg++Wy) cg5)::v1::v2::v3::Z3)
inductive j9(u tg:Str)(tk:Tok)(xp xn:Str)(Ys:az)(qt:Value)(so Sn:Obj):Option Qn->Prop
 |none:qt=.none->Sn.IsDictOf (PySem.strKind PR w) []->bb (PySem.strKind PR w) so [(ah u tg, .str (ah u tg) tk)]->j9 u tg tk xp xn Ys qt so Sn .none
 |some (u2:Str) (t2 tq:Tok):qt=.str (xp++Ye ":"++xn) tq->Ys.uriOf xp=.some u2->Sn.IsDictOf (PySem.strKind PR w) [(xp++Ye ":"++xn, .str (ah u2 xn) t2)]->
  bb (PySem.strKind PR w) so [(ah u tg, .str (ah u tg) tk),(ah u2 xn, .str (ah u2 xn) t2)]->j9 u tg tk xp xn Ys qt so Sn (.some (u2,xn,t2))
theorem j9.facts(h:j9 u tg tk xp xn Ys qt so Sn y2):
  (qt=.none/\y2=.none)∨gR (fun(u2:Str) (t2 tq:Tok)=>qt=.str (xp++Ye ":"++xn) tq) (fun u2 _ _=>Ys.uriOf xp=.some u2) (fun u2 t2 _=>y2=.some (u2,xn,t2)) (fun u2 t2 _=>Sn.IsDictOf (PySem.strKind PR w) [(xp++Ye ":"++xn, .str (ah u2 xn) t2)]):=by
 cases h with
 |none a _ _=>exact .inl ⟨a,rfl⟩
 |some u2 t2 tq a b c _=>exact .inr ⟨u2,t2,tq,a,b,rfl,c⟩
inductive xy(u tg:Str)(tk:Tok)(ak al:Nat)(xp xn:Str)(Ys:az)(qt:Value)(rd Dq:Nat)(X:X6):Flow->X7->X6->Prop
 |mk {m:X7} (so Sn:Obj) (y2:Option Qn):gb u tg tk ak al qt m->m (Ye "qnames")=some (.ref Dq)->m (Ye "resolved_names")=some (.ref rd)->j9 u tg tk xp xn Ys qt so Sn y2->xy u tg tk ak al xp xn Ys qt rd Dq X .next m ((rd,Sn)::(Dq,so)::X)
structure A7{α:Type}(o1 o2 W D de al pm Yj Yv Yp ns ak tab:α)(ex rd R Y G3 G1:List α):Prop where
 p0:(o1::o2::([W,D,de,al,pm]++(Yj::Yv::Yp::ns::ak::tab::(ex++(rd++R))))).Perm (o1::tab::(ex++Y))
 p1:Y.Perm (([W,D,ns]++rd)++G1)
 p2:Y.Perm ([W,D,de,al,pm]++(Yj::Yp::ns::G3))
 m1:Yj∈G1
 y2:o2∈Y
 yW:W∈Y
 yD:D∈Y
 ya:ak∈Y
 g2:o2∈G3
 ga:ak∈G3
 gp:Yv∈G3
 sl:(Yv::ak::(rd++R)).Sublist G3
theorem xd(o1 o2 W D de al pm Yj Yv Yp ns ak tab:α)(ex rd R:List α):∃ Y G3 G1,A7 o1 o2 W D de al pm Yj Yv Yp ns ak tab ex rd R Y G3 G1:=
 ⟨o2::W::D::de::al::pm::Yj::Yv::Yp::ns::ak::(rd++R),o2::Yv::ak::(rd++R),o2::de::al::pm::Yj::Yv::Yp::ak::R,
 (be [_,_,_,_,_,_,_,_,_,_,_] (Ld [_,_,_,_,_,_,_,_,_,_,_] ex (rd++R))).cons _,be [_] (be [_] (be [_,_,_,_,_,_,_] (Ld [_,_,_,_,_,_,_,_] rd R))),be [_] (be [_] (be [_] (be [_] (be [_] (be [_] (be [_,_] (be [_,_] (.refl _)))))))),
 by simp,by simp,by simp,by simp,by simp,by simp,by simp,by simp,Ls _ _⟩
namespace STk
def Q(wa:aF)(t:Nat->Tok)(Yi:Value)(seen done:Bool)(cnt cd cl cg cs cn ca:Nat)(init Ys:az)(al ak:Nat)(pm:List UP)(po:Obj)(u tg:Str)(tk:Tok)(pg ps:Yb)(YF:Array Value)(ex R:X6)(xp xn:Str):Prop:=∀ (args:Yb) (qt:Value) (hsa:(ak==sysModules)=false) (Vg:args=[.ref wa.W, .str (ah u tg) tk, .ref ak, .ref al]/\qt=.none∨args=[.ref wa.W, .str (ah u tg) tk, .ref ak, .ref al,qt]) (U0:qt=.none∨∃ tq,qt=.str (xp++Ye ":"++xn) tq) (hlam:j5 (Ye "C14NWriterTarget._start"++".<locals>."++"<lambda>") kW YF ex) (Qt:(wa.YD==sysModules)=false) (Yy:gv po pm) (ok:bL pm) (UN:bk (init.flat.map Pr.up) pm) (Qy:pm.length<=40) (Ti:∀ x∈init,x.2.1.length<=1000) (Qk:init.flat.length<=900) (hR:∀ p∈init.lists++init.flat.map Pr.ent,p∈R) (hpu:bo u) (Rw:∀ u2,Ys.uriOf xp=some u2->bo u2) (hpx:bo xn) (Qu:Ys.length<=100000) (S7:ps.length<=50000) (Qp:pg.length<=50000) (Ut:iB u tg) (VH:rJ (u,tg,tk)) (hxp:xp.length<=1000) (RT:xn.length<=1000) (hnc:∀ x∈Ys,x.2.1.length<=1000) (hnu:∀ p∈Ys.flat,p.YC.length<=1000/\p.pre.length<=1000) (hsq:Txt.splitMax (xp++Ye ":"++xn) (Ye ":") 1=[xp,xn]) (RS:[wa.W,wa.D,wa.ns].Nodup) (TR:∀ u2,Ys.uriOf xp=some u2->iB u2 xn/\(∀ t2,rJ (u2,xn,t2))/\ah u2 xn≠ah u tg/\¬(Ye "{"++u2=Ye "{"++u/\xn=tg)),bF 6 126 args
   (df wa t Yi seen done cnt cd init al [] cl po++((wa.Yj,lO pg cg)::(wa.Yv,bf "list.append" (.ref wa.Yj))::(wa.Yp,lO (ps++[Value.bool false]) cs)::(wa.ns,lO Ys.refs cn)::(ak,dictOf [] ca)::(123,tabObj YF)::(ex++(Ys.read++R))))
   (mQ wa Yi done cnt cd init Ys al ak ca pm u tg xp xn t pg ps R qt) (fun PQ Yr=>(∃ tq,qt=.str (xp++Ye ":"++xn) tq)/\Ys.uriOf xp=none/\PQ=Ye "Prefix "++xp++Ye " of QName \""++(xp++Ye ":"++xn)++Ye "\" is not declared in scope"/\Yr=[(wa.Yj,lO pg cg),(123,tabObj YF)])
def P_(y:((((aF×(Nat->Tok))×Value×Bool)×(Bool×Nat)×Nat)×((Nat×Nat)×Nat×Nat)×(Nat×az)×az)×(((Nat×Nat)×(List UP)×Obj)×(Str×Str)×Tok)×((Yb×Yb)×(Array Value)×X6)×(X6×Str)×Str):Prop:=Q y.1.1.1.1.1 y.1.1.1.1.2 y.1.1.1.2.1 y.1.1.1.2.2 y.1.1.2.1.1 y.1.1.2.1.2 y.1.1.2.2 y.1.2.1.1.1 y.1.2.1.1.2 y.1.2.1.2.1 y.1.2.1.2.2 y.1.2.2.1.1 y.1.2.2.1.2 y.1.2.2.2 y.2.1.1.1.1 y.2.1.1.1.2 y.2.1.1.2.1 y.2.1.1.2.2 y.2.1.2.1.1 y.2.1.2.1.2 y.2.1.2.2 y.2.2.1.1.1 y.2.2.1.1.2 y.2.2.1.2.1 y.2.2.1.2.2 y.2.2.2.1.1 y.2.2.2.1.2 y.2.2.2.2
def y_:((((aF×(Nat->Tok))×Value×Bool)×(Bool×Nat)×Nat)×((Nat×Nat)×Nat×Nat)×(Nat×az)×az)×(((Nat×Nat)×(List UP)×Obj)×(Str×Str)×Tok)×((Yb×Yb)×(Array Value)×X6)×(X6×Str)×Str:=pk (cE (cE (cE (cE (cE ja inferInstance) inferInstance) inferInstance) inferInstance) inferInstance) P_
def wa:aF:=y_.1.1.1.1.1
def t:Nat->Tok:=y_.1.1.1.1.2
def Yi:Value:=y_.1.1.1.2.1
def seen:Bool:=y_.1.1.1.2.2
def done:Bool:=y_.1.1.2.1.1
def cnt:Nat:=y_.1.1.2.1.2
def cd:Nat:=y_.1.1.2.2
def cl:Nat:=y_.1.2.1.1.1
def cg:Nat:=y_.1.2.1.1.2
def cs:Nat:=y_.1.2.1.2.1
def cn:Nat:=y_.1.2.1.2.2
def ca:Nat:=y_.1.2.2.1.1
def init:az:=y_.1.2.2.1.2
def Ys:az:=y_.1.2.2.2
def al:Nat:=y_.2.1.1.1.1
def ak:Nat:=y_.2.1.1.1.2
def pm:List UP:=y_.2.1.1.2.1
def po:Obj:=y_.2.1.1.2.2
def u:Str:=y_.2.1.2.1.1
def tg:Str:=y_.2.1.2.1.2
def tk:Tok:=y_.2.1.2.2
def pg:Yb:=y_.2.2.1.1.1
def ps:Yb:=y_.2.2.1.1.2
def YF:Array Value:=y_.2.2.1.2.1
def ex:X6:=y_.2.2.1.2.2
def R:X6:=y_.2.2.2.1.1
def xp:Str:=y_.2.2.2.1.2
def xn:Str:=y_.2.2.2.2
theorem go:Q wa t Yi seen done cnt cd cl cg cs cn ca init Ys al ak pm po u tg tk pg ps YF ex R xp xn:=by
 intro args qt hsa Vg U0 hlam Qt Yy ok UN Qy Ti Qk hR hpu Rw hpx Qu S7 Qp Ut VH hxp RT hnc hnu hsq RS TR;refine' Iz (binds:=[(Ye "self", .ref wa.W),(Ye "tag", .str (ah u tg) tk),(Ye "attrs", .ref ak),(Ye "new_namespaces", .ref al),(Ye "qname_text",qt)]) (by k_is) (by k_is) ?k9 (by rfl) (by decide+kernel) (by rfl) (by rfl) (by rfl) ?k15 ?k16 ?_
 case k9=>
  intro s X;rcases Vg with⟨rfl,rfl⟩|rfl
  ·exact binds_K X rfl (by k_is) rfl rfl rfl
  ·exact binds_K X rfl (by k_is) rfl rfl rfl
 case k15=>
  intro L cells Y;obtain⟨o1,o2,rfl,-,-⟩:=CellsAre.two Y;refine⟨ax.cons.mpr ⟨fun q hq=>?_,ax.cons.mpr ⟨fun q hq=>(nomatch hq),ax.nil⟩⟩,fun p hp=>?_⟩
  ·refine aa (KF.mp hq) ?_;exact(Nat.succ_ne_self (L+1)).symm
  ·rcases KI.mp hp with rfl|hp
   ·exact LI (LR L)
   ·refine aa (KF.mp hp) ?_;exact LR L
 case k16=>
  rintro PQ Yr ⟨-,-,-,rfl⟩ q hq;rcases KI.mp hq with rfl|hq
  ·simp[df]
  ·refine aa (KF.mp hq) ?_
   simp[df]
 intro A₀ base dp un gd L outer h₀ os g₀ c E K cells hE hK Y;obtain⟨o1,o2,rfl,d1,d2⟩:=CellsAre.two Y;clear Y;change o1.data=.cell none at d1;change o2.data=.cell (some (.ref wa.W)) at d2;have RJ:∀ {m n p} {J:ad Value},(L+1,o2)∈n->J (.ref wa.W) m n->Tr c E m n (eval (.Name (Ye "self") p) c.env) J:=fun hm h=>GJ rfl hm d2 h;change Tr _ _ (fun y=>if y=Ye "qname_text" then some qt else if y=Ye "new_namespaces" then some (.ref al) else if y=Ye "attrs" then some (.ref ak) else if y=Ye "tag" then some (.str (ah u tg) tk) else none) _ _ _;generalize P7:(fun y=>if y=Ye "qname_text" then some qt else _:X7)=m0;revert m0;refine wrap ?_;intro m0 P7;have lk:gb u tg tk ak al qt m0:=ae P7 ⟨rfl,rfl,rfl,rfl⟩;clear P7;obtain⟨Y,G3,G1,sp⟩:=xd (L+1+1,o1) (L+1,o2) (wa.W,instObj 150 wa.D) (wa.D,dictOf (aE wa t Yi seen done) cnt) (wa.decl,lO (init.refs++[Value.ref al]) cd) (al,lO (([]:List Pr).map Pr.val) cl) (wa.YD,po) (wa.Yj,lO pg cg) (wa.Yv,bf "list.append" (.ref wa.Yj)) (wa.Yp,lO (ps++[Value.bool false]) cs) (wa.ns,lO Ys.refs cn) (ak,dictOf [] ca) (123,tabObj YF) ex Ys.read R;refine Gd sp.p0 ?_;have up:∀ {p:Addr×Obj},p∈Y->p∈(L+1+1,o1)::(123,tabObj YF)::(ex++Y):=fun h=>dj (KB _ h);have hX1:=((sp.p1.append_left ex).cons (123,tabObj YF)).cons (L+1+1,o1);generalize hX:(L+1+1,o1)::(123,tabObj YF)::(ex++Y)=X at up hX1⊢;revert X;refine wrap ?_;intro X hX up hX1;refine Gk (GR (Gy (Gb (Hy (si wa t Yi seen done) (fun J h=>RJ (up sp.y2) h) (up sp.yW) (up sp.yD) (Gw (Hl (F9 (F6 ?_))))))));refine Gf (Jh (by exact rfl) (by exact rfl) fun Dq ob hS0=>FY lk.tg (JI (pre:=[]) rfl hS0 (by decide) LH fun so hS=>FY lk.at' (J3 (.head _) hS (K1 1) (.tail _ (up sp.ya)) hsa (Gf (IG fun rd Sn hr hrs=>?_)))));show Tr _ _ _ _ _ _;generalize P7:(fun y=>if y=Ye "resolved_names" then some (Value.ref rd) else _)=m1;revert m1;refine wrap ?_;intro m1 P7;have QQ:gb u tg tk ak al qt m1:=ae P7 ⟨lk.tg,lk.at',lk.nn,lk.qt⟩;have kq:m1 (Ye "qnames")=some (.ref Dq):=ae P7 rfl;have kr:m1 (Ye "resolved_names")=some (.ref rd):=ae P7 rfl;clear P7 lk;refine Gu (GH (K₁:=xy u tg tk ak al xp xn Ys qt rd Dq X) (fun T7 Sc=>?s4) ?rest)
 case s4=>
  rcases U0 with hq|⟨tq,hq⟩
  ·exact GV (Gb (FY (hq▸QQ.qt) (Gw (Hc (F9 (F6 (Sc _ _ _ (.mk so Sn none QQ kq kr (.none hq hr hS)))))))))
  ·have kt1:m1 (Ye "qname_text")=some (.str (xp++Ye ":"++xn) tq):=hq▸QQ.qt
   refine GV (Gb (FY kt1 (Gw (Ia (F9 (Id (Ga (RJ (dj (up sp.y2)) (GZ (jx wa t Yi seen done) (dj (up sp.yW)) (dj (up sp.yD)) (Ha (jx wa t Yi seen done).hk (F0 (FY kt1 (FZ ?_)))))))))))));have hp:((rd,Sn)::(Dq,so)::X).Perm (([(wa.W,instObj 150 wa.D),(wa.D,dictOf (aE wa t Yi seen done) cnt),(wa.ns,lO Ys.refs cn)]++Ys.read)++((rd,Sn)::(Dq,so)::(L+1+1,o1)::(123,tabObj YF)::(ex++G1))):=
    ((hX1.trans (Ld ((L+1+1,o1)::(123,tabObj YF)::ex) ([(wa.W,instObj 150 wa.D),(wa.D,dictOf (aE wa t Yi seen done) cnt),(wa.ns,lO Ys.refs cn)]++Ys.read) G1)).append_left [_,_]).trans (Ld [_,_] _ _)
   refine Gd hp (bF.to (Ic (rR wa t Yi seen done cnt cn Ys xp xn tq hxp RT hnc hnu hsq)) c E _ _ _ ?k ?J ?R)
   case k=>show 4<=5;decide
   case R=>exact hE _ _ fun PQ Vl ⟨⟨h1,h2⟩,h3⟩=>⟨_,⟨⟨tq,hq⟩,h1,h2,rfl⟩,fun q hq=> .inr (by rcases KI.mp hq with rfl|hq;(· exact cT (KB _ sp.m1));(· refine aa (KF.mp hq) ?_;exact ir))⟩
   case J=>
    rintro v n' ⟨f',⟨⟨u2,VM,t2,rfl⟩,rfl⟩,rfl⟩;obtain⟨_,_,P5,_⟩:=TR u2 VM;refine Gd hp.symm (Go ?_);show Tr _ _ _ _ _ _;generalize P7:(fun y=>if y=Ye "qname" then some (Value.str _ t2) else _)=m2;revert m2;refine wrap ?_;intro m2 P7;have Rd:gb u tg tk ak al qt m2:=ae P7 ⟨QQ.tg,QQ.at',QQ.nn,QQ.qt⟩;have kt2:m2 (Ye "qname_text")=some (.str (xp++Ye ":"++xn) tq):=hq▸Rd.qt;have kq2:m2 (Ye "qnames")=some (.ref Dq):=ae P7 kq;have kr2:m2 (Ye "resolved_names")=some (.ref rd):=ae P7 kr;have kn2:m2 (Ye "qname")=some (.str (ah u2 xn) t2):=ae P7 rfl;clear P7;exact Ix (FY kr2 (FY kt2 (Iw (pre:=[]) rfl hr (by decide) fun obr' hr'=>Ge (Ga (FY kq2 (Kh aK hS (Gq (F0 (FY kn2 (FZ (J5 (pre:=[_]) rfl hS (by show 1<=2;decide) (fun h=>P5 (KF.mp h)) fun SN RY=>F6 (Sc _ _ _ (.mk SN obr' (some (u2,xn,t2)) Rd kq2 kr2 (.some u2 t2 tq hq VM hr' RY))))))))))))))
 case rest=>
  rintro f m n ⟨so,Sn,y2,Rd,kq2,kr2,We⟩;clear hS hr;refine Gk (GR (Gy (Gb (Hy (wQ wa t Yi seen done) (fun J h=>RJ (dj (up sp.y2)) h) (dj (up sp.yW)) (dj (up sp.yD)) (Gw (Hc (F9 (Gf (Gw (F6 ?_))))))))));refine G8 (JQ (uL wa t Yi seen done) (fun J h=>RJ (dj (up sp.y2)) h) (dj (up sp.yW)) (dj (up sp.yD)) fun q=>Hg (pre:=[_,_,_]) rfl (by rw[←hX];rfl) d1 (fun Vb d1'=>?_) rfl);have hSq:bb (PySem.strKind PR w) so (setOf (u,tg,tk) y2):=by cases We<;>assumption
  have U9:∀ x,y2=some x->iB x.1 x.2.1/\rJ x/\ah x.1 x.2.1≠ah u tg/\¬(Ye "{"++x.1=Ye "{"++u/\x.2.1=tg)/\bo x.1:=by
   intro x e
   cases We with
   |none=>cases e
   |some u2 t2 _ _ VM=>cases e;obtain⟨a1,a2,a3,a4⟩:=TR u2 VM;exact⟨a1,a2 t2,a3,a4,Rw u2 VM⟩
  clear hX1 up hX X;refine JG (wa:=wa) (t:=t) (Yi:=Yi) (seen:=seen) (done:=done) (cnt:=cnt) (cd:=cd) (cl:=cl) (init:=init) (al:=al) (pm:=pm) (po:=po) (qs:=dI (u,tg,tk) y2) (by exact rfl) (by exact rfl) (by exact rfl) (by decide) (by decide) (by rfl) (by rfl) (by intro _;rfl) (by show 4<=5;decide) Qt (fun _=>rfl) (fun _=>rfl) (fun _=>rfl) (fun _=>rfl) (by decide) (by decide) Yy ok UN Qy Ti Qk wX ?hq (lJ fun x e=>(U9 x e).2.2.1) ?_
  case hq=>
   intro x hx;rcases o8 hx with rfl|e
   ·exact Ut
   ·exact(U9 x e).1
  refine Jt (by k_is) (by boot_fast) (by decide) (FY kq2 (Kt (pre:=[_,_,_,_]) ?hC rfl rfl hlam rfl rfl fun f c' oc vs tv T8 pmv hd hv=>?_))
  case hC=>exact fun h X=>⟨_,_,_,_,_,_,_,_,_,X 125 _ (by k_is),rfl,rfl,by rfl,by rfl,by rfl,by rfl,by rfl,by rfl,by decide⟩
  refine Jk (x1:=(u,tg,tk)) (y2:=y2) (by show 1<=5;decide) ir hSq ?turn (fun x2 e=>(U9 x2 e).2.2.2.1) fun a cL=>?_
  case turn=>
   intro x hx s l;refine wE l (by show 1<=5;decide) (.head _) uQ hd hv (by rfl) (by decide) (by rfl) (by rfl) (by rfl) (fun _ _ _=>by rfl) (fun _=>⟨_,by rfl⟩) ?_ ?_
   ·rcases hx with rfl|e
    ·exact VH
    ·exact(U9 x e).2.1
   ·rcases hx with rfl|e
    ·exact vc Ut
    ·exact vc (U9 x e).1
  refine⟨a,cL,L+1+1,q,Vb,_,rfl,by exact rfl,d1',fun p hp=>uR (sp.sl.subset (.tail _ (.tail _ (KB _ (hR p hp))))),(sp.p2.append_left [_,_,_,_,_,_,_,_]).trans ((Ld [_,_,_,_,_,_,_,_] (df wa t Yi seen done cnt cd init al [] cl po) _).trans (Lu _ (be [_,_,_,_,_] (be [_,_] (.refl _))))),?_⟩;intro Dp dO Ym Rr Qi g PP Sd;obtain⟨st,pa⟩:=uY Sd ok UN Qy (fun x hx=>by
   rcases o8 hx with rfl|e
   ·exact⟨Ut,hpu⟩
   ·exact⟨(U9 x e).1,(U9 x e).2.2.2.2⟩) (lJ fun x e=>(U9 x e).2.2.1) ve
  clear Sd hSq;have TQ:∀ p∈Ym,p.YC.length<=1000/\p.pre.length<=1000/\0<p.pre.length:=fun p hp=>pa.i2.len pa.i1 pa.i3 (KA _ (KW hp));have hlx:j5 vU kW #[rawInt kW.line,rawInt kW.col, .ref c'] [(c',oc)]:= .inr ⟨c',oc,_,tv,rfl,rfl,hd,hv⟩;obtain⟨g',hg'⟩:=AJ (kI pa.i5) (fun q hq=>by obtain⟨p,hp,rfl⟩:=KK.mp hq;exact pa.YG p hp:∀ q∈Ym.map Pr.ent,q∈g);obtain⟨Z,sz⟩:=vo (Dp,dO) (wa.W,instObj 150 wa.D) (wa.D,dictOf (aE wa t Yi seen done) cnt) (wa.decl,lO (init.refs++[Value.ref al]) cd) (al,lO (Ym.map Pr.val) Rr) (wa.YD,Qi) (L+1+1,Vb) (q,methodObj (.ref 90) (.ref wa.W)) (a,lO ((dI (u,tg,tk) y2).map Qn.val) cL) (f,_) (rd,Sn) (Dq,so) (123,tabObj #[rawInt kW.line,rawInt kW.col, .ref c']) (c',oc) (wa.Yj,lO pg cg) (wa.Yp,lO (ps++[Value.bool false]) cs) (wa.ns,lO Ys.refs cn) G3 hg';refine Gd sz.p ?_;have hZs:=sz.s _ sp.sl;have zm:=sz.mG;clear hd hv hg';show Tr _ _ _ _ _ _;generalize P7:(fun z=>if z=Ye "parsed_qnames" then some (Value.ref Dp) else _)=m3;revert m3;refine wrap ?_;intro m3 P7;have Qf:gb u tg tk ak al qt m3:=ae P7 ⟨Rd.tg,Rd.at',Rd.nn,Rd.qt⟩;have kr3:m3 (Ye "resolved_names")=some (.ref rd):=ae P7 kr2;have kp3:m3 (Ye "parsed_qnames")=some (.ref Dp):=ae P7 rfl;clear P7 Rd kr2 kq2;refine Gu (GH (K₁:=xz u tg tk ak al qt rd Dp Ym ((wa.Yj,lO pg cg)::(wa.Yp,lO (ps++[Value.bool false]) cs)::(wa.D,dictOf (aE wa t Yi seen done) cnt)::(wa.ns,lO Ys.refs cn)::Z)) (fun T7 Sc=>?s8) ?rest8)
  case s8=>
   have hV:∀ {p:Addr×Obj},p∈Z->p∈(wa.Yj,lO pg cg)::(wa.Yp,lO (ps++[Value.bool false]) cs)::(wa.D,dictOf (aE wa t Yi seen done) cnt)::(wa.ns,lO Ys.refs cn)::Z:=fun h=>cT h;generalize (wa.Yj,lO pg cg)::(wa.Yp,lO (ps++[Value.bool false]) cs)::(wa.D,dictOf (aE wa t Yi seen done) cnt)::(wa.ns,lO Ys.refs cn)::Z=V at hV Sc⊢;revert V;refine wrap ?_;intro V hV Sc
   cases Wp:Ym.isEmpty with
   |true=>
    have he:Ym=[]:=List.isEmpty_iff.mp Wp;exact GV (Gn (FY Qf.nn (Ht (b:=false) (hV sz.Yu) (by refine aa he ?_;exact K6 _) (by refine aa he ?_;rfl) (Gf (Gx (FZ ⟨K6 _,fun A=>F6 (Sc _ _ _ (.mk A [] 0 [] (by refine aa he ?_;exact .nil) ⟨Qf.tg,Qf.at',Qf.nn,Qf.qt⟩ kr3 kp3 rfl))⟩))))))
   |false=>
    refine GV (Gn (FY Qf.nn (Ht (b:=true) (hV sz.Yu) (by have:=pa.i4;refine aa (KG _) ?_;exact bd this) (by refine aa List.isEmpty_map (aa Wp ?_);rfl) ?_)));refine IF (FY Qf.nn ⟨.list al (Ym.map Pr.val) Rr,fun j _ PN g2=>bV g2 PN ((Ym.take j).map fun p=>aV p.up),rfl, .inl (hV sz.Yu),by have:=pa.i4;show (Ym.map Pr.val).length<=1000;refine aa (KG _) ?_;exact bd this, .nil,?turn,?last⟩)
    case turn=>
     intro E' j v PN g2 I D C oI oC mC cD Y' N hj hv hP xC hY hN;change (Ym.map Pr.val)[j]?=some v at hv;rw[LX] at hv;obtain⟨p,hp,rfl⟩:=Lv.mp hv;obtain⟨S5,Uq,hl3⟩:=TQ p (LL hp);refine HT (k:=0) (x:= .str p.YC p.tu) (y:= .str p.pre p.tp) (KB (_::_::_::g2) (hV (sz.mg _ (pa.YG p (LL hp))))) (GB (pre:=[_]) rfl xC fun Q9 x1=>GB (pre:=[_]) rfl x1 fun Rz x2=>GI ?_);refine GA (F0 (Hb (Gn (Gh aK x2 rfl (HF hl3 (bd Uq) (F8 (Gc fun t1=>Gh aK x2 rfl (Gm (by refine aa wH ?_;exact L0 [] (.n 6) (.n 1000000) rfl) (bd Uq) fun t2=>F0 (Gh aK x2 rfl (FZ ⟨by show 2<=1000;decide,fun B=>hY _ _ _ ⟨rfl,Rz,_,(B,_)::g2,x2,be [_] (be [_] (be [_] (.refl _))),?_⟩⟩))))))))));show bV _ (PN++[.ref B]) ((Ym.take (j+1)).map fun p=>aV p.up);exact aa (cC hp) (aa KP (bV.snoc (t:=t2) (u:=p.tu) (a:=aV p.up) (.head _) (bV.mono (fun q hq=> .tail _ hq) hP)))
    case last=>
     intro D _ PN g2 cD ho hP;have hP:bV g2 PN ((Ym.map Pr.up).map aV):=by
      have h:bV g2 PN ((Ym.take (Ym.map Pr.val).length).map fun p=>aV p.up):=hP;rw[KG,Lm] at h;exact aa M4 h
     refine Ge (Ga (FY rfl (Gj (.head _) PySem.F.slot_list_sort PySem.F.type_list_sort (Hk (J2 hP (fun q hq=>KA _ hq) ?e1 (by refine aa (KG _) ?_;exact pa.i4) (uV pa.i5 fun x hx y hy e=>pa.i2.inj pa.i1 pa.i3 (KA _ hx) (KA _ hy) e) fun SU k' hA=>F6 (Sc _ _ _ (.mk D SU k' g2 hA ⟨Qf.tg,Qf.at',Qf.nn,Qf.qt⟩ kr3 kp3 rfl)))))))
     case e1=>intro e;rw[List.map_eq_nil_iff.mp e] at Wp;cases Wp
  case rest8=>
   rintro fl m n ⟨A,PN,cA,g2,hAt,Ta,kr4,kp4,ka4⟩;clear Qf kr3 kp3;refine Gd (Ld (_::g2) [_,_,_,_] Z) ?_;have hZZ:Z.Sublist ((A,lO PN cA)::g2++Z):=Lz _ _;have hAm:(A,lO PN cA)∈(A,lO PN cA)::g2++Z:= .head _;have hAg:∀ p∈g2,p∈(A,lO PN cA)::g2++Z:=fun p hp=>KA _ (.tail _ hp);generalize (A,lO PN cA)::g2++Z=Z2 at hZZ hAm hAg⊢;revert Z2;refine wrap ?_;intro Z2 hZZ hAm hAg;have z2:=hZZ.subset;have zo:=z2 (zm _ sp.g2);have zW:=z2 sz.mW;have za:=z2 (zm _ sp.ga);have zp:=z2 (zm _ sp.gp);refine Gk (Gn (FY Ta.at' (Jp (m4 za) (dictE ca) hsa (by decide) (F6 (Gf (Ga (FY Ta.at' (Ki (m4 za) (dictE ca) (Gq (F0 (Gc fun ts=>FZ (Ke (m4 za) (dictE ca) hsa ?_))))))))))));have mW:∀ {x},(wa.W,instObj 150 wa.D)∈x::(wa.Yp,lO (ps++[Value.bool false]) cs)::(wa.D,dictOf (aE wa t Yi seen done) cnt)::(wa.ns,lO Ys.refs cn)::Z2:=m4 zW;refine Ge (Ga (Hy (ib wa t Yi seen done) (fun J h=>RJ (m4 zo) h) mW cq (Gj aK Lq Li (Gq (F0 (Hb (Gn (FY rfl (Hq (Gg (Hy (ib wa t Yi seen done) (fun J h=>RJ (m4 zo) h) mW cq (G6 fun t1=>Ho aK (FZ (Gs (pre:=[_]) rfl (by refine aa KJ ?_;show ps.length+1<=100000;exact L1 [_] (.a V0 W1) (.n 100000) 1 V0 (.n 50000) rfl S7) ?_))))))))))))));refine Gf (Hy (iO wa t Yi seen done) (fun J h=>RJ (m4 zo) h) (m4 zW) cq ?_);show Tr _ _ _ _ _ _;generalize P7:(fun z=>if z=Ye "write" then some (Value.ref wa.Yv) else _)=m5;revert m5;refine wrap ?_;intro m5 P7;have VO:gb u tg tk ak al qt m5:=ae P7 ⟨Ta.tg,Ta.at',Ta.nn,Ta.qt⟩;have kr5:m5 (Ye "resolved_names")=some (.ref rd):=ae P7 kr4;have kp5:m5 (Ye "parsed_qnames")=some (.ref Dp):=ae P7 kp4;have ka5:m5 (Ye "attr_list")=some (.ref A):=ae P7 ka4;have kw5:m5 (Ye "write")=some (.ref wa.Yv):=ae P7 rfl;clear P7 Ta kr4 kp4 ka4 mW za zW;obtain⟨_,QM,tt1,tt2,tt3,hval1,hmt1,hin1⟩:=pa.name (u,tg,tk) wY;have hpl1:QM.length<=1000:=(pa.i2.len pa.i1 pa.i3 hin1).2.1;have htl1:=Ut.tl;refine Ge (HG kw5 (m4 zp) (F8 (Gc fun t2=>Gg (Gg (FY kp5 (FY VO.tg (Hn (m4 (z2 sz.mDp)) pa.dict hval1 (F7 fun t3=>Hj (j:=0) (xs:=[.str (QM++Ye ":"++tg) tt1, .str tg tt2, .str u tt3]) (m4 (z2 (sz.mg _ hmt1))) rfl rfl (by show 3<=1000;decide) (Gm (by refine aa Cj ?_;exact L0 [] W1 (.n 1000000) rfl) (by simp only[KD,uG];exact L2 [_,_] (.a (.a V0 W1) V1) (.n 1000000) 1 V0 (.n 1000) 1 V1 (.n 1000) rfl hpl1 htl1) fun t4=>⟨m4 zp,Hs (pre:=[]) (m4 zp) rfl (bd Qp) ?_⟩)))))))));have Td:=hAt.len;have Wd:(aY (Ym.map Pr.up)).length<=2:=qf (by refine aa (KG _) ?_;exact pa.i4);refine Gu (GH (K₁:=xA u tg tk ak al qt rd Dp wa.Yv wa.Yj QM Ym pg (wa.Yp,lO (ps++[Value.bool false]++[Value.bool false]) (cs+1)) (wa.D,dictOf (aE wa t Yi seen done) cnt) (wa.ns,lO Ys.refs cn) Z) (fun T7 Sc=>?s14) ?rest14)
   case s14=>
    cases hoe:PN.isEmpty with
    |true=>
     have he:PN=[]:=List.isEmpty_iff.mp hoe;have hAz:aY (Ym.map Pr.up)=[]:=Mv (by refine ae Td (aa he ?_);rfl);exact GV (Gn (FY ka5 (Ht (b:=false) (m4 hAm) (by exact L3 [_,_] V0 (.n 100000) 3 V0 V1 2 V1 V0 1 V1 (.n 2) rfl (eL Td) (eG Td) Wd) hoe (F6 (Sc _ _ _ (.mk [_] _ Z2 hZZ (by show 1<=2;decide) (by refine aa (KZ hAz) ?_;exact .cons _ _ .nil) VO kr5 kp5 kw5))))))
    |false=>
     refine GV (Gn (FY ka5 (Ht (b:=true) (m4 hAm) (by exact L3 [_,_] V0 (.n 100000) 3 V0 V1 2 V1 V0 1 V1 (.n 2) rfl (eL Td) (eG Td) Wd) hoe (Ge (HG kw5 (m4 zp) (Ga (Gc fun t5=>HM Ox Oy (Gq (F0 (GU (FY ka5 ⟨.list A PN cA,fun j _ sv gg=>gg=[]/\StrsAre sv (((aY (Ym.map Pr.up)).take j).map fun a=>Ye " "++a.1++Ye "=\""++a.2++Ye "\""),rfl, .inl (m4 hAm),by show PN.length<=1000;exact L3 [_,_] V0 (.n 1000) 3 V0 V1 2 V1 V0 1 V1 (.n 2) rfl (eL Td) (eG Td) Wd,⟨rfl, .nil⟩,?turn,?last⟩)))))))))))
     case turn=>
      rintro E' j v sv g I D C oI oC mC cD Y N hj hv ⟨rfl,hS⟩ xC hY hN;obtain⟨a2,Aj,ta,ua,ha,rfl,UW⟩:=hAt.get hv;obtain⟨x,hx,rfl⟩:=jw (LL ha);obtain⟨p,hp,rfl⟩:=KK.mp hx;obtain⟨S5,Uq,hl3⟩:=TQ p hp;have UW:=hAg _ UW;dsimp only at UW;have Tu:(Ye "xmlns:"++p.pre).length<=1006:=by refine aa (KD _ _) (aa wH ?_);exact L1 [_] (.a (.n 6) V0) (.n 1006) 1 V0 (.n 1000) rfl Uq
      refine HT (cZ (m4 UW)) (GB (pre:=[_]) rfl xC fun Q9 x1=>GB (pre:=[_]) rfl x1 fun Rz x2=>GI ?_);refine JN (y:=aV p.up|>.1) (z:=p.YC) (fun J h=>Gh aK x2 rfl h) Tu (fun J h=>GE (f:=168) (fun J h=>H9 (by k_is) h) (by k_is) (Gh aK x2 rfl (dT.to (zI _ _ (pa.pl p hp)) (by show 2<=5;decide) fun v hv=>by obtain⟨tr,rfl⟩:=hv;exact h tr))) S5 fun s6=>hY _ _ _ ⟨rfl,Rz,_,[],x2, .refl _,rfl,?fin⟩
      case fin=>
       exact aa (cC ha) (aa KP (M3 hS (.cons _ _ .nil)))
     case last=>
      rintro D _ sv gg cD ho ⟨rfl,hS⟩;rw[show dv.N (.list A PN cA)=PN.length from rfl,Td,Lm] at hS;refine Gd (Ld [_] [_,_,_,_] Z2) (FZ (Iq (its:=sv.toArray) (m4 (.head _)) hS (by decide+kernel) (qe Wd fun a ha=>?hw) fun t6=>⟨m4 (.tail _ zp),Hs (pre:=[]) (m4 (.tail _ zp)) rfl (by refine aa KJ ?_;show pg.length+1<=100000;exact L1 [_] (.a V0 W1) (.n 100000) 1 V0 (.n 50000) rfl Qp) (F6 ?fin)⟩))
      case hw=>
       obtain⟨x,hx,rfl⟩:=jw ha;obtain⟨p,hp,rfl⟩:=KK.mp hx;obtain⟨S5,Uq,hl3⟩:=TQ p hp;exact⟨by show (Ye "xmlns:"++p.pre).length<=2000;refine aa (KD _ _) (aa wH ?_);exact L1 [_] (.a (.n 6) V0) (.n 2000) 1 V0 (.n 1000) rfl Uq,S5⟩
      case fin=>
       refine aa (KS _ _ _) ?_;refine Sc _ _ _ (.mk [_,_] _ (_::Z2) (hZZ.cons _) (by show 2<=2;decide) ?_ VO kr5 kp5 kw5);rw[KO fun e=>?_]
       ·exact .cons _ _ (.cons _ _ .nil)
       ·rw[e] at Td
        rw[Mv Td] at hoe
        cases hoe
   case rest14=>
    rintro fl m n ⟨VS,cg3,Z3,hZ3,hl3,hst3,RK,kr6,kp6,kw6⟩;clear VO kr5 kp5 ka5 kw5 zo zp z2 hZZ hAm hAg hAt Td;have z3:=hZ3.subset;have zo:=z3 (zm _ sp.g2);have zp:=z3 (zm _ sp.gp);have hlp:(pg++VS).length<=60000:=by refine aa KJ ?_;exact L2 [_,_] (.a V0 V1) (.n 60000) 1 V0 (.n 50000) 1 V1 (.n 2) rfl Qp hl3
    refine Ge (HG kw6 (m4 zp) (Gc fun t7=>⟨m4 zp,Hs (pre:=[]) (m4 zp) rfl (bd hlp) ?_⟩));have Ws:=M3 hst3 (.cons (Ye ">") t7 .nil);have hl4:(VS++[Value.str (Ye ">") t7]).length<=3:=by refine aa KJ ?_;show VS.length+1<=3;exact AK hl3
    refine aa (KS pg VS _) ?_;generalize VS++[Value.str (Ye ">") t7]=WZ at Ws hl4⊢;revert WZ;refine wrap ?_;intro WZ Ws hl4;refine Gu (GH (K₁:=xB u tg xp xn QM qt wa.Yj init Ys Ym pm st pg (wa.Yp,lO (ps++[Value.bool false]++[Value.bool false]) (cs+1)) (wa.D,dictOf (aE wa t Yi seen done) cnt) (wa.ns,lO Ys.refs cn) Z3) (fun T7 Sc=>?s16) ?rest16)
    case s16=>
     rcases We.facts with⟨hq,hy⟩|⟨u2,t2,tq,hq,VM,hy,hr2⟩
     ·exact GV (Gb (FY (hq▸RK.qt) (Gw (Hc (F9 (F6 (Sc _ _ _ (.mk none none _ _ (.inl ⟨hq,rfl⟩) (by refine aa pa.hst (aa hy ?_);rfl) (.inl ⟨rfl,rfl⟩) Ws))))))))
     ·have kt6:_=some (Value.str (xp++Ye ":"++xn) tq):=hq▸RK.qt
      obtain⟨_,Qw,ta,tb,tc,hval2,hmt2,UU⟩:=pa.name (u2,xn,t2) (by refine aa hy ?_;unfold dI;dsimp only;split<;>simp);have Uq:Qw.length<=1000:=(pa.i2.len pa.i1 pa.i3 UU).2.1;refine GV (Gb (FY kt6 (Gw (Ia (F9 (Ge (HG kw6 (m4 zp) (GE (f:=161) (fun J h=>Gz (by k_is) h) (by k_is) (Gg (Gg (FY kp6 (Gg (FY kr6 (FY kt6 (Hn (m4 (z3 sz.mrd)) hr2 qG (Hn (m4 (z3 sz.mDp)) pa.dict hval2 (F7 fun t8=>Hj (j:=0) (xs:=[.str (Qw++Ye ":"++xn) ta, .str xn tb, .str u2 tc]) (m4 (z3 (sz.mg _ hmt2))) rfl rfl (by show 3<=1000;decide) (dT.to (tL _ _ (((pa.i2.plain pa.i1 pa.i3 UU).Yv qj).Yv hpx)) (by show 2<=5;decide) fun v hv=>?esc))))))))))))))))))
      case esc=>
       obtain⟨tr,rfl⟩:=hv;refine⟨m4 zp,Hs (pre:=[]) (m4 zp) rfl (by refine aa KJ ?_;exact L2 [_,_] (.a V0 V1) (.n 100000) 1 V0 (.n 50000) 1 V1 (.n 3) rfl Qp hl4) (F6 ?_)⟩;refine aa (KS pg WZ _) ?_;refine Sc _ _ _ (.mk (some u2) (some Qw) _ _ (.inr ⟨⟨tq,hq⟩,VM.symm,fun e=>(nomatch e)⟩) ?_ (.inr ⟨u2,Qw,rfl,rfl,pa.cur▸UU⟩) ?_)
       ·exact aa pa.hst (aa hy (aa vz rfl))
       ·have:=M3 Ws (.cons (Qw++Ye ":"++xn) tr .nil)
        rw[KS] at this;exact this
    case rest16=>
     rintro fl m n ⟨yu,Qw,cg5,Wy,TX,Wt,Tz,hst5⟩;refine Gv (HA (RJ (m4 zo) (Gl (es':=fun _=>aE wa t Yi true done) (k':=cnt) (vm wa t Yi seen done) (m4 (z3 sz.mW)) (pre:=[_,_]) rfl (fun t0=>⟨t0,wW wa t Yi seen done cnt t0⟩) (fun _=>by show 17<=1000;decide) fun t9=>?_)));refine Ge (Ga (Hy (lC wa t Yi true done) (fun J h=>RJ (m4 zo) h) (m4 (z3 sz.mW)) cq (Gj ir Lq Li (Gq (F0 (Gx (FZ ⟨by decide,fun A2=>FZ (Gs (pre:=[_,_,_,_]) rfl (by unfold az.refs;refine aa (KG _) ?_;exact Qu) (GW (.cons_cons _ (.cons_cons _ (.cons_cons _ (.cons_cons _ (.cons_cons _ (hZs.trans hZ3)))))) (Gd (sj (Ym.map Pr.ent) (Ys.read++R)) (F6 (hK _ _ _ _ (List.Sublist.refl _) ⟨rfl,yu,Rr,cg5,cs+1,cn+1,A2,Ym,Qi,Wy,QM,Qw,_,[(c',oc)],TX,by refine ae Wt ?_;exact pa.cur,by refine ae Wt ?_;exact pa.YE,by refine ae Wt (ae pa.cur ?_);exact hin1,by refine ae Wt ?_;exact Tz,hst5,hlx,rfl⟩)))))⟩)))))))
end STk
theorem yc(wa:aF)(t:Nat->Tok)(Yi:Value)(seen done:Bool)(cnt cd cl cg cs cn ca:Nat)(init Ys:az)(al ak:Nat)(pm:List UP)(po:Obj)(u tg:Str)(tk:Tok)(pg ps:Yb)(YF:Array Value)(ex R:X6)(xp xn:Str):STk.Q wa t Yi seen done cnt cd cl cg cs cn ca init Ys al ak pm po u tg tk pg ps YF ex R xp xn:=cU (P:=STk.P_) STk.go (((((wa,t),(Yi,seen)),((done,cnt),cd)),(((cl,cg),(cs,cn)),((ca,init),Ys))),((((al,ak),(pm,po)),((u,tg),tk)),(((pg,ps),(YF,ex)),((R,xp),xn))))
noncomputable def aC (l:List (List UP)):List UP:=l.reverse.flatten
noncomputable def cX (ns:List (List UP)) (x:Str):Option Str:=((aC ns).find? fun p=>p.2==x).map (·.1)
def preOf(pm:List UP)(u:Str):Str:=(b9 pm u).getD ⟨#[]⟩
structure AW where
 decl:List (List UP)
 ns:List (List UP)
 pm:List UP
 Yj:List Str
 Yi:Option (Str×Str)
 data:Option (Str×Str)
 seen:Bool
def cr(a:AW)(Yo:List (List UP))(u tg:Str)(yu:Option Str)(xn:Str):AW:=
 let st:=aH (aC Yo) ([],a.pm) (dS u tg xn yu)
 {a with seen:=true,decl:=Yo++[st.2.1],pm:=st.2.2,ns:=a.ns++[[]],Yj:=a.Yj++aX (preOf st.2.2 u) tg (aY st.2.1) (yu.map (preOf st.2.2)) xn}
noncomputable def eX(y:Str):Bool:=[98,99,100,108,112,115].contains (y.cps.getD 3 0)&&(y.cps.toList.drop 5).all (· !=45)
def dH(p:Str):Str:=⟨p.cps.extract 0 4⟩
def ly(xp xn:Str):Str:=Ye "Prefix "++xp++Ye " of QName \""++(xp++Ye ":"++xn)++Ye "\" is not declared in scope"
def ar(a:AW):Except Str AW:=match a.data with
 |none=> .ok a
 |some (p,q)=>match a.Yi with
  |none=> .ok {a with data:=none,Yj:=a.Yj++[p++q]}
  |some (u,tg)=>if eX (p++q) then match cX a.ns (dH p) with
    |none=> .error (ly (dH p) q)
    |some u2=> .ok (cr {a with data:=none,Yi:=none} a.decl.dropLast u tg (some u2) q)
   else let b:=cr {a with data:=none,Yi:=none} a.decl.dropLast u tg none q; .ok {b with Yj:=b.Yj++[p++q]}
structure Wr where
 t:Nat->Tok
 Yi:Value
 seen:Bool
 done:Bool
 cnt:Nat
 decl:az
 cd:Nat
 po:Obj
 Yj:Yb
 cg:Nat
 Yp:Yb
 cs:Nat
 ns:az
 cn:Nat
 data:Yb
 YM:Nat
 YF:Array Value
 ex:X6
 pl:X6
theorem se:Nonempty Wr:=⟨⟨fun _=>0, .none,false,false,0,[],0,default,[],0,[],0,[],0,[],0,#[],[],[]⟩⟩
theorem sd:Nonempty AW:=⟨⟨[],[],[],[],none,none,false⟩⟩
section
variable(wa:aF)(x:Wr)
def Wr.led:X6:=
 (wa.W,instObj 150 wa.D)::(wa.D,dictOf (aE wa x.t x.Yi x.seen x.done) x.cnt)::(wa.decl,lO x.decl.refs x.cd)::(wa.YD,x.po)::(wa.Yj,lO x.Yj x.cg)::(wa.Yv,bf "list.append" (.ref wa.Yj))::
 (wa.Yp,lO x.Yp x.cs)::(wa.ns,lO x.ns.refs x.cn)::(wa.data,lO x.data x.YM)::(123,tabObj x.YF)::(x.pl++(x.ex++(x.decl.read++x.ns.read)))
theorem Wr.mW:(wa.W,instObj 150 wa.D)∈x.led wa:= .head _
theorem Wr.mD:(wa.D,dictOf (aE wa x.t x.Yi x.seen x.done) x.cnt)∈x.led wa:=aK
theorem Wr.mDecl:(wa.decl,lO x.decl.refs x.cd)∈x.led wa:=cq
theorem Wr.mPage:(wa.Yj,lO x.Yj x.cg)∈x.led wa:=iu
theorem Wr.mTab:(123,tabObj x.YF)∈x.led wa:=Em
theorem Wr.mApp:(wa.Yv,bf "list.append" (.ref wa.Yj))∈x.led wa:=ra
theorem Wr.mPres:(wa.Yp,lO x.Yp x.cs)∈x.led wa:=uQ
theorem Wr.mNs:(wa.ns,lO x.ns.refs x.cn)∈x.led wa:=rb
theorem Wr.mData:(wa.data,lO x.data x.YM)∈x.led wa:=Am
end
noncomputable def az.ab (s:az):List (List UP):=s.map fun x=>x.2.1.map Pr.up
theorem az.flat_ab(s:az):s.flat.map Pr.up=aC s.ab:=by
 unfold az.flat aC az.ab;exact ae List.map_reverse (aa Pk (aa List.flatMap_def rfl))
theorem Hi(s:az)(x:Str):s.uriOf x=cX s.ab x:=by
 unfold az.uriOf cX;exact ae s.flat_ab (aa Nz (aa (O3 _ _ _) rfl))
theorem GK(init:az)(a:Nat)(Ym:List Pr)(k:Nat):(init++[(a,Ym,k)]:az).read.Perm ((a,lO (Ym.map Pr.val) k)::(Ym.map Pr.ent++init.read)):=by
 unfold az.read;refine aa (cy _ _ _ _) (aa KP ?_);unfold az.lists;exact aa KP (aa (KS _ _ _) ((Lf (l₁:=init.map _) (l₂:=Ym.map Pr.ent++init.flat.map Pr.ent)).trans (List.Perm.cons _ (Ld _ _ _))))
theorem GL(init:az)(a:Nat)(Ym:List Pr)(k:Nat):(init++[(a,Ym,k)]:az).refs=init.refs++[Value.ref a]:=by unfold az.refs;refine aa KP ?_;rfl
theorem GC(init:az)(a:Nat)(Ym:List Pr)(k:Nat):(init++[(a,Ym,k)]:az).ab=init.ab++[Ym.map Pr.up]:=by unfold az.ab;refine aa KP ?_;rfl
theorem HI{wa:aF}{x:Wr}{init:az}{al k:Nat}{Ym:List Pr}(h:x.decl=init++[(al,Ym,k)]):x.led wa=
 (wa.W,instObj 150 wa.D)::(wa.D,dictOf (aE wa x.t x.Yi x.seen x.done) x.cnt)::(wa.decl,lO (init.refs++[Value.ref al]) x.cd)::(wa.YD,x.po)::(wa.Yj,lO x.Yj x.cg)::(wa.Yv,bf "list.append" (.ref wa.Yj))::
 (wa.Yp,lO x.Yp x.cs)::(wa.ns,lO x.ns.refs x.cn)::(wa.data,lO x.data x.YM)::(123,tabObj x.YF)::(x.pl++(x.ex++(x.decl.read++x.ns.read))):=by
 unfold Wr.led;exact aa h (aa (GL _ _ _ _) rfl)
theorem Jm{wa:aF}{x:Wr}{init Ys:az}{al k A kA:Nat}{Ym qs:List Pr}(h:x.decl=init++[(al,Ym,k)])(h2:x.ns=Ys++[(A,qs,kA)]):x.led wa=
 (wa.W,instObj 150 wa.D)::(wa.D,dictOf (aE wa x.t x.Yi x.seen x.done) x.cnt)::(wa.decl,lO (init.refs++[Value.ref al]) x.cd)::(wa.YD,x.po)::(wa.Yj,lO x.Yj x.cg)::(wa.Yv,bf "list.append" (.ref wa.Yj))::
 (wa.Yp,lO x.Yp x.cs)::(wa.ns,lO (Ys.refs++[Value.ref A]) x.cn)::(wa.data,lO x.data x.YM)::(123,tabObj x.YF)::(x.pl++(x.ex++(x.decl.read++x.ns.read))):=by
 exact aa (HI h) (aa h2 (aa (GL _ _ _ _) rfl))
theorem kL(l:List (List UP))(x:List UP):aC (l++[x])=x++aC l:=by unfold aC;refine aa Nx ?_;rfl
theorem HQ{s:az}{l:List (List UP)}(e:s.ab=l)(h:∀ x∈l,x.length<=1000):∀ x∈s,x.2.1.length<=1000:=fun x hx=>by
 have:=h (x.2.1.map Pr.up) (e▸KW hx);rwa [KG] at this
def yT(data:Option (Str×Str))(d:Yb):Prop:=match data with
 |none=>d=[]
 |some (p,q)=>l9 (fun t1 t2=>d=[.str p t1, .str q t2])
def zy(Yi:Option (Str×Str))(v:Value)(pl:X6)(decl:az):Prop:=match Yi with
 |none=>v=.none/\pl=[]
 |some (u,tg)=>zu (fun(tk:Tok) (pt ak al kp ca cl:Nat) (init:az)=>v=.ref pt) (fun _ _ ak _ _ _ _ _=>(ak==sysModules)=false) (fun _ _ _ al _ _ cl init=>decl=init++[(al,[],cl)]) (fun tk pt ak al kp ca _ _=>pl=[(pt,ip (.str (ah u tg) tk) (.ref ak) (.ref al) kp),(ak,dictOf [] ca)])
structure bC(x:Wr)(a:AW):Prop where
 decl:x.decl.ab=a.decl
 ns:x.ns.ab=a.ns
 pm:gv x.po a.pm
 Yj:StrsAre x.Yj a.Yj
 Yp:x.Yp=List.replicate x.ns.length (Value.bool false)
 lam:j5 vU kW x.YF x.ex
 data:yT a.data x.data
 Yi:zy a.Yi x.Yi x.pl x.decl
 seen:x.seen=a.seen
structure j8(p q:Str):Prop where
 says:kb (p++q) (eX (p++q))
 eq:p=dH p++Ye ":"
 spl:Txt.splitMax (dH p++Ye ":"++q) (Ye ":") 1=[dH p,q]
 pl:bo (p++q)
 plq:bo q
 lp:(dH p).length<=100
 lq:q.length<=100
structure fr(u tg:Str):Prop where
 qn:iB u tg
 sp:∀ t,rJ (u,tg,t)
 pl:bo u
 nx:u≠bt.1
structure eD(a:AW):Prop where
 YE:bL a.pm
 dk:bk (aC a.decl) a.pm
 YN:a.pm.length<=40
 il:∀ l∈a.decl,l.length<=1000
 fl:(aC a.decl).length<=900
 nl:∀ l∈a.ns,l.length<=1000
 nn:a.ns.length<=40000
 ne:a.ns≠[]
 nu:∀ p∈aC a.ns,p.1.length<=1000/\p.2.length<=1000
 pg:a.Yj.length<=40000
 dat:∀ p q,a.data=some (p,q)->j8 p q
 pen:∀ u tg,a.Yi=some (u,tg)->fr u tg
 np:a.data=none->a.Yi=none
 see:a.data≠none->a.Yi=none->a.seen=true
 pair:∀ u tg p q u2,a.Yi=some (u,tg)->a.data=some (p,q)->cX a.ns (dH p)=some u2->fr u2 q/\ah u2 q≠ah u tg/\¬(Ye "{"++u2=Ye "{"++u/\q=tg)
theorem iR:∀ {pm:List UP} {u x:Str},(pm.map (·.1)).Nodup->(u,x)∈pm->b9 pm u=some x
 |(v,y)::pm,u,x,hn,h=>by
  obtain⟨h1,h2⟩:=Ly.mp hn;unfold b9;rcases KI.mp h with e|h
  ·cases e
   exact aa (List.find?_cons_of_pos (by simp)) rfl
  ·have P5:v≠u:=fun e=>h1 (KK.mpr ⟨(u,x),h,e.symm⟩)
   exact aa (List.find?_cons_of_neg (by simpa using P5)) (iR h2 h)
theorem ig(d:bk l pm)(h:bL pm)(hm:(u,x)∈l)(hx:u≠bt.1):x=preOf pm u:=by
 rcases d _ hm with q|q
 ·unfold preOf
  exact aa (iR h.nd q) rfl
 ·exact absurd (congrArg Prod.fst q) hx
theorem xi(h:v∈dS u tg xn yu):v=u∨yu=some v:=by
 unfold dS at h
 split at h
 ·exact .inl (KF.mp h)
 ·split at h<;>(rcases KI.mp h with rfl|h<;>first|exact .inl rfl|exact .inr rfl|(refine aa (KF.mp h) ?_;first|exact .inl rfl|exact .inr rfl))
theorem sm(d:bk (cur++Yo) pm)(h:bL pm)(h1:(u,QM)∈cur++Yo)(hx:u≠bt.1)(hx2:∀ u2,yu=some u2->u2≠bt.1)
  (h2:yu=none/\Qw=none∨bW (fun u2 p2=>yu=some u2) (fun _ p2=>Qw=some p2) (fun u2 p2=>(u2,p2)∈cur++Yo)):aX QM tg as Qw xn=aX (preOf pm u) tg as (yu.map (preOf pm)) xn:=by
 refine aa (ig d h h1 hx) ?_;rcases h2 with⟨rfl,rfl⟩|⟨u2,p2,rfl,rfl,hm⟩
 ·rfl
 ·exact aa (ig d h hm (hx2 u2 rfl)) rfl
theorem eP(QM tg:Str)(as:List (Str×Str))(Qw:Option Str)(xn:Str):(aX QM tg as Qw xn).length<=4:=by
 unfold aX
 split<;>cases Qw<;>(show _<=4;first|exact KC rfl)
section
variable{k:Nat}{f:Addr}{args:Yb}{PY n₂ G:X6}{P₁ P₂:Value->X6->Prop}{W3 W4:Str->X6->Prop}
theorem dC.conv(h:dC c m rest W3 E)(hRs:∀ PQ Yr,W4 PQ Yr->W3 PQ Yr):dC c m (G++rest) W4 E:=
 fun PQ Yr hw e t h' TD Qg d' TY tw F hr R U hb=>h PQ Yr (hRs PQ Yr hw) e t h' TD Qg d' TY tw F (fun p hp=>hr p (KB _ hp)) R U hb
theorem bF.perm(h:ax PY->bF k f args n₂ P₂ W4)(hp:PY.Perm (n₂++G))(hP:∀ v n',P₂ v n'->aO (fun PS=>(n'++G).Perm PS) (fun PS=>P₁ v PS))(hRs:∀ PQ Yr,W4 PQ Yr->W3 PQ Yr):bF k f args PY P₁ W3:=by
 intro c E m rest J hk hJ hR s l;have l2:ay c s m (n₂++(G++rest)):=l.perm (by refine ae (KS _ _ _) ?_;exact hp.append_right rest);refine codeAny_mono (h l.D.left c E m (G++rest) (fun v m' n'=>aO (fun PS=>n'.Perm PS) (fun PS=>J v m' PS)) hk (fun v n' hv=>?_) (hR.conv hRs) s l2) fun r s' hr=>?_
 ·obtain⟨PS,h1,h2⟩:=hP v n' hv
  exact⟨PS++rest,by refine ae (KS _ _ _) ?_;exact h1.append_right rest,hJ v PS h2⟩
 ·cases r with
  |error e=>exact hr
  |ok fl=>
   cases fl with
   |ret v=>
    obtain⟨m',n',l',PS,hp',hj⟩:=hr;exact⟨m',PS,l'.perm hp',hj⟩
   |_=>exact hr
end
section
variable(wa:aF)(x:Wr)
def Wr.base:X6:=
 [(wa.W,instObj 150 wa.D),(wa.D,dictOf (aE wa x.t x.Yi x.seen x.done) x.cnt),(wa.decl,lO x.decl.refs x.cd),(wa.YD,x.po),(wa.Yj,lO x.Yj x.cg),(wa.Yv,bf "list.append" (.ref wa.Yj)),
 (wa.Yp,lO x.Yp x.cs),(wa.ns,lO x.ns.refs x.cn),(wa.data,lO x.data x.YM),(123,tabObj x.YF)]
end
section
open Classical
variable{α:Type}{W D de pm pg ap pr ns da tb ak al A:α}{ex I N P Dr Nr:List α}
theorem AD(hd:Dr.Perm (al::I)):(ak::W::D::de::pm::pg::ap::pr::ns::da::tb::(ex++(Dr++N))).Perm ((W::D::de::al::pm::pg::ap::pr::ns::ak::tb::(ex++(N++I)))++[da]):=
 (Lu (ak::W::D::de::pm::pg::ap::pr::ns::da::tb::ex) (hd.append_right N)).trans
  (lG (fun i=>[[ak],[W],[D],[de],[pm],[pg],[ap],[pr],[ns],[da],[tb],ex,[al],I,N].getD i []) (.a (gl [0,1,2,3,4,5,6,7,8,9,10] (.v 11)) (.a (gl [12] (.v 13)) (.v 14))) (.a (gl [1,2,3,12,4,5,6,7,8,0,10,11,14] (.v 13)) (.v 9)) rfl)
theorem AE(hd:Dr.Perm (al::(P++I)))(hn:Nr.Perm (A::N)):((A::W::D::de::al::pm::pg::ap::pr::ns::ak::tb::(ex++(P++(N++I))))++[da]).Perm
  (ak::W::D::de::pm::pg::ap::pr::ns::da::tb::(ex++(Dr++Nr))):=
 (lG (fun i=>[[ak],[W],[D],[de],[pm],[pg],[ap],[pr],[ns],[da],[tb],ex,[al],I,N,P,[A]].getD i []) (.a (gl [16,1,2,3,12,4,5,6,7,8,0,10,11,15,14] (.v 13)) (.v 9)) (.a (gl [0,1,2,3,4,5,6,7,8,9,10] (.v 11)) (.a (gl [12,15] (.v 13)) (gl [16] (.v 14)))) rfl).trans
  (Lu (ak::W::D::de::pm::pg::ap::pr::ns::da::tb::ex) (hd.append hn)).symm
end
theorem Ar(h:ax l)(hs:[W,D,N].Sublist l):[W.1,D.1,N.1].Nodup:=List.Nodup.sublist (hs.map _) h
structure et(a:AW)(Yo:List (List UP))(u tg xp xn:Str):Prop where
 YE:bL a.pm
 dk:bk (aC Yo) a.pm
 YN:a.pm.length<=40
 il:∀ l∈Yo,l.length<=1000
 fl:(aC Yo).length<=900
 nl:∀ l∈a.ns,l.length<=1000
 nn:a.ns.length<=40000
 ne:a.ns≠[]
 nu:∀ p∈aC a.ns,p.1.length<=1000/\p.2.length<=1000
 pg:a.Yj.length<=40000
 tag:fr u tg
 spl:Txt.splitMax (xp++Ye ":"++xn) (Ye ":") 1=[xp,xn]
 plx:bo xn
 lp:xp.length<=1000
 lx:xn.length<=1000
 two:∀ u2,cX a.ns xp=some u2->fr u2 xn/\ah u2 xn≠ah u tg/\¬(Ye "{"++u2=Ye "{"++u/\xn=tg)
def xD(wa:aF)(ak ca:Nat)(a:AW)(Yo:List (List UP))(u tg xp xn:Str)(qt:Value)(v:Value)(n':X6):Prop:=
 v=.none/\bW (fun x3 yu=>(qt=.none/\yu=none∨(∃ tq,qt=.str (xp++Ye ":"++xn) tq)/\yu=cX a.ns xp/\yu≠none)) (fun x3 yu=>bC x3 (cr a Yo u tg yu xn)) (fun x3 _=>n'=(ak,dictOf [] ca)::x3.led wa)
def Ee(wa:aF)(a:AW)(xp xn:Str)(qt:Value)(PQ:Str)(Yr:X6):Prop:=
 (∃ tq,qt=.str (xp++Ye ":"++xn) tq)/\cX a.ns xp=none/\PQ=ly xp xn/\gQ (fun pg cg tb=>Yr=[(wa.Yj,lO pg cg),(123,tabObj tb)]) (fun pg _ _=>StrsAre pg a.Yj)
theorem vr(hA:bC x a)(Rq:a.Yi=none)(hO:et a init.ab u tg xp xn)(Vv:x.ns.length=kn+1)
  (h:mQ wa x.Yi x.done x.cnt x.cd init x.ns al ak ca a.pm u tg xp xn x.t x.Yj (List.replicate kn (Value.bool false)) init.read qt v n'):
  aO (fun PS=>(n'++[(wa.data,lO x.data x.YM)]).Perm PS) (fun PS=>xD wa ak ca a init.ab u tg xp xn qt v PS):=by
 obtain⟨d1,d2,d3,d4,d5,d6,d7,d8,d9⟩:=hA;rw[Rq] at d8;obtain⟨rfl,yu,Rr,cg',cs',cn',A,Ym,Qi,P0,QM,Qw,UJ,ex',TX,QP,UG,Xf,Tz,hpgs,hlam',rfl⟩:=h;rw[Hi,d2] at TX;have hyl:∀ u2,yu=some u2->fr u2 xn:=fun u2 e=>by
  rcases TX with⟨_,h⟩|⟨_,h,_⟩
  ·rw[e] at h;cases h
  ·exact(hO.two u2 (h▸e)).1
 rw[az.flat_ab] at QP UG Xf Tz;have Qe:=jc (Yo:=aC init.ab) (dS u tg xn yu) ([],a.pm) hO.YE hO.dk fun v hv=>by
  rcases xi hv with rfl|e
  ·exact hO.tag.qn.ul
  ·exact(hyl v e).qn.ul
 rw[sm (as:=aY (Ym.map Pr.up)) Qe.2.1 Qe.1 Xf hO.tag.nx (fun u2 e=>(hyl u2 e).nx) Tz,QP] at hpgs;have QV:bC ⟨x.t,x.Yi,true,x.done,x.cnt,init++[(al,Ym,Rr)],x.cd,Qi,x.Yj++P0,cg',List.replicate kn (Value.bool false)++[Value.bool false]++[Value.bool false],cs',x.ns++[(A,[],0)],cn',x.data,x.YM,UJ,ex',[]⟩
   (cr a init.ab u tg yu xn):=
  ⟨by refine aa (GC _ _ _ _) (aa QP ?_);rfl,by refine aa (GC _ _ _ _) (aa d2 ?_);rfl,UG,M3 d4 hpgs,by
   show _=List.replicate (x.ns++[(A,[],0)]).length (Value.bool false);refine aa KJ (aa Vv ?_);show _=List.replicate (kn+1+1) (Value.bool false);exact aa OC (aa OC rfl),hlam',d7,by refine aa (show (cr a init.ab u tg yu xn).Yi=none from Rq) ?_;exact⟨d8.1,rfl⟩,rfl⟩
 refine⟨_,?_,rfl,_,yu,TX,QV,rfl⟩;exact aa (Jm (init:=init) (Ys:=x.ns) (al:=al) (k:=Rr) (A:=A) (kA:=0) (Ym:=Ym) (qs:=[]) rfl rfl) (AE (GK init al Ym Rr) (GK x.ns A [] 0))
theorem oK(wa:aF)(Qt:(wa.YD==sysModules)=false)(x:Wr)(a:AW)(hA:bC x a)(Rq:a.Yi=none)(init:az)(al cl:Nat)(QA:x.decl=init++[(al,[],cl)])(u tg:Str)(tk:Tok)(ak ca:Nat)(Rn:(ak==sysModules)=false)
  (xp xn:Str) (qt:Value) (args:Yb) (Vg:args=[.ref wa.W, .str (ah u tg) tk, .ref ak, .ref al]/\qt=.none∨args=[.ref wa.W, .str (ah u tg) tk, .ref ak, .ref al,qt]) (U0:qt=.none∨∃ tq,qt=.str (xp++Ye ":"++xn) tq)
  (hO:et a init.ab u tg xp xn):bF 6 126 args ((ak,dictOf [] ca)::x.led wa) (xD wa ak ca a init.ab u tg xp xn qt) (Ee wa a xp xn qt):=by
 have Qu:x.ns.length=a.ns.length:=by refine ae hA.ns ?_;unfold az.ab;exact aa (KG _) rfl
 obtain⟨kn,Vv⟩:∃ k,x.ns.length=k+1:=⟨x.ns.length-1,by have:=List.length_pos_iff.mpr hO.ne;exact Fb Qu this⟩;have S7:x.Yp=List.replicate kn (Value.bool false)++[Value.bool false]:=by exact aa hA.Yp (aa Vv (aa OC rfl))
 have Tk:kn<=40000:=by have:=hO.nn;exact L4 [_,_,_] V2 (.n 40000) 3 V0 V1 2 V1 V0 1 (.a V2 W1) V0 1 V1 (.n 40000) rfl (eL Qu) (eG Qu) (eG Vv) this
 have hd8:=hA.Yi;rw[Rq] at hd8;have Qy:=hd8.2;refine' bF.perm (G:=[(wa.data,lO x.data x.YM)]) (n₂:=df wa x.t x.Yi x.seen x.done x.cnt x.cd init al [] cl x.po++((wa.Yj,lO x.Yj x.cg)::(wa.Yv,bf "list.append" (.ref wa.Yj))::(wa.Yp,lO (List.replicate kn (Value.bool false)++[Value.bool false]) x.cs)::(wa.ns,lO x.ns.refs x.cn)::(ak,dictOf [] ca)::(123,tabObj x.YF)::(x.ex++(x.ns.read++init.read))))
  (fun hD=>?hMm) ?hMp ?hMP ?hMR
 case hMm=>
  have RS:=Ar (W:=(wa.W,_)) (D:=(wa.D,_)) (N:=(wa.ns,_)) hD (.cons _<| .cons_cons _ (.cons_cons _ (.cons _ (.cons _ (.cons _ (.cons _ (.cons _ (.cons_cons _ (My _)))))))));have Si:∀ y∈init,y.2.1.length<=1000:=HQ rfl hO.il;exact yc wa x.t x.Yi x.seen x.done x.cnt x.cd cl x.cg x.cs x.cn ca init x.ns al ak a.pm x.po u tg tk x.Yj (List.replicate kn (Value.bool false)) x.YF x.ex init.read xp xn args qt Rn Vg U0 hA.lam Qt hA.pm hO.YE
   (by refine aa (az.flat_ab _) ?_;exact hO.dk) hO.YN Si (by have:=hO.fl;rw[←az.flat_ab,KG] at this;exact this) (fun p hp=>hp) hO.tag.pl (fun u2 h=>(hO.two u2 (by refine ae hA.ns (ae (Hi _ _) ?_);exact h)).1.pl) hO.plx
   (by have:=hO.nn;exact L3 [_,_] V0 (.n 100000) 3 V0 V1 2 V1 V0 1 V1 (.n 40000) rfl (eL Qu) (eG Qu) this) (by refine aa Pu ?_;exact bd Tk) (by have:=hO.pg;rw[←hA.Yj.length] at this;exact bd this) hO.tag.qn (hO.tag.sp tk) hO.lp hO.lx (HQ hA.ns hO.nl)
   (fun p hp=>hO.nu p.up (by refine ae hA.ns (ae (az.flat_ab _) ?_);exact KW hp)) hO.spl RS
   (fun u2 h=>by obtain⟨a1,a2,a3⟩:=hO.two u2 (by refine ae hA.ns (ae (Hi _ _) ?_);exact h);exact⟨a1.qn,a1.sp,a2,a3⟩)
 case hMp=>
  have hrd:x.decl.read.Perm ((al,lO (([]:List Pr).map Pr.val) cl)::init.read):=aa QA (GK init al [] cl);exact aa (HI QA) (aa S7 (aa Qy (AD hrd)))
 case hMP=>exact fun v n' h=>vr hA Rq hO Vv h
 case hMR=>
  rintro PQ Yr ⟨h1,h2,h3,h4⟩;exact⟨h1,by refine ae hA.ns (ae (Hi _ _) ?_);exact h2,h3,x.Yj,x.cg,x.YF,h4,hA.Yj⟩
noncomputable def Wr.noData (x:Wr):Wr:={x with data:=[],YM:=x.YM+1}
noncomputable def Wr.setPend (x:Wr) (v:Value) (l:X6):Wr:={x with Yi:=v,pl:=l}
noncomputable def Wr.wr (x:Wr) (v:Value):Wr:={x with Yj:=x.Yj++[v],cg:=x.cg+1}
def rH(wa:aF)(r:Except Str AW)(v:Value)(n':X6):Prop:=v=.none/\bW (fun x' a'=>r=.ok a') (fun x' a'=>bC x' a') (fun x' _=>n'=x'.led wa)
def ou(wa:aF)(r:Except Str AW)(pg0:List Str)(PQ:Str)(Yr:X6):Prop:=r=.error PQ/\gQ (fun pg cg tb=>Yr=[(wa.Yj,lO pg cg),(123,tabObj tb)]) (fun pg _ _=>StrsAre pg pg0)
theorem bC.wr(h:bC x a)(y:Str)(t:Tok):bC (x.wr (.str y t)) {a with Yj:=a.Yj++[y]}:=⟨h.decl,h.ns,h.pm,M3 h.Yj (.cons _ _ .nil),h.Yp,h.lam,h.data,h.Yi,h.seen⟩
theorem bC.noData(h:bC x a):bC x.noData {a with data:=none}:=⟨h.decl,h.ns,h.pm,h.Yj,h.Yp,h.lam,rfl,h.Yi,h.seen⟩
theorem bC.noPend(h:bC x a):bC (x.setPend .none []) {a with Yi:=none}:=⟨h.decl,h.ns,h.pm,h.Yj,h.Yp,h.lam,h.data,⟨rfl,rfl⟩,h.seen⟩
section
variable{c:Fx}{E:X8}{m:X7}{J:ad Value}{K:ad Flow}{U:ad Unit}{r:Yd}{env:Env}{wa:aF}{x:Wr}
theorem Kq(hxd:x.data=[a,b])(h:∀ J:ad Value,J (.ref wa.data) m (x.led wa)->Tr c E m (x.led wa) (eval o env) J)(k:Tr c E m (x.noData.led wa) (execs r env) K):
  Tr c E m (x.led wa) (execs (.Delete [.Subscript o (.Slice none none none ps) pp] pd::r) env) K:=by
 obtain⟨xt,xpend,xseen,xdone,xcnt,xdecl,xcd,xpo,xpage,xcg,xpres,xcs,xns,xcn,xdata,xcdt,xtps,xex,xpl⟩:=x;dsimp only at hxd;subst hxd;exact Kd (h _ ⟨wa.data,a,b,[_,_,_,_,_,_,_,_],_,_,rfl,rfl,k⟩)
theorem IK(hz:x.Yj.length<=100000)(h:J .none m ((x.wr v).led wa)):Tr c E m (x.led wa) (call (.ref wa.Yv) [v]) J:=
 Hs (pre:=[_,_,_,_]) (x.mApp wa) rfl hz h
theorem gB{a:aF}{t:Nat->Tok}{Yi v:Value}{seen done:Bool}(e:Yi=v)(h:handedIn v=true):dR "_pending_start" (aE a t Yi seen done) v:=by subst e;exact pv a t Yi seen done h
theorem qv{a:aF}{t:Nat->Tok}{Yi:Value}{seen v done:Bool}(e:seen=v):dR "_root_seen" (aE a t Yi seen done) (.bool v):=by subst e;exact pw a t Yi seen done
variable{n:X6}
theorem Ie{name:Str}{pl:Sem Bool}{W D:Nat}{es:List DictEntry}{k:Nat}{v:Value}{K:ad (Value×Yb)}(o:dR name es v)(hf:findIn (ao w.params) (.ref 150) name=some none)(h1:(W,instObj 150 D)∈n)(h2:(D,dictOf es k)∈n)(h:K (v,[]) m n):
  Tr c E m n (getMethod (.ref W) name pl) K:= .mk fun _ l=>
 method_usual (l.X.keeps l.F.keep) (MX l.N h1 h2) (plainGet_of o.hg).1 (plainGet_of o.hg).2 hf rfl (let ⟨_,a,b⟩:=o.ha;get_own l.F l.X (MX l.N h1 h2) o.hg o.hh a b o.hl o.hv ⟨m,n,l.tok,h⟩)
theorem IX(hq:(q,bf "list.append" (.ref D))∈n)(h:Tr c E m n (eval e env) fun v m n'=>(q,bf "list.append" (.ref D))∈n'/\Tr c E m n' (call (.ref q) [v]) J)
  (he:starEach [e] env=[(false,eval e env)]:=by rfl):Tr c E m n (callWith p (.ref q) [] (backTo p (starEach [e] env)) []) J:= .mk fun s l=>
 jj l.N hq (Lo (am (h s l) fun _ s1 _ _ l1 ⟨Ut,q1⟩=>LA ⟨(l1.N _ Ut).1,q1 _ l1⟩) he) he
theorem J7{e:X9}{y:Str}{p p':Pos}{K:ad Flow}(h:Tr c E m n (eval e c.env) fun v m n=>K .next (fun z=>if z=y then some v else m z) n)(hx:c.env.kindOf y=some .local:=by rfl)(hs:swapsWith e (some (.Name y p')) p.line c.env=Pure.pure false:=by rfl):
  Tr c E m n (exec (.Assign [.Name y p'] e p) c.env) K:= .mk fun s l=>
 Pe (am (h s l) fun _ _ _ _ l' q=>storeX_L l'.F l'.N (fun _ F' N'=>⟨_,_,l'.to F' N' l'.D l'.G rfl,q⟩) l'.hk hx) hs
theorem IU(hp:handedIn x.Yi=true)(h:U () m ((x.setPend v x.pl).led wa)):Tr c E m (x.led wa) (PySem.setAttr (.ref wa.W) "_pending_start" v) U:=
 Gl (es':=fun _=>aE wa x.t v x.seen x.done) (k':=x.cnt) (nD wa x.t x.Yi x.seen x.done hp) (x.mW wa) (pre:=[_]) rfl (fun t0=>⟨t0,pG wa x.t x.Yi x.seen x.done x.cnt t0 v⟩) (fun _=>by show 17<=1000;decide) fun _=>h
end
namespace FSk
def Q(wa:aF)(x:Wr)(a:AW)(p q:Str):Prop:=∀ (Qt:(wa.YD==sysModules)=false) (hA:bC x a) (hG:eD a) (hd:a.data=some (p,q)),bF 7 106 [.ref wa.W] (x.led wa) (rH wa (ar a)) (ou wa (ar a) a.Yj)
def P_(y:((aF×Wr)×AW)×Str×Str):Prop:=Q y.1.1.1 y.1.1.2 y.1.2 y.2.1 y.2.2
def y_:((aF×Wr)×AW)×Str×Str:=pk (cE (cE (cE ja se) sd) inferInstance) P_
def wa:aF:=y_.1.1.1
def x:Wr:=y_.1.1.2
def a:AW:=y_.1.2
def p:Str:=y_.2.1
def q:Str:=y_.2.2
theorem go:Q wa x a p q:=by
 intro Qt hA hG hd;have QT:=hG.dat p q hd;obtain⟨t1,t2,hxd⟩:l9 (fun t1 t2=>x.data=[.str p t1, .str q t2]):=by have:=hA.data;rw[hd] at this;exact this
 have Qh:p.length+(q.length+0)+2<=1048576/\0<(p++q).length/\(p++q).length<=16777216:=by
  have h1:=congrArg Str.length QT.eq;rw[KD] at h1⊢;have:(Ye ":").length=1:=rfl;have:=QT.lp;have:=QT.lq
  lia
 refine' GG (binds:=[(Ye "self", .ref wa.W),(Ye "_join_text", .ref 98)]) (by k_is) (by k_is) (by exact fun s X=>binds_K X rfl (by k_is) rfl rfl rfl) (by exact ba rfl) (by rfl) (by rfl) (by rfl) (by decide) ?k9 ?_
 case k9=>
  rintro PQ Yr ⟨-,pg,cg,tb,rfl,-⟩ q hq;rcases KI.mp hq with rfl|hq
  ·exact KK.mpr ⟨_,x.mPage wa,rfl⟩
  ·exact aa (KF.mp hq) (KK.mpr ⟨_,x.mTab wa,rfl⟩)
 intro A₀ base dp un gd L outer h₀ os g₀ c E K hE hK;refine Gf (IN rfl (Gr (fT wa _ _ _ _) rfl (x.mW wa) (x.mD wa) ⟨wa.data,_,[p,q],_,rfl,x.mData wa,by refine aa hxd ?_;exact .cons _ _ (.cons _ _ .nil),Qh.1,fun t3=>?_⟩));refine Kq hxd (fun J h=>Gr (fT wa _ _ _ _) rfl (x.mW wa) (x.mD wa) h) ?_;have Rp:=hA.noData;have Qp:x.noData.Yj.length<=40000:=by have:=hG.pg;rw[←hA.Yj.length] at this;exact this
 generalize x.noData=x1 at Rp Qp;revert x1;refine wrap ?_;intro x1 Rp Qp;clear hxd;show Tr _ _ _ _ _ _;generalize hm:(fun y=>if y=Ye "data" then some (Value.str (Txt.join (Ye "") [p,q]) t3) else _)=m1;revert m1;refine wrap ?_;intro m1 hm;have RU:m1 (Ye "self")=some (.ref wa.W):=ae hm rfl;have m1d:m1 (Ye "data")=some (.str (p++q) t3):=ae hm rfl;clear hm;refine Gk (GR (Gy (Gn (Gr (uX wa _ _ _ _) RU (x1.mW wa) (x1.mD wa) (F9 (F6 ?_))))));refine Gu (GH (K₁:=fun fl m n=>(fl=.next/\m (Ye "self")=some (.ref wa.W)/\m (Ye "data")=some (.str (p++q) t3)/\iy (fun x2 a2=>bC x2 a2) (fun x2 _=>n=x2.led wa) (fun _ a2=>a2.Yj.length<=50000) (fun _ a2=>a2.seen=true) (fun _ a2=>ar a=.ok {a2 with Yj:=a2.Yj++[p++q]}))∨
  (fl=.ret .none/\bW (fun x2 a2=>bC x2 a2) (fun x2 _=>n=x2.led wa) (fun _ a2=>ar a=.ok a2))) ?s4 ?rest)
 case s4=>
  intro K4 hK4;have Ty:=Rp.Yi
  cases Uc:a.Yi with
  |none=>
   dsimp only at Ty;rw[Uc] at Ty;refine GV (Gb (Gr (gB Ty.1 rfl) RU (x1.mW wa) (x1.mD wa) (Gw (Hc (F9 (F6 ?_))))));refine hK4 _ _ _ (.inl ⟨rfl,RU,m1d,x1,_,Rp,rfl,KH hG.pg (by decide),hG.see (by refine aa hd ?_;exact fun e=>(nomatch e)) Uc,?_⟩);unfold ar;exact aa hd (aa Uc rfl)
  |some ut=>
   obtain⟨u,tg⟩:=ut;dsimp only at Ty;rw[Uc] at Ty;obtain⟨tk,pt,ak,al,kp,ca,cl,init,VE,Rn,QA,Qy⟩:=Ty;refine GV (Gb (Gr (gB VE rfl) RU (x1.mW wa) (x1.mD wa) (Gw (Hl (F9 ?_)))));refine Io (GA (F0 (Gr (gB VE rfl) RU (x1.mW wa) (x1.mD wa) (F0 (Gw (FZ ⟨by show 2<=1000;decide,fun T=>?_⟩))))));refine HT (.head _) (Go (Jo (FY RU (GW (Ls _ _) (IU (by refine aa VE ?_;rfl) ?_)))));show Tr _ _ _ _ _ _;generalize hm:(fun y=>if y=Ye "args" then some (Value.ref pt) else m1 y)=m2;revert m2;refine wrap ?_;intro m2 hm;have m2s:m2 (Ye "self")=some (.ref wa.W):=ae hm RU;have m2d:m2 (Ye "data")=some (.str (p++q) t3):=ae hm m1d;have m2a:m2 (Ye "args")=some (.ref pt):=ae hm rfl;clear hm RU m1d;have QI:=Rp.noPend;have SA:(x1.setPend .none []).decl=init++[(al,[],cl)]:=QA;have Rk:((x1.setPend .none x1.pl).led wa).Perm ((ak,dictOf [] ca)::((x1.setPend .none []).led wa++[(pt,ip (.str (ah u tg) tk) (.ref ak) (.ref al) kp)])):=by
    show ((x1.setPend .none []).base wa++(x1.pl++_)).Perm (_::(((x1.setPend .none []).base wa++_)++_));refine aa Qy ?_;refine(Ld _ [_,_] _).trans ((List.Perm.swap _ _ _).trans (List.Perm.cons _ ?_));exact(LW (l₁:=[_]) (l₂:=(x1.setPend .none []).base wa++_))
   generalize x1.setPend .none []=x2 at QI SA Rk;revert x2;refine wrap ?_;intro x2 QI SA Rk;have hO:et a init.ab u tg (dH p) q:=by
    have UF:init.ab++[[]]=a.decl:=ae QI.decl (aa SA (aa (GC _ _ _ _) rfl));have hfa:aC a.decl=aC init.ab:=ae UF (aa (kL _ _) rfl);exact⟨hG.YE,hfa▸hG.dk,hG.YN,fun l hl=>hG.il l (UF▸KA _ hl),hfa▸hG.fl,hG.nl,hG.nn,hG.ne,hG.nu,hG.pg,hG.pen u tg Uc,QT.spl,QT.plq,KH QT.lp (by decide),KH QT.lq (by decide),fun u2 h=>hG.pair u tg p q u2 Uc hd h⟩
   have UF:init.ab=a.decl.dropLast:=by exact ae QI.decl (aa SA (aa (GC _ _ _ _) (aa LP rfl)))
   have hO2:et {a with data:=none,Yi:=none} init.ab u tg (dH p) q:=⟨hO.YE,hO.dk,hO.YN,hO.il,hO.fl,hO.nl,hO.nn,hO.ne,hO.nu,hO.pg,hO.tag,hO.spl,hO.plx,hO.lp,hO.lx,hO.two⟩;clear hO;refine Gd Rk ?_;clear Rk Qy VE QA Rp;refine Gu (GH (K₁:=fun fl m n=>fl=.next/\oh (fun qt G=>(eX (p++q)=true/\qt=Value.str (p++q) t3∨eX (p++q)=false/\qt=.none)) (fun _ G=>n=G++((ak,dictOf [] ca)::(x2.led wa++[(pt,ip (.str (ah u tg) tk) (.ref ak) (.ref al) kp)]))) (fun _ _=>m (Ye "self")=some (.ref wa.W)) (fun _ _=>m (Ye "data")=some (.str (p++q) t3)) (fun _ _=>m (Ye "args")=some (.ref pt)) (fun qt _=>m (Ye "qname_text")=some qt)) ?sB ?sC)
   case sB=>
    intro K5 hK5;refine J7 (Hb (GR (Gy (Gn (FY m2d (HF Qh.2.1 Qh.2.2 (Gy (Gn (Ju (b:=eX (p++q)) (fun J h=>Gz (by k_is) h) QT.says (FY m2d ⟨rfl,fun hb b vs=>?y1,fun hb=>?y2⟩))))))))))
    case y1=>exact J8 (.head _) (He (FY m2d (hK5 _ _ _ ⟨rfl,_,[_], .inl ⟨hb,rfl⟩,rfl,m2s,m2d,m2a,rfl⟩)))
    case y2=>exact Hq (Gw (hK5 _ _ _ ⟨rfl,_,[], .inr ⟨hb,rfl⟩,rfl,m2s,m2d,m2a,rfl⟩))
   case sC=>
    rintro fl m n ⟨rfl,qt,G,U0,rfl,m1,m2,m3,m4⟩;clear m2s m2d m2a;refine GW (Lz _ _) ?_;refine Ge (JD (FY m1 (Jq (uM wa _ _ _ _) (.tail _ (KA _ (x2.mW wa))) (.tail _ (KA _ (x2.mD wa))) fun q0=>Jc (.head _) (by rfl) (FY m3 ⟨pt,#[.str (ah u tg) tk, .ref ak, .ref al],kp,rfl,dj (KB _ (.head _)),by show 3<=1000;decide,FY m4 ⟨.head _,?_⟩⟩))));have Uf:=oK wa Qt x2 _ QI rfl init al cl SA u tg tk ak ca Rn (dH p) q qt _ (.inr rfl) (by
     rcases U0 with⟨_,rfl⟩|⟨_,rfl⟩
     ·exact .inr ⟨t3,by exact ae QT.eq rfl⟩
     ·exact .inl rfl) hO2
    refine Gd (n':=((ak,dictOf [] ca)::x2.led wa)++((q0,methodObj (.ref 126) (.ref wa.W))::[_])) (Lf (l₁:=(ak,dictOf [] ca)::x2.led wa)).symm (IO Uf (KB _ (.head _)) (by show 6<=6;decide) ?hJ ?hR)
    case hR=>
     refine hE _ _ fun PQ Yr ⟨h1,h2,h3,h4⟩=>⟨Yr,⟨?_,h4⟩,fun q hq=> .inl hq⟩;rcases U0 with⟨hb,_⟩|⟨_,e⟩
     ·unfold ar
      refine aa hd (aa Uc ?_);dsimp only;exact aa (KZ hb) (aa (show cX a.ns (dH p)=none from h2) (aa h3 rfl))
     ·rw[e] at h1;obtain⟨_,h1⟩:=h1;cases h1
    case hJ=>
     rintro v n' ⟨rfl,x3,yu,TX,QV,rfl⟩;refine GW (n':=x3.led wa) (.cons _ (List.sublist_append_left _ _)) ?_;rw[UF] at QV;rcases U0 with⟨hb,rfl⟩|⟨hb,rfl⟩
     ·refine Gk (Gb (FY m4 (Gw (Ia (F9 (I0 (hK4 _ _ _ (.inr ⟨rfl,x3,_,QV,rfl,?_⟩))))))))
      rcases TX with⟨h,_⟩|⟨_,h1,h2⟩
      ·cases h
      ·unfold ar
       refine aa hd (aa Uc ?_);dsimp only;refine aa (KZ hb) (aa (show cX a.ns (dH p)=yu from h1.symm) ?_)
       cases yu with
       |none=>exact absurd rfl h2
       |some u2=>rfl
     ·refine Gk (Gb (FY m4 (Gw (Hc (F9 (F6 (F6 (hK4 _ _ _ (.inl ⟨rfl,m1,m2,x3,_,QV,rfl,?_,rfl,?_⟩)))))))))
      ·show (a.Yj++aX _ _ _ _ _).length<=50000
       refine aa KJ ?_;exact KH (NB hG.pg (eP _ _ _ _ _)) (by decide)
      ·rcases TX with⟨_,rfl⟩|⟨⟨_,h⟩,_⟩
       ·unfold ar
        refine aa hd (aa Uc ?_);dsimp only;exact aa hb (aa (KO KR) rfl)
       ·cases h
 case rest=>
  rintro fl m n (⟨rfl,m1,m2,x2,a2,QI,rfl,hz,hse,hf⟩|⟨rfl,x2,a2,QI,rfl,hf⟩)
  ·refine Gk (GR (Gy (Gn (FY m2 (HF Qh.2.1 Qh.2.2 (Gy (Gn (Gr (qv (QI.seen.trans hse)) m1 (x2.mW wa) (x2.mD wa) (F9 (He ?_))))))))))
   refine Ge (Ga (FY m1 (Ie (iO wa _ _ _ _) (by k_is) (x2.mW wa) (x2.mD wa) (IX (x2.mApp wa) (GE (f:=161) (fun J h=>Gz (by k_is) h) (by k_is) (FY m2 (dT.to (tL _ _ QT.pl) (by show 2<=6;decide) ?_)))))));rintro _ ⟨tr,rfl⟩;exact⟨x2.mApp wa,IK (by refine aa QI.Yj.length ?_;exact KH hz (by decide)) (F6 (F6 (hK _ _ _ _ (.refl _) ⟨rfl,_,_,hf,QI.wr _ tr,rfl⟩)))⟩
  ·exact hK _ _ _ _ (.refl _) ⟨rfl,x2,a2,hf,QI,rfl⟩
end FSk
theorem xZ(wa:aF)(x:Wr)(a:AW):FSk.Q wa x a p q:=cU (P:=FSk.P_) FSk.go (((wa,x),a),(p,q))
noncomputable def rM (r:Except Str AW) (f:AW->AW):Except Str AW:=match r with| .ok a=> .ok (f a)| .error e=> .error e
noncomputable def uW (pre YC:Str) (a:AW):AW:={a with ns:=a.ns.dropLast++[a.ns.getLast?.getD []++[(YC,pre)]]}
noncomputable def eb (u tg:Str) (a:AW):AW:={a with decl:=a.decl++[[]],Yi:=some (u,tg)}
def im(u tg:Str)(a:AW):AW:=cr a a.decl u tg none ⟨#[]⟩
def iF(u tg:Str)(a:AW):AW:={a with Yj:=a.Yj++[Ye "</"++(preOf a.pm u++Ye ":"++tg)++Ye ">"],decl:=a.decl.dropLast,ns:=a.ns.dropLast}
section
open Classical
variable{α:Type}{B pl ex Dr I Nr N r Q:List α}{A A' Bt:α}
theorem permD(hd:Dr.Perm (r++I)):(B++(pl++(ex++(Dr++N)))).Perm (r++(B++(pl++(ex++(I++N))))):=
 (Lu B (Lu pl (Lu ex (hd.append_right N)))).trans
  (lG (fun i=>[B,pl,ex,r,I,N].getD i []) (gl [0,1,2] (.a (.a (.v 3) (.v 4)) (.v 5))) (gl [3,0,1,2,4] (.v 5)) rfl)
theorem permN(hn:Nr.Perm (r++N)):(B++(pl++(ex++(I++Nr)))).Perm (r++(B++(pl++(ex++(I++N))))):=
 (Lu B (Lu pl (Lu ex (Lu I hn)))).trans
  (lG (fun i=>[B,pl,ex,I,r,N].getD i []) (gl [0,1,2,3,4] (.v 5)) (gl [4,0,1,2,3] (.v 5)) rfl)
end
section
variable{c:Fx}{E:X8}{m:X7}{n:X6}{J:ad Value}{K:ad Flow}{U:ad Unit}{r:Yd}{env:Env}{wa:aF}{x:Wr}{a:AW}
theorem I6(h:n.Perm (g++n'))(k:Tr c E m n' p K):Tr c E m n p K:=Gd h (GW (Lz _ _) k)
theorem Hu(Qt:(wa.YD==sysModules)=false)(hA:bC x a)(hG:eD a)(hk:7<=c.k)(hs:m sx=some (.ref wa.W))(hR:dC c m Z (ou wa (ar a) a.Yj) E)
  (h:∀ x' a',ar a=.ok a'->bC x' a'->Tr c E m (x'.led wa++Z) (execs r c.env) K) (hkx:c.env.kindOf sx=some .local:=by rfl) (hdx:(sx==("__debug__":Str))=false:=by decide)
  (he:eval (.Call (.Attribute (.Name sx p3) (Ye "_flush") p4) [] [] p5) c.env=(do
   let ov←eval (.Name sx p3) c.env
   standAt p4.atName
   let (f,first)←holding [ov] (getMethod ov (Ye "_flush") pl)
   callWith p5 f first (backTo p5 (starEach [] c.env)) []):=by rfl)
  (hi:interactive c.env=false:=by rfl) (Ry:swapsWith (.Call (.Attribute (.Name sx p3) (Ye "_flush") p4) [] [] p5) none p6.line c.env=Pure.pure false:=by rfl):
  Tr c E m (x.led wa++Z) (execs (.If (.Attribute (.Name sx p1) (Ye "_data") p2) [.Expr (.Call (.Attribute (.Name sx p3) (Ye "_flush") p4) [] [] p5) p6] [] p7::r) c.env) K:=by
 have hd:=hA.data
 cases had:a.data with
 |none=>
  rw[had] at hd;refine Gk (Gn (Gr (fT wa _ _ _ _) hs (KA _ (x.mW wa)) (KA _ (x.mD wa)) (HE (KA _ (x.mData wa)) (by refine aa (show x.data=[] from hd) ?_;exact K6 _) ?_) hkx hdx));refine aa (show x.data=[] from hd) ?_;refine F6 (h x a ?_ hA);unfold ar;exact aa had rfl
 |some pq=>
  obtain⟨p,q⟩:=pq;rw[had] at hd;obtain⟨t1,t2,hd⟩:=hd;refine Gk (Gn (Gr (fT wa _ _ _ _) hs (KA _ (x.mW wa)) (KA _ (x.mD wa)) (HE (KA _ (x.mData wa)) (by refine aa hd ?_;show 2<=16777216;decide) ?_) hkx hdx));refine aa hd ?_;refine Ge (Ga (FY hs (GZ (ni wa _ _ _ _) (KA _ (x.mW wa)) (KA _ (x.mD wa)) (Kb (ni wa x.t x.Yi x.seen x.done).hk ((xZ wa x a Qt hA hG had).to c E m Z _ hk ?_ hR))) hkx hdx) he) hi Ry;rintro v n' ⟨-,x',a',hf,Qm,rfl⟩;exact F6 (h x' a' hf Qm)
theorem H8(h:B false m n):Tr c E m n (truthy (.int 0 t)) B:=JO h
end
section
variable(wa:aF)(x:Wr)
noncomputable def Wr.setNs (s:az) (k:Nat):Wr:={x with ns:=s,cn:=k}
theorem Jl(h:x.ns=Ys++[(A,qs,k)]):(x.setNs (Ys++[(A,qs',k')]) x.cn).base wa=x.base wa:=by
 unfold Wr.base Wr.setNs;refine aa h (aa (GL _ _ _ _) ?_);dsimp only;exact aa (GL _ _ _ _) rfl
def Wr.offN(N:X6):X6:=x.base wa++(x.pl++(x.ex++(x.decl.read++N)))
theorem Wr.permN(h:x.ns.read.Perm (r++N)):(x.led wa).Perm (r++x.offN wa N):=Internal.permN (B:=x.base wa) (pl:=x.pl) (ex:=x.ex) (I:=x.decl.read) h
end
theorem uk(h:ar a=.ok a'):a'.ns=a.ns∨a'.ns=a.ns++[[]]:=by
 unfold ar at h
 split at h
 ·cases h;exact .inl rfl
 ·split at h
  ·cases h;exact .inl rfl
  ·split at h
   ·split at h
    ·cases h
    ·cases h;exact .inr rfl
   ·cases h;exact .inr rfl
theorem jS{s:az}{l:List (List UP)}(e:s.ab=l)(h:l≠[]):vK (fun i A qs k=>s=i++[(A,qs,k)]):=by
 rcases Pt s with rfl|⟨i,⟨A,qs,k⟩,rfl⟩
 ·exact absurd e.symm h
 ·exact⟨i,A,qs,k,by exact aa Ps rfl⟩
theorem tQ(wa:aF)(Qt:(wa.YD==sysModules)=false)(x:Wr)(a:AW)(hA:bC x a)(hG:eD a)(pre YC:Str)(tp tu:Tok):
  bF 8 113 [.ref wa.W, .str pre tp, .str YC tu] (x.led wa) (rH wa (rM (ar a) (uW pre YC))) (ou wa (ar a) a.Yj):=by
 refine' GG (binds:=[(Ye "self", .ref wa.W),(Ye "prefix", .str pre tp),(Ye "uri", .str YC tu)]) (by k_is) (by k_is) (by exact fun s X=>LJ rfl) (by exact ba rfl) (by rfl) (by rfl) (by rfl) (by decide) ?k9 ?_
 case k9=>
  rintro PQ Yr ⟨-,pg,cg,tb,rfl,-⟩ q hq;rcases KI.mp hq with rfl|hq
  ·exact KK.mpr ⟨_,x.mPage wa,rfl⟩
  ·exact aa (KF.mp hq) (KK.mpr ⟨_,x.mTab wa,rfl⟩)
 intro A₀ base dp un gd L outer h₀ os g₀ c E K hE hK;refine Gk (Gn (Gr (mA wa _ _ _ _) rfl (x.mW wa) (x.mD wa) (H8 (F6 ?_))));refine ae (Lj (x.led wa)) ?_;refine Hu Qt hA hG (by show 7<=7;decide) rfl (hE _ _ fun PQ Yr h=>⟨Yr,h,fun q hq=> .inl hq⟩) fun x' a' hf Qm=>?_;refine aa (Lj _) ?_;have UY:=uk hf;have P5:a'.ns≠[]:=by
  rcases UY with e|e<;>refine aa e ?_
  ·exact hG.ne
  ·exact fun h=>Pj _ _ (List.append_eq_nil_iff.mp h).2
 obtain⟨Ys,A,qs,kA,RT⟩:=jS Qm.ns P5;have Uu:qs.length<=1000:=by
  have h1:qs.map Pr.up∈a'.ns:=ae Qm.ns (aa RT (aa (GC _ _ _ _) (KB _ (.head _))));refine ae (KG (f:=Pr.up)) ?_;rcases UY with e|e<;>rw[e] at h1
  ·exact hG.nl _ h1
  ·rcases KM.mp h1 with h|h
   ·exact hG.nl _ h
   ·refine aa (KF.mp h) ?_;exact K6 _
 have hp:=x'.permN wa (r:=(A,lO (qs.map Pr.val) kA)::qs.map Pr.ent) (by rw[RT];exact GK Ys A qs kA);have hmA:(A,lO (qs.map Pr.val) kA)∈x'.led wa:=hp.mem_iff.mpr (.head _);have Vz:(wa.ns,lO (az.refs Ys++[Value.ref A]) x'.cn)∈x'.led wa:=by have:=x'.mNs wa;rw[RT,GL] at this;exact this
 refine Ge (Ga (Gg (Gr (lC wa _ _ _ _) rfl (x'.mW wa) (x'.mD wa) (G6 fun t1=>Ho Vz (Gj hmA Lq Li (Gq (F0 (GA (F0 (FY rfl (F0 (FY rfl (FZ ⟨by show 2<=1000;decide,fun Bt=>FZ ?_⟩)))))))))))));refine Gd ((hp.cons _).trans (List.Perm.swap _ _ _)) (Gs (pre:=[]) rfl (by refine aa (KG _) ?_;exact bd Uu) ?_);refine Gd (n':=(x'.setNs (Ys++[(A,qs++[(⟨Bt,YC,pre,tu,tp⟩:Pr)],kA+1)]) x'.cn).led wa) ?_ (F6 ?_)
 ·refine List.Perm.trans ?_ (Wr.permN wa _ (r:=(A,lO ((qs++[(⟨Bt,YC,pre,tu,tp⟩:Pr)]).map Pr.val) (kA+1))::(qs++[(⟨Bt,YC,pre,tu,tp⟩:Pr)]).map Pr.ent) (GK Ys A _ (kA+1))).symm
  unfold Wr.offN;refine aa (Jl wa x' RT) (aa KP (aa KP ?_));refine List.Perm.cons _ ?_;show (_::(qs.map Pr.ent++_)).Perm ((qs.map Pr.ent++[_])++_);rw[KS];exact Lf.symm
 refine hK _ _ _ _ (.refl _) ⟨rfl,_,uW pre YC a',?_,?_,rfl⟩
 ·refine aa hf ?_;rfl
 ·exact⟨Qm.decl,by show az.ab (Ys++[_])=_;refine aa (GC _ _ _ _) ?_;unfold uW;refine ae Qm.ns (aa RT (aa (GC _ _ _ _) (aa LP (aa Nl (aa KP ?_)))));rfl,Qm.pm,Qm.Yj,by show x'.Yp=List.replicate (Ys++[_]).length _;refine aa Qm.Yp (aa RT (aa KJ (aa KJ ?_)));rfl,Qm.lam,Qm.data,Qm.Yi,Qm.seen⟩
noncomputable def Wr.pushData (x:Wr) (v:Value):Wr:={x with data:=x.data++[v],YM:=x.YM+1}
noncomputable def Wr.setDecl (x:Wr) (d:az) (k:Nat) (po:Obj):Wr:={x with decl:=d,cd:=k,po:=po}
noncomputable def Wr.popPres (x:Wr) (ps:Yb):Wr:={x with Yp:=ps,cs:=x.cs+1}
noncomputable def Wr.setDone (x:Wr) (b:Bool):Wr:={x with done:=b}
theorem qM(wa:aF)(x:Wr)(v:Value)(hz:x.data.length<=1000):bF 1 97 [.ref wa.W,v] (x.led wa) (fun r n'=>r=.none/\n'=(x.pushData v).led wa) eT:=by
 refine' GG (binds:=[(Ye "self", .ref wa.W),(Ye "data",v)]) (by k_is) (by k_is) (by exact fun s X=>LJ rfl) (by exact ba rfl) (by rfl) (by rfl) (by rfl) (by decide) (by exact fun _ _ h=>h.elim) ?_;intro A₀ base dp un gd L outer h₀ os g₀ c E K hE hK;refine Gk (Ib (Gn (Gr (mA wa _ _ _ _) rfl (x.mW wa) (x.mD wa) (H8 ?_))));refine Ge (Ga (Gr (fT wa _ _ _ _) rfl (x.mW wa) (x.mD wa) (Gj (x.mData wa) Lq Li (Gq (F0 (FY rfl (FZ (Gs (pre:=[_,_,_,_,_,_,_,_]) rfl (bd hz) ?_))))))));exact F6 (F6 (hK _ _ _ ((x.pushData v).led wa) (.refl _) ⟨rfl,rfl⟩))
section
variable{c:Fx}{E:X8}{m:X7}{n:X6}{J:ad Value}
theorem JB(hm:(D,ob)∈n)(hS:ob.SetObjOf (PySem.strKind PR w) S k)(hz:k<=1000)(h:J (.bool (S y)) m n):Tr c E m n (compareOp .In (.str y t) (.ref D)) J:= .mk fun s l=>by
 obtain⟨pre,post,rfl⟩:=List.append_of_mem hm;exact kse_in l.N (e9 pre rfl l.D) hS (by unfold scanBound;exact L1 [_] (.a V0 W1) (.n 4096) 1 V0 (.n 1000) rfl hz) (NH _ _ _ _) rfl ⟨m,_,l.tok,h⟩
theorem mU{wa:aF}{x:Wr}{al k:Nat}:((al,listOf #[] 0)::((wa.W,instObj 150 wa.D)::(wa.D,dictOf (aE wa x.t x.Yi x.seen x.done) x.cnt)::(wa.decl,lO (x.decl.refs++[Value.ref al]) k)::(x.led wa).drop 3)).Perm ((x.setDecl (x.decl++[(al,[],0)]) k x.po).led wa):=by
 have e:(x.setDecl (x.decl++[(al,[],0)]) k x.po).led wa=(wa.W,instObj 150 wa.D)::(wa.D,dictOf (aE wa x.t x.Yi x.seen x.done) x.cnt)::(wa.decl,lO (x.decl.refs++[Value.ref al]) k)::((x.base wa).drop 3++(x.pl++(x.ex++((x.decl++[(al,[],0)]:az).read++x.ns.read)))):=by
  unfold Wr.led Wr.setDecl;dsimp only;exact aa (GL _ _ _ _) rfl
 exact aa e ((Internal.permD (B:=(wa.W,instObj 150 wa.D)::(wa.D,dictOf (aE wa x.t x.Yi x.seen x.done) x.cnt)::(wa.decl,lO (x.decl.refs++[Value.ref al]) k)::(x.base wa).drop 3) (pl:=x.pl) (ex:=x.ex) (N:=x.ns.read) (r:=[(al,listOf #[] 0)]) (I:=x.decl.read) (GK x.decl al [] 0)).symm)
theorem fg(hG:eD a)(h:ar a=.ok a'):a'.Yi=none/\a'.data=none:=by
 unfold ar at h
 split at h
 ·rename_i hd
  cases h;exact⟨hG.np hd,hd⟩
 ·split at h
  ·rename_i hp
   cases h;exact⟨hp,rfl⟩
  ·split at h
   ·split at h
    ·cases h
    ·cases h;exact⟨rfl,rfl⟩
   ·cases h;exact⟨rfl,rfl⟩
variable{U:ad Unit}{wa:aF}{x:Wr}{a:AW}{Z:X6}
theorem IL(hp:handedIn x.Yi=true)(h:U () m ((x.setPend v x.pl).led wa++Z)):Tr c E m (x.led wa++Z) (PySem.setAttr (.ref wa.W) "_pending_start" v) U:=
 Gl (es':=fun _=>aE wa x.t v x.seen x.done) (k':=x.cnt) (nD wa x.t x.Yi x.seen x.done hp) (KA _ (x.mW wa)) (pre:=[_]) rfl (fun t0=>⟨t0,pG wa x.t x.Yi x.seen x.done x.cnt t0 v⟩) (fun _=>by show 17<=1000;decide) fun _=>h
theorem bC.pushDecl(h:bC x a)(hp:a.Yi=none)(al k:Nat):bC (x.setDecl (x.decl++[(al,[],0)]) k x.po) {a with decl:=a.decl++[[]]}:=by
 have h8:=h.Yi;rw[hp] at h8;exact⟨by show az.ab (x.decl++_)=_;refine aa (GC _ _ _ _) (aa h.decl ?_);rfl,h.ns,h.pm,h.Yj,h.Yp,h.lam,h.data,by refine aa (show ({a with decl:=a.decl++[[]]}:AW).Yi=none from hp) ?_;exact h8,h.seen⟩
theorem BF{α:Type}{B T:List α}{p t a:α}:((B++([]++T))++[p,t,a]).Perm ((B++([p,a]++T))++[t]):=by
 (rw[Oi];refine aa (KS _ _ _) (aa (KS _ _ _) ?_))
 refine Lu B ?_;refine(LW (l₁:=T)).trans ?_;refine(List.Perm.cons p (List.Perm.swap a t T)).trans ?_;exact List.Perm.cons p (List.Perm.cons a (LW (l₁:=[t])))
theorem v0(wa:aF)(Qt:(wa.YD==sysModules)=false)(x:Wr)(a:AW)(hA:bC x a)(hG:eD a)(u tg:Str)(tk:Tok)(ak ca:Nat)(aD:Obj)(S:Str->Bool)(ks:Nat)(hS:aD.SetObjOf (PySem.strKind PR w) S ks)(SH:ks<=1000)(TM:S (ah u tg)=true)(Rn:(ak==sysModules)=false)(QA:∀ a',ar a=.ok a'->a'.decl.length<=100000):
  bF 8 120 [.ref wa.W, .str (ah u tg) tk, .ref ak] (x.led wa++[(wa.Yw,aD),(ak,dictOf [] ca)]) (fun v n'=>v=.none/\bW (fun x' a'=>ar a=.ok a') (fun x' a'=>bC x' (eb u tg a')) (fun x' _=>n'=x'.led wa++[(wa.Yw,aD)])) (ou wa (ar a) a.Yj):=by
 refine' GG (binds:=[(Ye "self", .ref wa.W),(Ye "tag", .str (ah u tg) tk),(Ye "attrs", .ref ak)]) (by k_is) (by k_is) (by exact fun s X=>LJ rfl) (by exact ba rfl) (by rfl) (by rfl) (by rfl) (by decide) ?k9 ?_
 case k9=>
  rintro PQ Yr ⟨-,pg,cg,tb,rfl,-⟩ q hq;rcases KI.mp hq with rfl|hq
  ·exact KK.mpr ⟨_,KA _ (x.mPage wa),rfl⟩
  ·exact aa (KF.mp hq) (KK.mpr ⟨_,KA _ (x.mTab wa),rfl⟩)
 intro A₀ base dp un gd L outer h₀ os g₀ c E K hE hK;refine Gk (GR (Gy (Gb (Gr (nz wa _ _ _ _) rfl (KA _ (x.mW wa)) (KA _ (x.mD wa)) (Gw (Hc (F9 (F6 ?_))))))));refine Hu Qt hA hG (by show 7<=7;decide) rfl (hE _ _ fun PQ Yr h=>⟨Yr,h,fun q hq=> .inl hq⟩) fun x' a' hf Qm=>?_;obtain⟨Rq,Uh⟩:=fg hG hf;refine Gf (Gx (FZ ⟨K6 _,fun al=>?_⟩));show Tr _ _ _ _ _ _;generalize hm:(fun y=>if y=Ye "new_namespaces" then some (Value.ref al) else _)=m1;revert m1;refine wrap ?_;intro m1 hm;have RU:m1 (Ye "self")=some (.ref wa.W):=ae hm rfl;have m1t:m1 (Ye "tag")=some (.str (ah u tg) tk):=ae hm rfl;have m1a:m1 (Ye "attrs")=some (.ref ak):=ae hm rfl;have m1n:m1 (Ye "new_namespaces")=some (.ref al):=ae hm rfl;clear hm;have Ss:x'.decl.refs.length<=100000:=by
  unfold az.refs;refine aa (KG _) (aa (show x'.decl.length=a'.decl.length by rw[←Qm.decl];unfold az.ab;rw[KG]) ?_);exact QA a' hf
 refine Ge (Ga (Gr (fU wa _ _ _ _) RU (.tail _ (KA _ (x'.mW wa))) (.tail _ (KA _ (x'.mD wa))) (Gj (.tail _ (KA _ (x'.mDecl wa))) Lq Li (Gq (F0 (FY m1n (FZ (Gs (pre:=[_,_,_]) rfl Ss ?_))))))));refine Gd ((mU (wa:=wa) (x:=x') (al:=al) (k:=x'.cd+1)).append_right [(wa.Yw,aD),(ak,dictOf [] ca)]) ?_;have Rp:=Qm.pushDecl Rq al (x'.cd+1);generalize hx1:x'.setDecl (x'.decl++[(al,[],0)]) (x'.cd+1) x'.po=x1 at Rp;revert x1;refine wrap ?_;intro x1 hx1 Rp;refine Gk (GR (Gy (Gb (Gr (ic wa _ _ _ _) RU (KA _ (x1.mW wa)) (KA _ (x1.mD wa)) (Gw (Hl (F9 (Gy (Gb (FY m1t (Gr (ic wa _ _ _ _) RU (KA _ (x1.mW wa)) (KA _ (x1.mD wa)) (JB (KB _ (.head _)) hS SH (F9 ?_)))))))))))));refine aa TM ?_;refine He (Gv (GA (F0 (FY m1t (F0 (FY m1a (F0 (FY m1n (FZ ⟨by show 3<=1000;decide,fun pt=>FY RU ?_⟩)))))))));have h8:=Rp.Yi;rw[show ({a' with decl:=a'.decl++[[]]}:AW).Yi=none from Rq] at h8;refine Gd Lf.symm (IL (by refine aa h8.1 ?_;rfl) (Gd (n':=(x1.setPend (.ref pt) [(pt,ip (.str (ah u tg) tk) (.ref ak) (.ref al) 0),(ak,dictOf [] ca)]).led wa++[(wa.Yw,aD)]) ?_ (I0 (hK _ _ _ _ (.refl _) ⟨rfl,_,a',hf,?_,rfl⟩))))
 ·exact aa h8.2 (BF (B:=(x1.setPend (.ref pt) []).base wa))
 ·exact⟨Rp.decl,Rp.ns,Rp.pm,Rp.Yj,Rp.Yp,Rp.lam,Rp.data,⟨tk,pt,ak,al,0,ca,0,x'.decl,rfl,Rn,by refine ae hx1 ?_;rfl,rfl⟩,Rp.seen⟩
theorem vZ(wa:aF)(Qt:(wa.YD==sysModules)=false)(x:Wr)(a:AW)(hA:bC x a)(hG:eD a)(u tg:Str)(tk:Tok)(ak ca:Nat)(aD:Obj)(S:Str->Bool)(ks:Nat)(hS:aD.SetObjOf (PySem.strKind PR w) S ks)(SH:ks<=1000)(TM:S (ah u tg)=false)(Rn:(ak==sysModules)=false)(QA:∀ a',ar a=.ok a'->a'.decl.length<=100000)(hO:∀ a',ar a=.ok a'->et a' a'.decl u tg ⟨#[]⟩ ⟨#[]⟩):
  bF 8 120 [.ref wa.W, .str (ah u tg) tk, .ref ak] (x.led wa++[(wa.Yw,aD),(ak,dictOf [] ca)]) (fun v n'=>v=.none/\bW (fun x' a'=>ar a=.ok a') (fun x' a'=>bC x' (im u tg a')) (fun x' _=>n'=x'.led wa++[(wa.Yw,aD)])) (ou wa (ar a) a.Yj):=by
 refine' GG (binds:=[(Ye "self", .ref wa.W),(Ye "tag", .str (ah u tg) tk),(Ye "attrs", .ref ak)]) (by k_is) (by k_is) (by exact fun s X=>LJ rfl) (by exact ba rfl) (by rfl) (by rfl) (by rfl) (by decide) ?k9 ?_
 case k9=>
  rintro PQ Yr ⟨-,pg,cg,tb,rfl,-⟩ q hq;rcases KI.mp hq with rfl|hq
  ·exact KK.mpr ⟨_,KA _ (x.mPage wa),rfl⟩
  ·exact aa (KF.mp hq) (KK.mpr ⟨_,KA _ (x.mTab wa),rfl⟩)
 intro A₀ base dp un gd L outer h₀ os g₀ c E K hE hK;refine Gk (GR (Gy (Gb (Gr (nz wa _ _ _ _) rfl (KA _ (x.mW wa)) (KA _ (x.mD wa)) (Gw (Hc (F9 (F6 ?_))))))));refine Hu Qt hA hG (by show 7<=7;decide) rfl (hE _ _ fun PQ Yr h=>⟨Yr,h,fun q hq=> .inl hq⟩) fun x' a' hf Qm=>?_;obtain⟨Rq,Uh⟩:=fg hG hf;refine Gf (Gx (FZ ⟨K6 _,fun al=>?_⟩));show Tr _ _ _ _ _ _;generalize hm:(fun y=>if y=Ye "new_namespaces" then some (Value.ref al) else _)=m1;revert m1;refine wrap ?_;intro m1 hm;have RU:m1 (Ye "self")=some (.ref wa.W):=ae hm rfl;have m1t:m1 (Ye "tag")=some (.str (ah u tg) tk):=ae hm rfl;have m1a:m1 (Ye "attrs")=some (.ref ak):=ae hm rfl;have m1n:m1 (Ye "new_namespaces")=some (.ref al):=ae hm rfl;clear hm;have Ss:x'.decl.refs.length<=100000:=by
  unfold az.refs;refine aa (KG _) (aa (show x'.decl.length=a'.decl.length by rw[←Qm.decl];unfold az.ab;rw[KG]) ?_);exact QA a' hf
 refine Ge (Ga (Gr (fU wa _ _ _ _) RU (.tail _ (KA _ (x'.mW wa))) (.tail _ (KA _ (x'.mD wa))) (Gj (.tail _ (KA _ (x'.mDecl wa))) Lq Li (Gq (F0 (FY m1n (FZ (Gs (pre:=[_,_,_]) rfl Ss ?_))))))));refine Gd ((mU (wa:=wa) (x:=x') (al:=al) (k:=x'.cd+1)).append_right [(wa.Yw,aD),(ak,dictOf [] ca)]) ?_;have Rp:=Qm.pushDecl Rq al (x'.cd+1);have Uf:=oK wa Qt _ _ Rp Rq x'.decl al 0 rfl u tg tk ak ca Rn ⟨#[]⟩ ⟨#[]⟩ .none _ (.inl ⟨rfl,rfl⟩) (.inl rfl) (by
  have h:=hO a' hf;refine aa Qm.decl ?_;exact⟨h.YE,h.dk,h.YN,h.il,h.fl,h.nl,h.nn,h.ne,h.nu,h.pg,h.tag,h.spl,h.plx,h.lp,h.lx,h.two⟩)
 generalize x'.setDecl (x'.decl++[(al,[],0)]) (x'.cd+1) x'.po=x1 at Rp Uf;revert x1;refine wrap ?_;intro x1 Rp Uf;refine Gk (GR (Gy (Gb (Gr (ic wa _ _ _ _) RU (KA _ (x1.mW wa)) (KA _ (x1.mD wa)) (Gw (Hl (F9 (Gy (Gb (FY m1t (Gr (ic wa _ _ _ _) RU (KA _ (x1.mW wa)) (KA _ (x1.mD wa)) (JB (KB _ (.head _)) hS SH (F9 ?_)))))))))))));refine aa TM ?_;refine F6 (Ge (Ga (FY RU (GZ (nq wa _ _ _ _) (KA _ (x1.mW wa)) (KA _ (x1.mD wa)) (Ha (nq wa x1.t x1.Yi x1.seen x1.done).hk (F0 (FY m1t (F0 (FY m1a (F0 (FY m1n (FZ ?_))))))))))));refine Gd (n':=((ak,dictOf [] ca)::x1.led wa)++[(wa.Yw,aD)]) (LW (l₁:=x1.led wa++[(wa.Yw,aD)]) (l₂:=[(ak,dictOf [] ca)])|>fun h=>by rw[KS] at h;exact h) (Uf.to c E m1 _ _ (by show 6<=7;decide) ?_ (hE _ _ fun PQ Yr h=>by obtain⟨⟨_,h⟩,_⟩:=h;cases h));rintro v n' ⟨rfl,x3,yu,TX,QV,rfl⟩;rcases TX with⟨_,rfl⟩|⟨⟨_,h⟩,_⟩
 ·rw[Qm.decl] at QV
  exact F6 (hK _ _ _ _ (Ls _ _) ⟨rfl,x3,a',hf,QV,rfl⟩)
 ·cases h
variable{K:ad Flow}
theorem GY(h:J (.bool (i==j)) m n):Tr c E m n (compareOp .Eq (.int i t) (.int j u)) J:= .mk fun _ l=>PyProof.Rows.eq_int ⟨m,n,l,h⟩
theorem GN{y:Str}{xp p:Pos}{e:X9}{id:String}(e0:nsIn (ao w.params) mainGlobals y=some none)(hv:bootBuiltins y=some (.builtin id))(hn:y≠"__name__")(h:Tr c E m n (eval e c.env) (kT c E (fun v=>call (.builtin id) [v]) J))
  (he:starEach [e] c.env=[(false,eval e c.env)]:=by rfl) (hx:c.env.kindOf y=some .globalImplicit:=by rfl) (hd:(y==("__debug__":Str))=false:=by decide):Tr c E m n (eval (.Call (.Name y xp) [e] [] p) c.env) J:= .mk fun s l=>
 LC rfl (am (HK (J:=fun v m' n'=>v=.builtin id/\m'=m/\n'=n) e0 hv hn ⟨rfl,rfl,rfl⟩ hx hd s l) fun _ s' _ _ l' ⟨e1,e2,e3⟩=>by
  subst e1 e2 e3;exact N9 (Lo (am (h s' l') fun _ s1 _ _ l1 q=>LA (q s1 l1)) he) he)
theorem G9{D:Addr}{vs:Yb}{k:Nat}(hm:(D,lO vs k)∈n)(hz:vs.length<=100000)(h:∀ t,J (.int vs.length t) m n):Tr c E m n (call (.builtin "len") [.ref D]) J:=Jf hm (by refine aa Lw ?_;exact hz) (by refine aa Lw ?_;exact h)
theorem IS(h:x.Yp=ps++[y])(hz:ps.length<=100000)(k:J y m ((x.popPres ps).led wa)):Tr c E m (x.led wa) (call (.builtin "list.pop") [.ref wa.Yp]) J:=by
 obtain⟨xt,xpend,xseen,xdone,xcnt,xdecl,xcd,xpo,xpage,xcg,xpres,xcs,xns,xcn,xdata,xcdt,xtps,xex,xpl⟩:=x;dsimp only at h;subst h;exact HN (pre:=[_,_,_,_,_,_]) rfl hz k
theorem IR(h:x.decl=init++[(al,Ym,k)])(hz:init.length<=100000)
  (q:Tr c E m ((x.setDecl init (x.cd+1) x.po).led wa) (execs r env) K) (hc:∀ J':ad Value,Tr c E m (x.led wa) (call (.builtin "list.pop") [.ref wa.decl]) J'->Tr c E m (x.led wa) (eval e env) J')
  (hi:interactive env=false:=by rfl) (hs:swapsWith e none p.line env=Pure.pure false:=by rfl):Tr c E m (x.led wa) (execs (.Expr e p::r) env) K:=by
 refine Ge (hc _ ?_) hi hs;refine aa (HI h) ?_;refine HN (pre:=[_,_]) (p:=init.refs) rfl (by unfold az.refs;refine aa (KG _) ?_;exact hz) ?_;refine I6 (g:=(al,lO (Ym.map Pr.val) k)::Ym.map Pr.ent) ?_ q;exact Internal.permD (B:=(x.setDecl init (x.cd+1) x.po).base wa) (pl:=x.pl) (ex:=x.ex) (N:=x.ns.read) (I:=init.read) (by refine aa h ?_;exact GK init al Ym k)
theorem JL(h:x.ns=init++[(al,Ym,k)])(hz:init.length<=100000)
  (q:Tr c E m ((x.setNs init (x.cn+1)).led wa) (execs r env) K) (hc:∀ J':ad Value,Tr c E m (x.led wa) (call (.builtin "list.pop") [.ref wa.ns]) J'->Tr c E m (x.led wa) (eval e env) J')
  (hi:interactive env=false:=by rfl) (hs:swapsWith e none p.line env=Pure.pure false:=by rfl):Tr c E m (x.led wa) (execs (.Expr e p::r) env) K:=by
 refine Ge (hc _ ?_) hi hs;have hl:x.led wa=(x.base wa).take 7++(wa.ns,lO (az.refs init++[Value.ref al]) x.cn)::((x.base wa).drop 8++(x.pl++(x.ex++(x.decl.read++x.ns.read)))):=by
  unfold Wr.led;exact aa h (aa (GL _ _ _ _) rfl)
 refine aa hl ?_;refine HN (pre:=(x.base wa).take 7) (p:=init.refs) rfl (by unfold az.refs;refine aa (KG _) ?_;exact hz) ?_;refine I6 (g:=(al,lO (Ym.map Pr.val) k)::Ym.map Pr.ent) ?_ q;exact Internal.permN (B:=(x.setNs init (x.cn+1)).base wa) (pl:=x.pl) (ex:=x.ex) (I:=x.decl.read) (N:=init.read) (by refine aa h ?_;exact GK init al Ym k)
theorem IT(h:U () m ((x.setDone b).led wa)):Tr c E m (x.led wa) (PySem.setAttr (.ref wa.W) "_root_done" (.bool b)) U:=
 Gl (es':=fun _=>aE wa x.t x.Yi x.seen b) (k':=x.cnt) (vl wa x.t x.Yi x.seen x.done) (x.mW wa) (pre:=[_]) rfl (fun t0=>⟨t0,wV wa x.t x.Yi x.seen x.done x.cnt t0 b⟩) (fun _=>by show 17<=1000;decide) fun _=>h
end
section
open Classical
variable{α:Type}{W D de al pm pg ap pr ns da tb:α}{iL F pl ex N:List α}
theorem BH:(W::D::de::pm::pg::ap::pr::ns::da::tb::(pl++(ex++(((iL++[al])++F)++N)))).Perm (([W,D,de,al,pm]++(iL++F))++(pg::ap::pr::ns::da::tb::(pl++(ex++N)))):=
 lG (fun i=>[[W],[D],[de],[pm],[pg],[ap],[pr],[ns],[da],[tb],pl,ex,iL,[al],F,N].getD i []) (gl [0,1,2,3,4,5,6,7,8,9,10,11] (.a (.a (.a (.v 12) (.v 13)) (.v 14)) (.v 15))) (.a (gl [0,1,2,13,3,12] (.v 14)) (gl [4,5,6,7,8,9,10,11] (.v 15))) rfl
end
structure iY(a:AW)(u tg:Str):Prop where
 YE:bL a.pm
 dk:bk (aC a.decl) a.pm
 YN:a.pm.length<=50
 il:∀ l∈a.decl,l.length<=1000
 fl:(aC a.decl).length<=900
 dn:a.decl≠[]
 dl:a.decl.length<=50000
 nn:a.ns.length<=50000
 ne:a.ns≠[]
 pg:a.Yj.length<=50000
 tag:fr u tg
 fnd:aZ (aC a.decl) u≠none
theorem IM(init:az)(al:Nat)(Ym:List Pr)(k:Nat):(init++[(al,Ym,k)]:az).read=(init.lists++[(al,lO (Ym.map Pr.val) k)])++(Ym++init.flat).map Pr.ent:=by
 unfold az.read;refine aa (cy _ _ _ _) ?_;unfold az.lists;exact aa KP rfl
namespace QEk
def Q(wa:aF)(x:Wr)(a:AW)(u tg:Str)(tk:Tok)(init:az)(al cl:Nat)(Ym:List Pr):Prop:=∀ (Qt:(wa.YD==sysModules)=false) (hA:bC x a) (hO:iY a u tg) (QA:x.decl=init++[(al,Ym,cl)]),bF 4 90 [.ref wa.W, .str (ah u tg) tk] (x.led wa) (fun v n'=>vQ (fun(a3:Nat) (t1 t2 t3:Tok) (Sp:Nat) (Qi:Obj)=>v=.ref a3) (fun _ _ _ _ _ Qi=>gv Qi a.pm) (fun a3 t1 t2 t3 Sp Qi=>n'=(a3,ip (.str (preOf a.pm u++Ye ":"++tg) t1) (.str tg t2) (.str u t3) 0)::(x.setDecl (init++[(al,Ym,Sp)]) x.cd Qi).led wa)) eT
def P_(y:(((aF×Wr)×AW)×Str×Str)×((Tok×az)×Nat)×Nat×(List Pr)):Prop:=Q y.1.1.1.1 y.1.1.1.2 y.1.1.2 y.1.2.1 y.1.2.2 y.2.1.1.1 y.2.1.1.2 y.2.1.2 y.2.2.1 y.2.2.2
def y_:(((aF×Wr)×AW)×Str×Str)×((Tok×az)×Nat)×Nat×(List Pr):=pk (cE (cE (cE (cE ja se) sd) inferInstance) inferInstance) P_
def wa:aF:=y_.1.1.1.1
def x:Wr:=y_.1.1.1.2
def a:AW:=y_.1.1.2
def u:Str:=y_.1.2.1
def tg:Str:=y_.1.2.2
def tk:Tok:=y_.2.1.1.1
def init:az:=y_.2.1.1.2
def al:Nat:=y_.2.1.2
def cl:Nat:=y_.2.2.1
def Ym:List Pr:=y_.2.2.2
theorem go:Q wa x a u tg tk init al cl Ym:=by
 intro Qt hA hO QA;have Qk:(init++[(al,Ym,cl)]:az).flat.map Pr.up=aC a.decl:=by exact ae QA (aa (az.flat_ab _) (aa hA.decl rfl))
 have hfl2:Ym.map Pr.up++init.flat.map Pr.up=aC a.decl:=by exact ae Qk (aa (cy _ _ _ _) (aa KP rfl))
 obtain⟨pre,QY⟩:=Option.ne_none_iff_exists'.mp hO.fnd;have Tz:pre=preOf a.pm u:=ig hO.dk hO.YE (fe QY) hO.tag.nx;have hq:aM (init.flat.map Pr.up) (Ym.map Pr.up,a.pm) u=(pre,(Ym.map Pr.up,a.pm)):=by
  unfold aM;exact aa hfl2 (aa QY rfl)
 have Rk:∀ k po,(x.setDecl (init++[(al,Ym,k)]) x.cd po).led wa=(wa.W,instObj 150 wa.D)::(wa.D,dictOf (aE wa x.t x.Yi x.seen x.done) x.cnt)::(wa.decl,lO (az.refs init++[Value.ref al]) x.cd)::(wa.YD,po)::(wa.Yj,lO x.Yj x.cg)::(wa.Yv,bf "list.append" (.ref wa.Yj))::(wa.Yp,lO x.Yp x.cs)::(wa.ns,lO x.ns.refs x.cn)::(wa.data,lO x.data x.YM)::(123,tabObj x.YF)::(x.pl++(x.ex++(((init.lists++[(al,lO (Ym.map Pr.val) k)])++(Ym++init.flat).map Pr.ent)++x.ns.read))):=by
  intro k po;refine ae (IM _ _ _ _) ?_;unfold Wr.setDecl Wr.led;dsimp only;exact aa (GL _ _ _ _) rfl
 have hx:x.led wa=(x.setDecl (init++[(al,Ym,cl)]) x.cd x.po).led wa:=ae QA rfl;refine aa hx (aa (Rk _ _) ?_);refine' bF.perm (G:=(wa.Yj,lO x.Yj x.cg)::(wa.Yv,bf "list.append" (.ref wa.Yj))::(wa.Yp,lO x.Yp x.cs)::(wa.ns,lO x.ns.refs x.cn)::(wa.data,lO x.data x.YM)::(123,tabObj x.YF)::(x.pl++(x.ex++x.ns.read))) (n₂:=[(wa.W,instObj 150 wa.D),(wa.D,dictOf (aE wa x.t x.Yi x.seen x.done) x.cnt),(wa.decl,lO (az.refs init++[Value.ref al]) x.cd),(al,lO (Ym.map Pr.val) cl),(wa.YD,x.po)]++(init.lists++(Ym++init.flat).map Pr.ent))
  (fun hD=>?hMm) BH ?hMP ?hMR
 case hMm=>
  rw[←cy init al Ym cl];refine Ic (oG wa x.t x.Yi x.seen x.done x.cnt x.cd init al cl Ym a.pm x.po u tg tk Qt hA.pm ⟨hO.YE,by refine aa Qk ?_;exact hO.dk,by have:=hO.YN;exact bd this,by refine ae QA ?_;exact HQ hA.decl hO.il,by have:=hO.fl;rw[←Qk,KG] at this;exact bd this⟩ hO.tag.qn)
 case hMP=>
  rintro v n' ⟨f',⟨a3,x',t1,t2,t3,T5,new,YG,Sp,Qi,UC,Sk,UG,hn,he⟩,rfl⟩;rw[hq] at Sk;have e1:pre=x':=congrArg (·.1) Sk;have e2:Ym.map Pr.up=T5.map Pr.up:=congrArg (·.2.1) Sk;have e3:a.pm=UC:=congrArg (·.2.2) Sk;have hnil:new=[]:=by
   rw[hn,KP] at e2;exact List.map_eq_nil_iff.mp (List.append_right_eq_self.mp e2.symm)
  refine⟨_,?_,a3,t1,t2,t3,Sp,Qi,rfl,e3▸UG,rfl⟩
  (refine aa he (aa hn (aa hnil ?_));rw[Lj];refine ae e1 (aa (Rk _ _) (ae Tz (aa (cy _ _ _ _) ?_))))
  exact List.Perm.cons _ BH.symm
 case hMR=>exact fun _ _ h=>h
end QEk
theorem zL(wa:aF)(x:Wr)(a:AW)(u tg:Str)(tk:Tok)(init:az)(al cl:Nat)(Ym:List Pr):QEk.Q wa x a u tg tk init al cl Ym:=cU (P:=QEk.P_) QEk.go ((((wa,x),a),(u,tg)),(((tk,init),al),(cl,Ym)))
namespace ENk
def Q(wa:aF)(x:Wr)(a:AW)(u tg:Str)(tk:Tok):Prop:=∀ (Qt:(wa.YD==sysModules)=false) (hA:bC x a) (hG:eD a) (hO:∀ a',ar a=.ok a'->iY a' u tg),bF 8 133 [.ref wa.W, .str (ah u tg) tk] (x.led wa) (rH wa (rM (ar a) (iF u tg))) (ou wa (ar a) a.Yj)
def P_(y:((aF×Wr)×AW)×(Str×Str)×Tok):Prop:=Q y.1.1.1 y.1.1.2 y.1.2 y.2.1.1 y.2.1.2 y.2.2
def y_:((aF×Wr)×AW)×(Str×Str)×Tok:=pk (cE (cE (cE ja se) sd) inferInstance) P_
def wa:aF:=y_.1.1.1
def x:Wr:=y_.1.1.2
def a:AW:=y_.1.2
def u:Str:=y_.2.1.1
def tg:Str:=y_.2.1.2
def tk:Tok:=y_.2.2
theorem go:Q wa x a u tg tk:=by
 intro Qt hA hG hO;refine' GG (binds:=[(Ye "self", .ref wa.W),(Ye "tag", .str (ah u tg) tk)]) (by k_is) (by k_is) (by exact fun s X=>LJ rfl) (by exact ba rfl) (by rfl) (by rfl) (by rfl) (by decide) ?k9 ?_
 case k9=>
  rintro PQ Yr ⟨-,pg,cg,tb,rfl,-⟩ q hq;rcases KI.mp hq with rfl|hq
  ·exact KK.mpr ⟨_,x.mPage wa,rfl⟩
  ·exact aa (KF.mp hq) (KK.mpr ⟨_,x.mTab wa,rfl⟩)
 intro A₀ base dp un gd L outer h₀ os g₀ c E K hE hK;refine Gk (Gn (Gr (mA wa _ _ _ _) rfl (x.mW wa) (x.mD wa) (H8 (F6 ?_))));refine ae (Lj (x.led wa)) ?_;refine Hu Qt hA hG (by show 7<=7;decide) rfl (hE _ _ fun PQ Yr h=>⟨Yr,h,fun q hq=> .inl hq⟩) fun x' a' hf Qm=>?_;refine aa (Lj _) ?_;have Sr:=hO a' hf;obtain⟨Rq,Uh⟩:=fg hG hf;obtain⟨init,al,Ym,cl,QA⟩:=jS Qm.decl Sr.dn;have hq:=(zL wa x' a' u tg tk init al cl Ym Qt Qm Sr QA).to;have Qy:(preOf a'.pm u).length<=1000:=by
  obtain⟨pre,QY⟩:=Option.ne_none_iff_exists'.mp Sr.fnd;refine ae (ig Sr.dk Sr.YE (fe QY) Sr.tag.nx) ?_;exact(Sr.dk.len Sr.YE (by have:=Sr.YN;exact bd this) (fe QY)).2.1
 have TU:=Sr.tag.qn.tl;refine Ge (Ga (FY rfl (Ie (iO wa _ _ _ _) (by k_is) (x'.mW wa) (x'.mD wa) (IX (x'.mApp wa) (Hf (G4 (Gc fun s1=>⟨_,_,rfl,?l1,G4 (HY (Gg (Ga (FY rfl (GZ (nj wa _ _ _ _) (x'.mW wa) (x'.mD wa) (Ha (nj wa x'.t x'.Yi x'.seen x'.done).hk (F0 (FY rfl (FZ ?_)))))))))⟩)))))))
 case l1=>refine aa (Me _) ?_;show 2<=1000000;decide
 refine ae (Lj (x'.led wa)) ?_;refine hq c E _ [] _ (by show 4<=7;decide) ?_ dC.no;rintro v n' ⟨a3,t1,t2,t3,Sp,Qi,rfl,VF,rfl⟩;refine aa (Lj _) ?_;have QI:bC (x'.setDecl (init++[(al,Ym,Sp)]) x'.cd Qi) a':=⟨by show az.ab (init++_)=_;exact ae Qm.decl (aa QA (aa (GC _ _ _ _) (aa (GC _ _ _ _) rfl))),Qm.ns,VF,Qm.Yj,Qm.Yp,Qm.lam,Qm.data,by refine aa Rq ?_;have:=Qm.Yi;rw[Rq] at this;exact this,Qm.seen⟩;have SA:(x'.setDecl (init++[(al,Ym,Sp)]) x'.cd Qi).decl=init++[(al,Ym,Sp)]:=rfl;generalize x'.setDecl (init++[(al,Ym,Sp)]) x'.cd Qi=x2 at QI SA;revert x2;refine wrap ?_;intro x2 QI SA;clear hq Qm QA;refine F7 fun s2=>Hj (j:=0) (xs:=[.str (preOf a'.pm u++Ye ":"++tg) t1, .str tg t2, .str u t3]) (.head _) rfl rfl (by show 3<=1000;decide) (GW (Ls _ _) (HR ?l2 fun s3=>⟨_,_,rfl,?l3,GQ (G4 (Gc fun s4=>⟨_,_,rfl,?l4,G0 (G7 ?l4 fun s5=>⟨x2.mApp wa,?_⟩)⟩))⟩))
 case l2=>simp only[KD,uG];exact L2 [_,_] (.a (.a V0 W1) V1) (.n 1000000) 1 V0 (.n 1000) 1 V1 (.n 1000) rfl Qy TU
 case l3=>refine aa (Me _) ?_;simp only[KD,uG,show (Ye "</").length=2 from rfl];exact L2 [_,_] (.a (.n 2) (.a (.a V0 W1) V1)) (.n 1000000) 1 V0 (.n 1000) 1 V1 (.n 1000) rfl Qy TU
 case l4=>refine aa (Me _) ?_;simp only[KD,uG,show (Ye "</").length=2 from rfl,show (Ye ">").length=1 from rfl];exact L2 [_,_] (.a (.a (.n 2) (.a (.a V0 W1) V1)) W1) (.n 1000000) 1 V0 (.n 1000) 1 V1 (.n 1000) rfl Qy TU
 refine aa (Me _) ?_;have hzp:x2.Yj.length<=100000:=aa QI.Yj.length (KH Sr.pg (by decide));refine IK hzp ?_;have QV:=QI.wr (Ye "</"++(preOf a'.pm u++Ye ":"++tg)++Ye ">") s5;have UD:(x2.wr (.str (Ye "</"++(preOf a'.pm u++Ye ":"++tg)++Ye ">") s5)).decl=init++[(al,Ym,Sp)]:=SA;generalize x2.wr (.str (Ye "</"++(preOf a'.pm u++Ye ":"++tg)++Ye ">") s5)=x3 at QV UD;revert x3;refine wrap ?_;intro x3 QV UD;clear QI SA hzp;obtain⟨Ys,A,qs,kA,RT⟩:=jS QV.ns Sr.ne;have Qu:x3.ns.length=a'.ns.length:=by refine aa (show a'.ns=x3.ns.ab from QV.ns.symm) ?_;unfold az.ab;exact aa (KG _) rfl
 have RI:Ys.length+1=a'.ns.length:=ae Qu (aa RT (aa KJ rfl));have S6:=Sr.nn;have S7:x3.Yp=List.replicate Ys.length (Value.bool false)++[Value.bool false]:=by exact aa QV.Yp (aa Qu (ae RI (aa OC rfl)))
 have Ti:init.length<=100000:=by
  have h1:x3.decl.length=a'.decl.length:=by refine aa (show a'.decl=x3.decl.ab from QV.decl.symm) ?_;unfold az.ab;exact aa (KG _) rfl
  rw[UD,KJ] at h1;have:=Sr.dl;exact L3 [_,_,_] V0 (.n 100000) 3 (.a V0 V1) V2 2 V2 (.a V0 V1) 1 V2 (.n 50000) rfl (eL h1) (eG h1) this
 refine Ge (Ga (Gr (ib wa _ _ _ _) rfl (x3.mW wa) (x3.mD wa) (Gj (x3.mPres wa) Nd Nf (Hk (IS S7 (by refine aa Pu ?_;exact L3 [_,_] V0 (.n 100000) 3 (.a V0 W1) V1 2 V1 (.a V0 W1) 1 V1 (.n 50000) rfl (eL RI) (eG RI) S6) ?_)))));have h4:=QV.Yi;rw[show ({a' with Yj:=a'.Yj++[Ye "</"++(preOf a'.pm u++Ye ":"++tg)++Ye ">"]}:AW).Yi=none from Rq] at h4;have hA5:∀ b k1 k2,bC ((((x3.popPres (List.replicate Ys.length (Value.bool false))).setDone b).setDecl init k1 x3.po).setNs Ys k2) (iF u tg a'):=fun b k1 k2=>
  ⟨by show az.ab init=a'.decl.dropLast;exact aa (show a'.decl=x3.decl.ab from QV.decl.symm) (aa UD (aa (GC _ _ _ _) (aa LP rfl))),by show az.ab Ys=a'.ns.dropLast;exact aa (show a'.ns=x3.ns.ab from QV.ns.symm) (aa RT (aa (GC _ _ _ _) (aa LP rfl))),QV.pm,QV.Yj,rfl,QV.lam,QV.data,by refine aa (show (iF u tg a').Yi=none from Rq) ?_;exact h4,QV.seen⟩
 have WG:(x3.popPres (List.replicate Ys.length (Value.bool false))).decl=init++[(al,Ym,Sp)]:=UD;have WV:(x3.popPres (List.replicate Ys.length (Value.bool false))).ns=Ys++[(A,qs,kA)]:=RT;have WN:(x3.popPres (List.replicate Ys.length (Value.bool false))).Yp.length<=100000:=by show (List.replicate _ _).length<=_;refine aa Pu ?_;exact L3 [_,_] V0 (.n 100000) 3 (.a V0 W1) V1 2 V1 (.a V0 W1) 1 V1 (.n 50000) rfl (eL RI) (eG RI) S6
 have hpo4:(x3.popPres (List.replicate Ys.length (Value.bool false))).po=x3.po:=rfl;rw[←hpo4] at hA5;generalize x3.popPres (List.replicate Ys.length (Value.bool false))=x4 at hA5 WG WV WN;revert x4;refine wrap ?_;intro x4 hA5 WG WV WN;clear QV UD RT S7 h4 hpo4;refine Gv (ID (GN (by k_is) (by boot_fast) (by decide) (Gr (ib wa _ _ _ _) rfl (x4.mW wa) (x4.mD wa) (G9 (x4.mPres wa) WN fun s6=>F7 fun s7=>GY (FY rfl (IT ?_))))));generalize ((x4.Yp.length:Int)==1)=b;revert b;refine wrap ?_;intro b;have hdl5:(x4.setDone b).decl=init++[(al,Ym,Sp)]:=WG;refine IR hdl5 Ti ?_ fun J' h=>Ga (Gr (fU wa _ _ _ _) rfl (Wr.mW wa _) (Wr.mD wa _) (Gj (Wr.mDecl wa _) Nd Nf (Hk h)));have hxn5:((x4.setDone b).setDecl init ((x4.setDone b).cd+1) (x4.setDone b).po).ns=Ys++[(A,qs,kA)]:=WV;refine JL hxn5 (by exact L3 [_,_] V0 (.n 100000) 3 (.a V0 W1) V1 2 V1 (.a V0 W1) 1 V1 (.n 50000) rfl (eL RI) (eG RI) S6) ?_ fun J' h=>Ga (Gr (lC wa _ _ _ _) rfl (Wr.mW wa _) (Wr.mD wa _) (Gj (Wr.mNs wa _) Nd Nf (Hk h)));exact F6 (hK _ _ _ _ (.refl _) ⟨rfl,_,iF u tg a',by refine aa hf ?_;rfl,hA5 _ _ _,rfl⟩)
end ENk
theorem rP(wa:aF)(x:Wr)(a:AW)(u tg:Str)(tk:Tok):ENk.Q wa x a u tg tk:=cU (P:=ENk.P_) ENk.go (((wa,x),a),((u,tg),tk))
noncomputable def ck {K:Type} [DecidableEq K] (PP:List (K×Value)) (x:K×Value):List (K×Value):=if x.1∈PP.map (·.1) then PP else PP++[x]
theorem wk{K:Type}[DecidableEq K]{PP:List (K×Value)}{x:K×Value}(h:x.1∈PP.map (·.1)):ck PP x=PP:=KZ h
theorem wj{K:Type}[DecidableEq K]{PP:List (K×Value)}{x:K×Value}(h:¬x.1∈PP.map (·.1)):ck PP x=PP++[x]:=KO h
theorem jL{K:Type}[DecidableEq K]:∀ (l PP:List (K×Value)),(l.foldl ck PP).length<=PP.length+l.length
 |[],_=>K1 _
 |x::l,PP=>by
  refine KH (jL l (ck PP x)) ?_;have:(ck PP x).length<=PP.length+1:=by
   unfold ck
   split
   ·exact MG _
   ·refine aa KJ ?_;exact K1 _
  refine aa Le ?_;exact L1 [_,_,_] (.a V0 V2) (.a V1 (.a V2 W1)) 1 V0 (.a V1 W1) rfl this
section
variable{K:Type}[DecidableEq K][BEq K][LawfulBEq K]{knd:PySem.KeyKind PR w K}{A:Around}{E:X8}{s:Shared}
theorem iT{I l S:Addr}{xs:List (K×Value)}{R:Result->Shared->Prop}(hh:A.in1.handled=none)(P5:l≠I)(Ub:S≠I)(hSl:S≠l)(hk:∀ x∈xs,knd.is x.1 x.2=true/\x.2.scannable=true)(hz:xs.length<=1000):
  ∀ (k i:Nat) (s:Shared) (o:Obj),xs.length-i=k->i<=xs.length->s.heap.IsListIter I l i->s.heap.IsList l (xs.map (·.2)).toArray->s.heap.get? S=some o->bb knd o ((xs.take i).foldl ck [])->
   (∀ h' tk o',h'.get? S=some o'->bb knd o' (xs.foldl ck [])->(∀ b o,b≠S->b≠I->s.heap.get? b=some o->h'.get? b=some o)->R (.ok (.ret .none)) {s with heap:=h',toks:=tk})->
   codeAny MP A (.builtin "set.update.loop" ⟨[.ref S, .ref I],[]⟩) R s
 |0,i,s,o,hki,hi,QG,hl,hS,hW,hR=>by
  have TM:i=xs.length:=sZ hki hi;subst TM;refine Mx PyProof.Rows.F.entry_set_update_loop ?_;refine aa (LO MS _) ?_;show wpAny _ A.in1 (pyNext (.ref I)>>=_) _ _ s;refine Kz (wpAny_pyNext_list_end hh QG hl (by simp) fun h' he'=>?_);show wpAny _ A.in1 (ret Value.none) _ _ _;rw[Lm] at hW;exact KE (hR h' s.toks o (he' S o Ub hS) hW fun b o _ hb e=>he' b o hb e)
 |k+1,i,s,o,hki,hi,QG,hl,hS,hW,hR=>by
  have PW:i<xs.length:=sJ hki;refine Mx PyProof.Rows.F.entry_set_update_loop ?_;refine aa (LO MS _) ?_;show wpAny _ A.in1 (pyNext (.ref I)>>=_) _ _ s;refine Kz (wpAny_pyNext_list_item QG hl (x:=xs[i].2) (by simp[PW]) fun h' Tj S8=>?_);obtain⟨RG,VJ⟩:=hk xs[i] (M8 PW);show wpAny _ A.in1 (holding [xs[i].2] (setAdd S xs[i].2)>>=_) _ _ _;refine Kz (Lk ?_);unfold setAdd;refine Lk (Kz (knd.pyHash RG ?_));have Qc:((xs.take i).foldl ck []).length+1<scanBound:=by
   have:=jL (xs.take i) [];rw[Ms,List.length_nil] at this;unfold scanBound;exact L4 [_,_,_,_] (.a (.a V2 W1) W1) (.n 4096) 1 V0 (.n 1000) 1 V1 V0 1 V2 (.a W0 V3) 1 V3 V1 rfl hz hi this (OP _ _)
  have RY:h'.get? S=some o:=S8.extBut S o Ub hS;have hl':h'.IsList l (xs.map (·.2)).toArray:=hl.extBut S8.extBut P5;have Rc:(xs.take (i+1)).foldl ck []=ck ((xs.take i).foldl ck []) xs[i]:=by
   exact aa Mn (aa (KL PW) (aa (NO _) (aa NT rfl)))
  have Xg:∀ (h2:Heap) (So:Nat),(∀ b o,b≠S->b≠I->h'.get? b=some o->h2.get? b=some o)->∀ h3 tk o',h3.get? S=some o'->bb knd o' (xs.foldl ck [])->(∀ b o,b≠S->b≠I->h2.get? b=some o->h3.get? b=some o)->R (.ok (.ret .none)) {s with heap:=h3,toks:=tk}:=
   fun h2 So hk2 h3 tk o' a1 a2 a3=>hR h3 tk o' a1 a2 fun b o UM Ue e=>a3 b o UM Ue (hk2 b o UM Ue (S8.extBut b o Ue e))
  refine pL (s:={s with heap:=h',toks:=s.toks+1}) RG VJ RY hW Qc (fun R9=>?_) fun Rm h2 o2 Q5 ho2 UK=>?_
  ·refine KE ⟨M7 MS _,iT hh P5 Ub hSl hk hz k (i+1) {s with heap:=h',toks:=s.toks+1} o (sP hki) PW Tj hl' RY ?_ (Xg h' 0 fun _ _ _ _ e=>e)⟩
   exact aa Rc (aa (wk R9) hW)
  ·refine KE ⟨M7 MS _,iT hh P5 Ub hSl hk hz k (i+1) {s with heap:=h2,toks:=s.toks+1} o2 (sP hki) PW (Tj.at fun o e=>?_) (hl'.at fun o e=>?_) ho2 ?_ (Xg h2 0 fun b o hb _ e=>?_)⟩
   ·refine aa (Q5.2 I Ub.symm) ?_;exact e
   ·refine aa (Q5.2 l hSl.symm) ?_;exact e
   ·exact aa Rc (aa (wj Rm) UK)
   ·refine aa (Q5.2 b hb) ?_;exact e
theorem vk(a:Value)(h:∀ led:Bool,(w.params.followText "set-order"=false->led=true)->Q₁ (.ref s.heap.objs.size) {s with heap:=s.heap.push {cls:= .type "set",dict:=none,data:= .set #[] 0 (.fresh 0 0 led)}}):
  codeAny MP A (.call (.builtin "set.__new__") ⟨[.type "set",a],[]⟩) (wants Q₁ E) s:=by
 refine NQ ?_;show wpAny _ A.in1 (do checkBuiltinCall "set.__new__" ⟨[.type "set",a],[]⟩;again (.builtin "set.__new__" ⟨[.type "set",a],[]⟩)) _ _ s;refine Kz (Ni (PySem.F.newCall_set_1 a) (KE ⟨M7 PySem.F.plain_set_new _,Mx PySem.F.entry_set_new ?_⟩));refine aa (LO PySem.F.plain_set_new _) ?_;unfold Builtin.«set.__new__» Builtin.Frozenset.newClass;have VK:=sub_set_self;obtain⟨hp,g,d,tk,os⟩:=s;dsimp only
 wp_walk
 refine MW (KE ?_);dsimp only;simp only[newObj];refine Kz (wpAny_alloc (KE ?_));refine KE (h _ fun e=>?_);show (!w.params.followText "set-order")=true;exact aa e rfl
variable{h₀:Heap}{L:Addr}{m:X7}{news:X6}
theorem rU{l:Addr}{xs:List (K×Value)}{Q:X8}(hh:A.handled=none)(hl:s.heap.IsList l (xs.map (·.2)).toArray)(hk:∀ x∈xs,knd.is x.1 x.2=true/\x.2.scannable=true)(hz:xs.length<=1000)
  (h:∀ (h':Heap) (tk:Nat) o,h'.get? s.heap.objs.size=some o->bb knd o (xs.foldl ck [])->(∀ b o,b<s.heap.objs.size->s.heap.get? b=some o->h'.get? b=some o)->Q (.ref s.heap.objs.size) {s with heap:=h',toks:=tk}):
  wpAny MP A (call (.type "set") [.ref l]) Q E s:=by
 obtain⟨c,tl,hmro⟩:=MT.mro;have hmade:=MT.made;have VK:=MT.sub;refine OK (NQ ?_);show wpAny _ _ (callAny (.type "set") _) _ _ _;refine KE ⟨Code.quiet_builtin _ (by decide+kernel),Mx PySem.F.entry_type_call ?_⟩;refine aa (Around.under_plain (weight_type_call_type "set" [.ref l] []) rfl) ?_;have h1:=MT.notType;have h2:=MT.canCreate;have hct:=PySem.F.typeCall_set_1 (.ref l)
 repeat (any_goals (first|assumption|wp_step))
 refine codeAny_mono (vk (.ref l) (E:=E) (Q₁:=fun obj P1=>fJ (fun(led:Bool)=>(w.params.followText "set-order"=false->led=true)) (fun _=>obj=.ref s.heap.objs.size) (fun led=>P1={s with heap:=s.heap.push {cls:= .type "set",dict:=none,data:= .set #[] 0 (.fresh 0 0 led)}})) fun led Rk=>⟨led,Rk,rfl,rfl⟩) fun r P1 hr=>?_
 cases r with
 |error _=>exact hr
 |ok f=>cases f with
  |next=>exact hr.elim
  |brk=>exact hr.elim
  |cont=>exact hr.elim
  |ret obj=>
  obtain⟨led,Rk,e1,e2⟩:=hr;subst e1 e2;generalize ho:({cls:= .type "set",dict:=none,data:= .set #[] 0 (.fresh 0 0 led)}:Obj)=so;revert so;refine wrap ?_;intro so ho;have Um:so.isFreed=false:=ae ho rfl;have QW:so.cls=.type "set":=by exact ae ho rfl
  have hW0:bb knd so []:=ae ho (lP Rk);have hS:(s.heap.push so).get? s.heap.objs.size=some so:=Lc _ Um;have hT:Shared.TypeIs {s with heap:=s.heap.push so} (.ref s.heap.objs.size) "set":=⟨_,hS,QW⟩;have hli:=MT.init.lookup;have hbi:=MT.init.bind (.ref s.heap.objs.size);subst ho
  repeat (any_goals (first|assumption|wp_step))
  refine codeAny_mono (OH (R:=wants (fun r QU=>r=.none/\gR (fun h' tk o=>QU={s with heap:=h',toks:=tk}) (fun h' _ o=>h'.get? s.heap.objs.size=some o) (fun _ _ o=>bb knd o (xs.foldl ck [])) (fun h' _ o=>∀ b o,b<s.heap.objs.size->s.heap.get? b=some o->h'.get? b=some o)) E) MT.init.plain PySem.F.entry_set_init (check_set_init_1 hT ?inner)) fun SM QU WC=>?outer
  case outer=>
   cases SM with
   |error _=>exact WC
   |ok f=>cases f with
    |next=>exact WC.elim
    |brk=>exact WC.elim
    |cont=>exact WC.elim
    |ret _=>
    obtain⟨e1,h',tk,o,e2,a1,a2,a3⟩:=WC;subst e1 e2
    repeat (any_goals (first|assumption|wp_step))
    exact h _ _ o a1 a2 a3
  case inner=>
   obtain⟨ol,R4,Wg,nl,QA⟩:=id hl;obtain⟨ocls,odict,odata,oslots⟩:=ol;simp only at Wg QA;subst Wg QA;have hol':=KN (h:=s.heap) ({cls:= .type "set",dict:=none,data:= .set #[] 0 (.fresh 0 0 led)}:Obj) R4;have hsls:=PySem.F.sub_list_set;have hslf:=PySem.F.sub_list_frozenset;have RS:(Value.type "list"==Value.type "dict")=false:=by decide
   have S5:(s.heap.push {cls:= .type "set",dict:=none,data:= .set #[] 0 (.fresh 0 0 led)}).IsList l (xs.map (·.2)).toArray:=⟨_,hol',rfl,nl,rfl⟩;unfold Builtin.«set.__init__» noKeywords Builtin.Frozenset.updateFrom;generalize hPI:pyIter=PI;revert PI;refine wrap ?_;intro PI hPI
   wp_walk
   subst hPI;refine wpAny_pyIter_list S5 ?_;refine Kz (wpAny_runValue ?_);have hlS:l<s.heap.objs.size:=KQ R4;generalize hso:({cls:= .type "set",dict:=none,data:= .set #[] 0 (.fresh 0 0 led)}:Obj)=so at Um QW hW0 hS hT S5⊢;revert so;refine wrap ?_;intro so hso Um QW hW0 hS hT S5;have Qh:(s.heap.push so).objs.size=s.heap.objs.size+1:=L8 ..;refine iT (by simp[hh]) ?n1 ?n2 ?n3 hk hz xs.length 0 _ so (s0) (K6 _) ⟨_,Lc _ rfl,rfl,rfl⟩ (S5.push _) (KN _ hS) hW0 ?hR
   case n1=>refine aa Qh ?_;exact K8 (LI hlS)
   case n2=>refine aa Qh ?_;exact K8 (LR _)
   case n3=>exact Mi hlS
   case hR=>
    intro h' tk o' a1 a2 a3;show wpAny _ _ _ _ _ _;refine KE ?_;show wpAny _ _ (ret Value.none) _ _ _;refine KE ⟨rfl,h',tk,o',rfl,a1,a2,fun b o hb e=>?_⟩;refine a3 b o (K8 hb) ?_ (KN _ (KN _ e));exact aa Qh (K8 (LI hb))
end
section
variable{c:Fx}{E:X8}{m:X7}{n pre post:X6}{J:ad Value}{K:ad Flow}{U:ad Unit}{r:Yd}{env:Env}
theorem GT{y:Str}{xp p:Pos}{e:X9}{T:String}(e0:nsIn (ao w.params) mainGlobals y=some none)(hv:bootBuiltins y=some (.type T))(hn:y≠"__name__")(h:Tr c E m n (eval e c.env) (kT c E (fun v=>call (.type T) [v]) J))
  (he:starEach [e] c.env=[(false,eval e c.env)]:=by rfl) (hx:c.env.kindOf y=some .globalImplicit:=by rfl) (hd:(y==("__debug__":Str))=false:=by decide):Tr c E m n (eval (.Call (.Name y xp) [e] [] p) c.env) J:= .mk fun s l=>
 LC rfl (am (HK (J:=fun v m' n'=>v=.type T/\m'=m/\n'=n) e0 hv hn ⟨rfl,rfl,rfl⟩ hx hd s l) fun _ s' _ _ l' ⟨e1,e2,e3⟩=>by
  subst e1 e2 e3;have z:wpAny MP c.A (spliced (backTo p (starEach [e] c.env))) (fun vs P1=>wpAny MP c.A (call (.type T) vs) (fun v s'=>bE (fun m' n'=>ay c s' m' n') (fun m' n'=>J v m' n')) E P1) E s':=Lo (am (h s' l') fun _ s1 _ _ l1 q=>LA (q s1 l1)) he;rw[he] at z⊢;exact callWith_of (P:=fun _=>True) rfl (fun h _=>⟨.machine, .inr (.inl rfl), .now⟩) (evalArgs_plain (K9 z (fun _ _ q=>⟨trivial,q⟩) fun _ _ x=>x)))
theorem I5{K':Type}[DecidableEq K'][BEq K'][LawfulBEq K']{knd:PySem.KeyKind PR w K'}{l:Addr}{vs:Yb}{k:Nat}{xs:List (K'×Value)}(hm:(l,lO vs k)∈n)(e:vs=xs.map (·.2))(hk:∀ x∈xs,knd.is x.1 x.2=true/\x.2.scannable=true)(hz:xs.length<=1000)
  (h:∀ (S:Nat) o,bb knd o (xs.foldl ck [])->J (.ref S) m ((S,o)::n)):Tr c E m n (call (.type "set") [.ref l]) J:= .mk fun s l'=>by
 subst e;refine rU rfl ⟨_,(l'.N _ hm).1,rfl,k,rfl⟩ hk hz fun h' tk o a1 a2 a3=>⟨m,_,?_,h _ o a2⟩;have F':Fr c.h₀ c.L h' m:=by
  obtain⟨oL,es,ep,hL,rr⟩:=l'.F.ns;exact⟨⟨oL,es,ep,a3 _ _ (KQ hL) hL,rr⟩,fun b x q=>a3 _ _ (KQ (l'.F.keep b x q)) (l'.F.keep b x q),l'.F.above⟩
 have hL:c.L<s.heap.objs.size:=by obtain⟨oL,es,ep,hL,rr⟩:=l'.F.ns;exact KQ hL
 have h0:c.h₀.get? s.heap.objs.size=none:=by
  cases hq:c.h₀.get? s.heap.objs.size with
  |none=>rfl
  |some o=>exact absurd (KQ (l'.F.keep _ _ hq)) (Nv _)
 refine l'.to F' (fun p hp=>?_) (l'.D.fresh fun p hp=>KQ (l'.N p hp).1) l'.G rfl;rcases KI.mp hp with rfl|hp
 ·exact⟨a1,Mi hL,h0⟩
 ·exact⟨a3 _ _ (KQ (l'.N p hp).1) (l'.N p hp).1,(l'.N p hp).2⟩
theorem Kl{C fI k:Nat}{pos:Yb}{kw:List (Str×Value)}{rest:X6}{P:Nat->Nat->X6->Prop}{Rs:Str->X6->Prop}(hm:makesIn (ao w.params) C=true)(hi:findIn (ao w.params) (.ref C) "__init__"=some (some (.ref fI)))(hf:isFn (ao w.params) (.ref fI)=true)
  (d:∀ x dx:Nat,eE k fI ⟨.ref x::pos,kw⟩ ((x,instObj C dx)::(dx,dictOf [] 0)::n) (fun v n'=>v=.none/\P x dx n') Rs) (hk:k+1<=c.k) (hJ:∀ x dx n',P x dx n'->J (.ref x) m (n'++rest)) (hR:dC c m rest Rs E):
  Tr c E m (n++rest) (call (.ref C) pos kw) J:= .mk fun s l=>by
 refine call_cls l.F l.X l.N hm hi hf fun x dx h' F' N' l1 l2=>?_;have eA:c.A.under (.builtin "type.__call__" ⟨.ref C::pos,kw⟩)=({c with dp:=c.dp+1,un:=c.un+1,k:=c.k-1,g₀:=s.gens}:Fx).A:=by
  show ({handled:=none,depth:=c.dp+1,frames:=some (c.env::c.outer),guards:=pushGuards [] c.gd,units:=c.un+1}:Around)={handled:=none,depth:=c.dp+1,frames:=some (c.env::c.outer),guards:=c.gd,units:=c.un+1};refine aa (pushGuards_eq _ _) ?_
  cases c.gd<;>rfl
 refine aa eA ?_;have hd:=l.hd;have hu:=l.hu;have D':ax ((x,instObj C dx)::(dx,dictOf [] 0)::(n++rest)):=(l.D.fresh l1).fresh fun p hp=>by
  rcases KI.mp hp with rfl|hp
  ·exact l2
  ·exact Mh (l1 p hp) l2
 have l':ay ({c with dp:=c.dp+1,un:=c.un+1,k:=c.k-1,g₀:=s.gens}:Fx) {s with heap:=h'} m ((x,instObj C dx)::(dx,dictOf [] 0)::(n++rest)):=
  ⟨l.B,l.X,l.T,l.hk,by show c.dp+1+(c.k-1)<_;exact ET hk hd,by show c.un+1+20*(c.k-1)<_;exact EU hk hu,F',N',D',⟨l.G.1,fun _=>rfl⟩,l.O⟩
 refine codeAny_mono (d x dx {c with dp:=c.dp+1,un:=c.un+1,k:=c.k-1,g₀:=s.gens} E m rest (fun v m' n'=>v=.none/\J (.ref x) m' n') (by show k<=c.k-1;exact sI hk) (fun v n' hv=>⟨hv.1,hJ x dx n' hv.2⟩) hR _ l') fun r s' hr=>?_
 cases r with
 |error _=>exact hr
 |ok f=>cases f with
  |next=>exact hr.elim
  |brk=>exact hr.elim
  |cont=>exact hr.elim
  |ret _=>
  obtain⟨m',n',l2,e1,q⟩:=hr;exact⟨e1,m',n',⟨l2.B,l2.X,l2.T,l2.hk,hd,hu,l2.F,l2.N,l2.D,⟨l2.G.1,fun h=>absurd h (pH hk)⟩,l2.O⟩,q⟩
def oo(xs:List (Str×Value))(Yv ql k:Nat)(x dx:Nat)(n':X6):Prop:=
 xr (fun(data decl dl YJ ns nl pm Yp Yw:Nat) (aD po:Obj) (t:Nat->Tok) (tu tp:Tok)=>bb (PySem.strKind PR w) aD (xs.foldl ck [])) (fun _ _ _ _ _ _ _ _ _ _ po _ _ _=>po.IsDictOf (PySem.strKind PR w) ([]:List (Str×Value))) (fun _ _ _ _ _ _ pm _ _ _ _ _ _ _=>(pm==sysModules)=false) (fun data decl dl YJ ns nl pm Yp Yw aD po t tu tp=>n'=[(Yp,listOf [Value.bool false].toArray 0),(pm,po),(nl,listOf #[] 0),(ns,listOf [Value.ref nl].toArray 1),(decl,listOf [Value.ref dl].toArray 0),(dl,listOf [Value.ref YJ].toArray 0),(YJ,bm (.str bt.1 tu) (.str bt.2 tp) 0),(Yw,aD),(data,listOf #[] 0),(x,instObj 150 dx),(dx,dictOf (aE ⟨x,dx,data,decl,ns,pm,Yp,0,Yv,Yw⟩ t .none false false) 17),(ql,lO (xs.map (·.2)) k)])
end
namespace INk
def Q(x dx Yv ql k:Nat)(xs:List (Str×Value)):Prop:=∀ (hk:∀ y∈xs,(PySem.strKind PR w).is y.1 y.2=true/\y.2.scannable=true) (hz1:xs.length<=1000) (hx0:xs≠[]),eE 1 67 ⟨[.ref x, .ref Yv],[(Ye "rewrite_prefixes", .bool true),(Ye "qname_aware_tags", .ref ql)]⟩ [(x,instObj 150 dx),(dx,dictOf [] 0),(ql,lO (xs.map (·.2)) k)] (fun v n'=>v=.none/\oo xs Yv ql k x dx n') eT
def P_(y:((Nat×Nat)×Nat)×(Nat×Nat)×(List (Str×Value))):Prop:=Q y.1.1.1 y.1.1.2 y.1.2 y.2.1.1 y.2.1.2 y.2.2
def y_:((Nat×Nat)×Nat)×(Nat×Nat)×(List (Str×Value)):=pk (inferInstance) P_
def x:Nat:=y_.1.1.1
def dx:Nat:=y_.1.1.2
def Yv:Nat:=y_.1.2
def ql:Nat:=y_.2.1.1
def k:Nat:=y_.2.1.2
def xs:List (Str×Value):=y_.2.2
theorem go:Q x dx Yv ql k xs:=by
 intro hk hz1 hx0;have hz:(xs.map (·.2)).length<=1000:=aa (KG _) hz1;have P5:(!(xs.map (·.2)).toArray.isEmpty)=true:=by cases h:xs with|nil=>exact absurd h hx0|cons _ _=>rfl
 generalize U8:xs.map (·.2)=vs at hz P5;revert vs;refine wrap ?_;intro vs U8 hz P5;refine' GG (binds:=[(Ye "self", .ref x),(Ye "write", .ref Yv),(Ye "with_comments", .bool false),(Ye "strip_text", .bool false),(Ye "rewrite_prefixes", .bool true),(Ye "qname_aware_tags", .ref ql),(Ye "qname_aware_attrs", .none),(Ye "exclude_attrs", .none),(Ye "exclude_tags", .none)]) (by k_is) (by k_is) ?k3 (by exact ba rfl) (by rfl) (by rfl) (by rfl) (by decide) (by exact fun _ _ h=>h.elim) ?_
 case k3=>
  intro s X M A E Q hq;refine gD (env:=fun a=>if a=60 then some (BO w.params) else none) (fun a o e=>?_) hq (by kernel_rfl)
  split at e
  ·rename_i h
   cases e;subst h;exact X 60 _ (by k_is)
  ·cases e
 intro A₀ base dp un gd L outer h₀ os g₀ c E K hE hK;unfold oo at hK;rw[U8] at hK;replace U8:=U8.symm;refine Gv (FY rfl (FY rfl (Gl ⟨by k_is,by k_is,by k_is,by k_is,by k_get⟩ (by k_mem) (pre:=[_]) rfl (fun t=>⟨t,by k_put⟩) (fun _=>KC rfl) fun t0=>?_)));refine Gv (Gx (FZ ⟨K6 _,fun data=>FY rfl (Gl ⟨by k_is,by k_is,by k_is,by k_is,by k_get⟩ (by k_mem) (pre:=[_,_]) rfl (fun t=>⟨t,by k_put⟩) (fun _=>KC rfl) fun t1=>?_)⟩));refine Gv (FY rfl (FY rfl (Gl ⟨by k_is,by k_is,by k_is,by k_is,by k_get⟩ (by k_mem) (pre:=[_,_]) rfl (fun t=>⟨t,by k_put⟩) (fun _=>KC rfl) fun t2=>?_)));refine Gv (FY rfl (FY rfl (Gl ⟨by k_is,by k_is,by k_is,by k_is,by k_get⟩ (by k_mem) (pre:=[_,_]) rfl (fun t=>⟨t,by k_put⟩) (fun _=>KC rfl) fun t3=>?_)));refine Gv (Hb (Gn (FY rfl (Hq (Gw (FY rfl (Gl ⟨by k_is,by k_is,by k_is,by k_is,by k_get⟩ (by k_mem) (pre:=[_,_]) rfl (fun t=>⟨t,by k_put⟩) (fun _=>KC rfl) fun t4=>?_)))))));refine Gv (Hb (Gn (FY rfl (Hq (Gw (FY rfl (Gl ⟨by k_is,by k_is,by k_is,by k_is,by k_get⟩ (by k_mem) (pre:=[_,_]) rfl (fun t=>⟨t,by k_put⟩) (fun _=>KC rfl) fun t5=>?_)))))));refine Gv (FY rfl (FY rfl (Gl ⟨by k_is,by k_is,by k_is,by k_is,by k_get⟩ (by k_mem) (pre:=[_,_]) rfl (fun t=>⟨t,by k_put⟩) (fun _=>KC rfl) fun t6=>?_)));refine Gk (Gn (FY rfl (HE (by k_mem) (by refine aa Lw ?_;exact KH hz (by decide)) ?_)));refine aa P5 ?_;refine Gv (GT (by k_is) (by boot_fast) (by decide) (FY rfl (I5 (knd:=PySem.strKind PR w) (by k_mem) U8 hk hz1 fun Yw aD hW=>FY rfl (Gl ⟨by k_is,by k_is,by k_is,by k_is,by k_get⟩ (by k_mem) (pre:=[_,_,_]) rfl (fun t=>⟨t,by k_put⟩) (fun _=>KC rfl) fun t7=>?_))));refine F6 ?_;refine Gk (Gn (FY rfl (Hq (Gv (Gw (FY rfl (Gl ⟨by k_is,by k_is,by k_is,by k_is,by k_get⟩ (by k_mem) (pre:=[_,_,_]) rfl (fun t=>⟨t,by k_put⟩) (fun _=>KC rfl) fun t8=>?_)))))));refine F6 ?_;refine Gv (Gx (F0 (Gx (F0 (GA (F0 (Gc fun tu=>F0 (Gc fun tp=>FZ ⟨KC rfl,fun YJ=>FZ ⟨KC rfl,fun dl=>FZ ⟨KC rfl,fun decl=>FY rfl (Gl ⟨by k_is,by k_is,by k_is,by k_is,by k_get⟩ (by k_mem) (pre:=[_,_,_,_,_,_]) rfl (fun t=>⟨t,by k_put⟩) (fun _=>KC rfl) fun t9=>?_)⟩⟩⟩))))))));refine Gv (Gx (FZ ⟨K6 _,fun ns=>FY rfl (Gl ⟨by k_is,by k_is,by k_is,by k_is,by k_get⟩ (by k_mem) (pre:=[_,_,_,_,_,_,_]) rfl (fun t=>⟨t,by k_put⟩) (fun _=>KC rfl) fun t10=>?_)⟩));refine Gk (Ib (Gn (FY rfl (F9 (F6 ?_)))));refine' Ge (Ga (Gr ?own rfl ?own1 ?own2 (Gj ?own3 Lq Li (Gq (F0 (Gx (FZ ⟨K6 _,fun nl=>FZ (Gs (pre:=[_]) (vs:=[]) rfl (K6 _) ?_)⟩)))))))
 case own1=>k_mem
 case own2=>k_mem
 case own=>exact⟨by k_is,by k_is,⟨_,by k_is,by k_is⟩,by k_get,by k_handed⟩
 case own3=>k_mem
 refine Gv (IG fun pm po VF Yy=>FY rfl (Gl ⟨by k_is,by k_is,by k_is,by k_is,by k_get⟩ (by k_mem) (pre:=[_,_,_,_,_,_,_,_,_]) rfl (fun t=>⟨t,by k_put⟩) (fun _=>KC rfl) fun t11=>?_));refine Gv (Gx (F0 (HA (FZ ⟨KC rfl,fun Yp=>FY rfl (Gl ⟨by k_is,by k_is,by k_is,by k_is,by k_get⟩ (by k_mem) (pre:=[_,_,_,_,_,_,_,_,_,_]) rfl (fun t=>⟨t,by k_put⟩) (fun _=>KC rfl) fun t12=>?_)⟩))));refine Gv (Gw (FY rfl (Gl ⟨by k_is,by k_is,by k_is,by k_is,by k_get⟩ (by k_mem) (pre:=[_,_,_,_,_,_,_,_,_,_]) rfl (fun t=>⟨t,by k_put⟩) (fun _=>KC rfl) fun t13=>?_)));refine Gv (HA (FY rfl (Gl ⟨by k_is,by k_is,by k_is,by k_is,by k_get⟩ (by k_mem) (pre:=[_,_,_,_,_,_,_,_,_,_]) rfl (fun t=>⟨t,by k_put⟩) (fun _=>KC rfl) fun t14=>?_)));refine Gv (HA (FY rfl (Gl ⟨by k_is,by k_is,by k_is,by k_is,by k_get⟩ (by k_mem) (pre:=[_,_,_,_,_,_,_,_,_,_]) rfl (fun t=>⟨t,by k_put⟩) (fun _=>KC rfl) fun t15=>?_)));refine Gv (F7 fun ti=>FY rfl (Gl ⟨by k_is,by k_is,by k_is,by k_is,by k_get⟩ (by k_mem) (pre:=[_,_,_,_,_,_,_,_,_,_]) rfl (fun t=>⟨t,by k_put⟩) (fun _=>KC rfl) fun t16=>?_));refine F6 (hK _ _ _ _ (.refl _) ⟨rfl,data,decl,dl,YJ,ns,nl,pm,Yp,Yw,aD,po,fun i=>([t0,t1,t2,t3,t4,t5,t6,t7,t8,t9,t10,t11,t12,t13,t14,t15,t16,ti]:List Nat).getD i 0,tu,tp,hW,VF,Yy,rfl⟩)
end INk
theorem zJ(x dx Yv ql k:Nat)(xs:List (Str×Value)):INk.Q x dx Yv ql k xs:=cU (P:=INk.P_) INk.go (((x,dx),Yv),((ql,k),xs))
theorem GD{k:Nat}{f:Addr}{as:Args}{n:X6}{P:Value->X6->Prop}{Rs:Str->X6->Prop}
  {name qual:Str} {params:Arguments} {body:Yd} {scope:Scope} {dV kV doc pm PX ct oc:Value} {an od:Option Addr} {RN:Array (Option Value)} {binds:List (Str×Value)}
  (ho:(ao w.params).lookup f=some ⟨oc,od, .func (fnOf name qual params body scope dV kV doc pm an PX ct),RN⟩) (Q1:codeIn (ao w.params) PX qual=true)
  (Qx:∀ s:Shared,(ao w.params).In s.heap->BindsTo s (fnOf name qual params body scope dV kV doc pm an PX ct) as binds) (RB:∀ y∈binds,scope.names.lookup y.1=some .local)
  (Q2:scope.isCoroutine=false) (QX:scope.isGenerator=false) (hk:scope.kind=.function) (P8:∀ x∈scope.names,x.2≠ .cell)
  (RA:∀ PQ Yr,Rs PQ Yr->∀ q∈Yr,q.1∈n.map (·.1))
  (hb:∀ A₀ base dp un gd L outer h₀ os g₀,let c:Fx:=⟨A₀,base,k,dp,un,gd,qual,scope,L,f,PX,[],outer,h₀,os,g₀⟩;∀ E (K:ad Flow),jF Rs c E->PassesOwn MP c.A c.env E->(∀ fl m n' PS,PS.Sublist n'->P (cw fl) PS->K fl m n')->
   Tr c E (fun y=>binds.reverse.lookup y) n (execs body c.env) K):
  eE (k+1) f as n P Rs:=by
 intro c E m rest J QB hJ hR s l;obtain⟨Qv,mg,mb,T⟩:=l.T;have hd:=l.hd;have hu:=l.hu;refine iC l.B l.F l.X l.N T rfl rfl l.hk (fun p hp=>KA rest hp) ho Q1 (by show c.dp<recursionLimit;exact iS hd) (Qx s (l.X.keeps l.F.keep)) RB ?_ Q2 QX hk P8;intro g L' h₁ FG F' N' B' X' T' PW hg;have QL:∀ p∈rest,p∈n++rest/\∀ q∈n,q.1≠p.1:=fun p hp=>⟨KB _ hp,fun q hq=>l.D.apart q hq p hp⟩;have RC:∀ p∈rest,g.get? p.1=some p.2/\p.1≠c.L:=fun p hp=>⟨hg p (QL p hp).1 (QL p hp).2,(l.N p (QL p hp).1).2.1⟩;have l0:ay (⟨c.A,c.base,k,c.dp+1,c.un+3,c.gd,qual,scope,L',f,PX,[],c.env::c.outer,g,c.os,s.gens⟩:Fx) {s with heap:=h₁,toks:=s.toks+binds.length} (fun y=>binds.reverse.lookup y) n:=
  ⟨B',X',⟨_,_,_,T'⟩,hk,tZ QB hd,vw QB hu,F',N',l.D.left,⟨l.G.1,fun _=>rfl⟩,l.O⟩
 refine K9 (hb c.A c.base (c.dp+1) (c.un+3) c.gd L' (c.env::c.outer) g c.os s.gens _ (fun fl _ n'=>aO (fun PS=>PS.Sublist n') (fun PS=>P (cw fl) PS)) ?_ ?pas (fun _ _ _ PS a b=>⟨PS,a,b⟩) _ l0) ?_ fun _ _ e=>e
 case pas=>passes_own
 ·exact @jF.mk _ _ _ _ _ _ _ hR B' FG RC RA (fun p hp=>(N' p hp).2.2) rfl rfl rfl
 ·rintro fl s' ⟨m',n',l',q⟩
  cases fl<;>exact Hh l hJ QL RC l' q rfl (pH QB) fun v m' n' a b=>⟨m',n',a,b⟩
section
variable{c:Fx}{E:X8}{m:X7}{n:X6}{J:ad Value}{env:Env}
theorem JS(h:∀ d:Nat,(d==sysModules)=false->J (.ref d) m ((d,dictOf [] 0)::n)):Tr c E m n (eval (.Dict [] [] p) env) J:= .mk fun _ l=>
 let ⟨_,_,_,t⟩:=l.T;wpAny_Dict_empty ⟨m,_,l.push _,h _ (l.F.notModules (modules_low t.nolimit))⟩
variable{K:ad Flow}{U:ad Unit}{r:Yd}{i j:Int}{t u:Tok}
theorem Jr(h:K .brk m n):Tr c E m n (execs (.Break p::r) env) K:= .mk fun _ l=>Lr (wpAny_Break ⟨m,n,l,h⟩)
theorem Jz(h:J (.bool (decide (i≥j))) m n):Tr c E m n (compareOp .GtE (.int i t) (.int j u)) J:= .mk fun _ l=>P.ge_int ⟨m,n,l,h⟩
theorem Hx(ha:i.natAbs<2^64)(h:∀ t',J (.int (i*j) t') m n):Tr c E m n (binaryOp .Mult (.int i t) (.int j u)) J:= .mk fun _ l=>P.mul_int ⟨m,n,l.tok,h _⟩ (IntMulOk.of_left (intBits_le ha))
theorem GF(hj:j≠0)(hz:j.natAbs<1073741824)(h:∀ t',J (.int (i.fdiv j) t') m n):Tr c E m n (binaryOp .FloorDiv (.int i t) (.int j u)) J:= .mk fun _ l=>PyProof.Rows.floordiv_int hj ⟨m,n,l.tok,h _⟩ (.inl (PyProof.noPylong_small hz))
theorem GO(hj:j≠0)(h:∀ t',J (.int (i.fmod j) t') m n):Tr c E m n (binaryOp .Mod (.int i t) (.int j u)) J:= .mk fun _ l=>PyProof.Rows.mod_int hj ⟨m,n,l.tok,h _⟩
theorem H3(hj:0<=j)(SF:j<=1000000)(ha:i.natAbs<2^64)(h:∀ t',J (.int (i^j.toNat) t') m n):Tr c E m n (binaryOp .Pow (.int i t) (.int j u)) J:= .mk fun _ l=>PyProof.Rows.pow_int_small hj SF ha ⟨m,n,l.tok,h _⟩
theorem IB(h:∀ t',J (.int (Builtin.bitAnd i j) t') m n):Tr c E m n (binaryOp .BitAnd (.int i t) (.int j u)) J:= .mk fun _ l=>PyProof.Rows.and_int ⟨m,n,l.tok,h _⟩
theorem J9(h:∀ t',J (.int (Builtin.bitOr i j) t') m n):Tr c E m n (binaryOp .BitOr (.int i t) (.int j u)) J:= .mk fun _ l=>PyProof.Rows.or_int ⟨m,n,l.tok,h _⟩
theorem Ky(h:(ao w.params).In c.h₀->Tr c E m n p K):Tr c E m n p K:= .mk fun s l=>h l.X s l
end
theorem wq(hj:j<8):∃ t,[Value.int 4 a, .int 4 b, .int 4 d, .int 6 e', .int 2 f, .int 10 g, .int 1 h, .int 12 i][j]?=some (.int ([4,4,4,6,2,10,1,12].getD j 0) t):=by
 have e:∀ ks:Yc,∀ ts:List Tok,ks.length=8->ts.length=8->∃ t,(List.zipWith Value.int ks ts)[j]?=some (.int (ks.getD j 0) t):=fun ks ts h1 h2=>by
  exact aa List.getElem?_zipWith (aa KU (aa (KL (h1▸hj)) (aa (KL (h2▸hj)) ⟨_,rfl⟩)))
 exact e [4,4,4,6,2,10,1,12] [a,b,d,e',f,g,h,i] rfl rfl
noncomputable def el (k:Int):Int:=if 15<k then[4,4,4,6,2,10,1,12].getD (k-16).toNat 0 else k
theorem wF(h0:0<=k)(h1:k<24):(el k).natAbs<2^64:=by
 unfold el
 split
 ·have:∀ j,j<8->(([4,4,4,6,2,10,1,12]:Yc).getD j 0).natAbs<2^64:=by decide
  exact this _ (t8 h1)
 ·omega
theorem zK(part:Int)(tk:Tok):dT 3 229 [.int part tk] (rE (eY part)):=by
 refine' GD (binds:=[(Ye "part", .int part tk)]) (by k_is) (by k_is) (by exact fun s X=>LJ rfl) (by exact ba rfl) (by rfl) (by rfl) (by rfl) (by decide) (by exact fun _ _ h=>h.elim) ?_;intro A₀ base dp un gd L outer h₀ os g₀ c E K hE QR hK;have UQ:0<=part.fmod 24:=Int.fmod_nonneg_of_pos part (by decide);have hk1:part.fmod 24<24:=Int.fmod_lt_of_pos part (by decide);have hP:eY part=el (part.fmod 24)*4096+(if 1<(part.fdiv 98304).fmod 4 then Builtin.bitOr ((part.fdiv 24).fmod 4096) 438 else(part.fdiv 24).fmod 4096):=rfl;rw[hP] at hK;refine Gf (F8 (FY rfl (F7 fun t1=>GO (by decide) fun t2=>?_)));clear hP;generalize part.fmod 24=k at UQ hk1 hK⊢;revert k;refine wrap ?_;intro k UQ hk1 hK;show Tr _ _ _ _ _ _;generalize hm:(fun y=>if y=Ye "kind" then some (Value.int k t2) else _)=m1;revert m1;refine wrap ?_;intro m1 hm;have p1:m1 (Ye "part")=some (.int part tk):=ae hm rfl;have k1:m1 (Ye "kind")=some (.int k t2):=ae hm rfl;clear hm;refine Gu (GH (K₁:=fun fl m n=>fl=.next/\n=[]/\m (Ye "part")=some (.int part tk)/\∃ t,m (Ye "kind")=some (.int (el k) t)) ?s2 ?r2)
 case s2=>
  intro K2 hK2;refine GV (Gb (FY k1 (F7 fun t3=>HC (F9 ?_))))
  by_cases h:15<k
  ·refine aa (KY h) ?_
   have e:el k=[4,4,4,6,2,10,1,12].getD (k-16).toNat 0:=KZ h;rw[e] at hK2;refine Gf (Gg (GA (F0 (F7 fun a1=>F0 (F7 fun a2=>F0 (F7 fun a3=>F0 (F7 fun a4=>F0 (F7 fun a5=>F0 (F7 fun a6=>F0 (F7 fun a7=>F0 (F7 fun a8=>FZ ⟨KC rfl,fun T=>F8 (FY k1 (F7 fun t4=>Hm fun t5=>?_))⟩)))))))))));obtain⟨t6,h6⟩:=wq (a:=a1) (b:=a2) (d:=a3) (e':=a4) (f:=a5) (g:=a6) (h:=a7) (i:=a8) (j:=(k-16).toNat) (t8 hk1);exact Hj (.head _) (show k-16=((k-16).toNat:Int) from Fg h) h6 (KC rfl) (GW (Ls _ _) (F6 (hK2 _ _ _ ⟨rfl,rfl,p1,t6,rfl⟩)))
  ·refine aa (K0 h) ?_
   have e:el k=k:=KO h;rw[e] at hK2;exact F6 (hK2 _ _ _ ⟨rfl,rfl,p1,t2,k1⟩)
 case r2=>
  rintro _ m _ ⟨rfl,rfl,p2,t,k2⟩;have hkz:=wF UQ hk1;generalize el k=kk at hkz k2 hK;revert kk;refine wrap ?_;intro kk hkz k2 hK;clear p1 k1 UQ hk1;refine Gf (F8 (F8 (FY p2 (F7 fun t3=>GF (by decide) (by decide) fun t4=>F7 fun t5=>GO (by decide) fun t6=>?_))));generalize (part.fdiv 24).fmod 4096=r at hK⊢;revert r;refine wrap ?_;intro r hK;show Tr _ _ _ _ _ _;generalize hm:(fun y=>if y=Ye "rights" then some (Value.int r t6) else m y)=m3;revert m3;refine wrap ?_;intro m3 hm;have p3:m3 (Ye "part")=some (.int part tk):=ae hm p2;have k3:m3 (Ye "kind")=some (.int kk t):=ae hm k2;have r3:m3 (Ye "rights")=some (.int r t6):=ae hm rfl;clear hm p2 k2;refine Gu (GH (K₁:=fun fl m n=>fl=.next/\n=[]/\m (Ye "kind")=some (.int kk t)/\∃ t,m (Ye "rights")=some (.int (if 1<(part.fdiv 98304).fmod 4 then Builtin.bitOr r 438 else r) t)) ?s4 ?r4)
  case s4=>
   intro K2 hK2;refine GV (Gb (F8 (F8 (FY p3 (F7 fun t7=>GF (by decide) (by decide) fun t8=>F7 fun t9=>GO (by decide) fun u1=>F7 fun u2=>HC (F9 ?_))))))
   by_cases h:1<(part.fdiv 98304).fmod 4
   ·refine aa (KY h) ?_
    rw[KZ h] at hK2;exact Gf (F8 (FY r3 (F7 fun u3=>J9 fun u4=>F6 (hK2 _ _ _ ⟨rfl,rfl,k3,u4,rfl⟩))))
   ·refine aa (K0 h) ?_
    rw[KO h] at hK2;exact F6 (hK2 _ _ _ ⟨rfl,rfl,k3,t6,r3⟩)
  case r4=>
   rintro _ m _ ⟨rfl,rfl,k4,t7,r4⟩;exact GM (F8 (F8 (FY k4 (F7 fun u1=>Hx hkz fun u2=>FY r4 (Hd fun u3=>hK _ _ _ [] (My _) ⟨⟨u3,rfl⟩,rfl⟩)))))
theorem oF(x:Str)(tk:Tok)(hx:x.length<=1000):dT 2 236 [.str x tk] (fc (aw x)):=by
 refine' GD (binds:=[(Ye "row", .str x tk)]) (by k_is) (by k_is) (by exact fun s X=>LJ rfl) (by exact ba rfl) (by rfl) (by rfl) (by rfl) (by decide) (by exact fun _ _ h=>h.elim) ?_;intro A₀ base dp un gd L outer h₀ os g₀ c E K hE QR hK;have h1:=L7 x none (some 1);have h2:=L7 x (some 1) none;have U7:x.length<=100000:=KH hx (by decide);refine GM (F8 (F8 (F8 (Gc fun t1=>HO (FY rfl ⟨x,tk,rfl,U7,fun t2=>Gm ?a1 ?a2 fun t3=>Gc fun t4=>Gm ?a3 ?a4 fun t5=>HH (FY rfl ⟨x,tk,rfl,U7,fun t6=>Gm ?a5 ?a6 fun t7=>hK _ _ _ [] (My _) ⟨⟨t7,rfl⟩,rfl⟩⟩)⟩)))))
 case a1=>exact KC rfl
 case a2=>exact L2 [_,_] V1 (.n 1000000) 1 V0 (.n 1000) 1 V1 V0 rfl hx h1
 case a3=>refine aa (KD _ _) ?_;show 3+_<=_;exact L2 [_,_] (.a (.n 3) V1) (.n 1000000) 1 V0 (.n 1000) 1 V1 V0 rfl hx h1
 case a4=>exact KC rfl
 case a5=>refine aa (KD _ _) (aa (KD _ _) ?_);show 3+_+1<=_;exact L2 [_,_] (.a (.a (.n 3) V1) W1) (.n 1000000) 1 V0 (.n 1000) 1 V1 V0 rfl hx h1
 case a6=>exact L2 [_,_] V1 (.n 1000000) 1 V0 (.n 1000) 1 V1 V0 rfl hx h2
theorem tO(i:Int)(tk:Tok):dT 2 175 [.int i tk] (rE (Builtin.bitAnd i 61440)):=by
 refine' GD (binds:=[(Ye "mode", .int i tk)]) (by k_is) (by k_is) (by exact fun s X=>LJ rfl) (by exact ba rfl) (by rfl) (by rfl) (by rfl) (by decide) (by exact fun _ _ h=>h.elim) ?_;intro A₀ base dp un gd L outer h₀ os g₀ c E K hE QR hK;exact GM (F8 (FY rfl (F7 fun t1=>IB fun t2=>hK _ _ _ [] (My _) ⟨⟨t2,rfl⟩,rfl⟩)))
theorem yb(i:Int)(tk:Tok):dT 3 182 [.int i tk] (fun v=>v=.bool (Builtin.bitAnd i 61440==16384)):=by
 refine' GD (binds:=[(Ye "mode", .int i tk)]) (by k_is) (by k_is) (by exact fun s X=>LJ rfl) (by exact ba rfl) (by rfl) (by rfl) (by rfl) (by decide) (by exact fun _ _ h=>h.elim) ?_;intro A₀ base dp un gd L outer h₀ os g₀ c E K hE QR hK;refine GM (ID (GE (f:=175) (fun J h=>Gz (by k_is) h) (by k_is) (FY rfl ((tO i tk).to (by show 2<=2;decide) fun v hv=>?_))));obtain⟨t,rfl⟩:=hv;exact Gz (by k_is) (GY (hK _ _ _ [] (My _) ⟨rfl,rfl⟩))
section
variable{c:Fx}{E:X8}{m:X7}{n:X6}{K:ad Flow}{test:X9}{body orelse:Yd}{pos:Pos}
def zE(Inv:X7->X6->Prop)(K:ad Flow):ad Flow:=fun fl m' n'=>match fl with
 | .next| .cont=>Inv m' n'
 | .brk=>K .next m' n'
 | .ret v=>K (.ret v) m' n'
theorem Iy(Inv:Nat->X7->X6->Prop)(hE:PassesOwn MP c.A c.env E)
  (turn:∀ j m n,Inv j m n->Tr c E m n (isTrue test c.env (eval test c.env)) fun b m n=>Br b (aO (fun j'=>j'<j) (fun j'=>Tr c E m n (execs body c.env) (zE (Inv j') K))) (Tr c E m n (execs orelse c.env) K))
  (N:Nat) (h0:Inv N m n):Tr c E m n (exec (.While test body orelse pos) c.env) K:= .mk fun s l=>by
 refine whl_start N ?_
 induction N using Nat.strongRecOn generalizing m n s with
 |ind N ih=>
  refine whl_turn (k:=N) hE (am (turn N m n h0 s l) fun b s2 m2 n2 l2 q=>?_)
  cases b with
  |false=>exact WhlIf.no rfl (q s2 l2)
  |true=>
   obtain⟨j',hj,q⟩:=q;refine WhlIf.yes rfl (am (q s2 l2) fun fl s3 m3 n3 l3 q3=>?_)
   match fl,q3 with
   | .next,q3=>exact ih j' hj q3 s3 l3
   | .cont,q3=>exact ih j' hj q3 s3 l3
   | .brk,q3=>exact⟨m3,n3,l3,q3⟩
   | .ret v,q3=>exact⟨m3,n3,l3,q3⟩
abbrev fK(α:Type):=Except (Str×List Str) α
def fl(a:AW):fK AW:=match ar a with| .ok a'=> .ok a'| .error e=> .error (e,a.Yj)
noncomputable def bq {α β:Type} (r:fK α) (f:α->fK β):fK β:=match r with| .ok a=>f a| .error e=> .error e
def aq(j:Nat):Str:=Txt.item (Ye "rt") (if (1:Int)<(j:Nat) then 1 else(j:Nat))
def n4(row:Str):Str:=Txt.slice (aw row) none (some 4)
def n5(row:Str):Str:=Txt.slice (aw row) none (some 5)
def n9(row:Str):Str:=Txt.slice (aw row) (some 5) none
def bz(mode:Int):Bool:=Builtin.bitAnd mode 61440==16384
def bS(R6:Str->Bool)(u tg:Str)(a:AW):AW:={(if R6 (ah u tg) then eb u tg a else im u tg a) with data:=some (n5 u,n9 u)}
abbrev gc:=AW×List (Str×Str)
def cR(ut:Str×Str)(a:AW):fK AW:=bq (fl a) fun a=> .ok (iF ut.1 ut.2 a)
def bN(R6:Str->Bool)(j:Nat)(Yx mode:Int)(row:Str)(st:gc):fK gc:=
 if Yx=0 then bq (fl st.1) fun a=> .ok (uW (n4 row) row a,st.2)
 else if Yx=1/\1<st.2.length then bq (cR (st.2.getLast?.getD (⟨#[]⟩,⟨#[]⟩)) st.1) fun a=> .ok (a,st.2.dropLast)
 else bq (fl st.1) fun a=>if bz mode then .ok (bS R6 row (aq j) a,st.2++[(row,aq j)]) else bq (cR (row,aq j) (bS R6 row (aq j) a)) fun a=> .ok (a,st.2)
def cb(R6:Str->Bool)(Yk ag:Yc)(aB:List Str)(st:gc):Nat->fK gc
 |0=> .ok st
 |j+1=>bq (cb R6 Yk ag aB st j) fun st=>bN R6 j (Yk.getD j 0) (ag.getD j 0) (aB.getD j ⟨#[]⟩) st
def co:List (Str×Str)->AW->fK AW
 |[],a=> .ok a
 |ut::r,a=>bq (cR ut a) (co r)
def dQ(R6:Str->Bool)(Yk ag:Yc)(aB:List Str)(a:AW):fK AW:=bq (cb R6 Yk ag aB (a,[]) aB.length) fun st=>co st.2.reverse st.1
structure mn(R6:Str->Bool)(j:Nat)(Yx mode:Int)(row:Str)(st:gc):Prop where
 good:eD st.1
 rl:row.length<=100
 len:st.2.length<=1000
 en:Yx≠0->Yx=1/\1<st.2.length->∀ a,ar st.1=.ok a->iY a (st.2.getLast?.getD (⟨#[]⟩,⟨#[]⟩)).1 (st.2.getLast?.getD (⟨#[]⟩,⟨#[]⟩)).2
 op:Yx≠0->¬(Yx=1/\1<st.2.length)->∀ a,ar st.1=.ok a->a.decl.length<=100000/\(R6 (ah row (aq j))=false->et a a.decl row (aq j) ⟨#[]⟩ ⟨#[]⟩)/\(bz mode=false->eD (bS R6 row (aq j) a)/\∀ b,ar (bS R6 row (aq j) a)=.ok b->iY b row (aq j))
def fy:List (Str×Str)->AW->Prop
 |[],_=>True
 |ut::r,a=>eD a/\∀ a',ar a=.ok a'->iY a' ut.1 ut.2/\fy r (iF ut.1 ut.2 a')
theorem jB{R6:Str->Bool}{Yk ag:Yc}{aB:List Str}{st:gc}{e:Str×List Str}{j:Nat}(h:cb R6 Yk ag aB st j=.error e):∀ k,j<=k->cb R6 Yk ag aB st k=.error e
 |0,hk=>by rw[Nat.le_zero.mp hk] at h;exact h
 |k+1,hk=>by
  rcases M6 k j with q|q
  ·refine aa (show k+1=j from aS q hk) ?_;exact h
  ·show bq (cb R6 Yk ag aB st k) _=_
   exact aa (jB h k q) rfl
def Ef(wa:aF)(R:X6)(r:fK AW)(PQ:Str)(Yr:X6):Prop:=aO (fun P0=>r=.error (PQ,P0)) (fun P0=>gQ (fun pg cg tb=>Yr=(wa.Yj,lO pg cg)::(123,tabObj tb)::R) (fun pg _ _=>StrsAre pg P0))
theorem vi{wa:aF}{R Yr:X6}{P0:List Str}(h:gQ (fun pg cg tb=>Yr=[(wa.Yj,lO pg cg),(123,tabObj tb)]) (fun pg _ _=>StrsAre pg P0)):gQ (fun pg cg tb=>Yr++R=(wa.Yj,lO pg cg)::(123,tabObj tb)::R) (fun pg _ _=>StrsAre pg P0):=by
 obtain⟨pg,cg,tb,rfl,h⟩:=h;exact⟨pg,cg,tb,rfl,h⟩
theorem kl{R Yr Z:X6}(h:∀ q∈R,q∈Z):∀ q∈Yr++R,q∈Yr∨q∈Z:=fun q hq=>(KM.mp hq).imp id (h q)
theorem dM(h:ar a=.ok a'):fl a=.ok a':=by unfold fl;exact aa h rfl
theorem fP(h:ar a=.error e):fl a=.error (e,a.Yj):=by unfold fl;exact aa h rfl
variable{α:Type}{L Y Z:List α}{t I b a:α}
theorem nU:(I::(L++(t::Y))).Perm (L++(t::I::Y)):=Lf.symm.trans ((List.Perm.swap t I Y).append_left L)
theorem pz:(L++(t::I::b::Y)).Perm (b::(L++(t::I::Y))):=by
 refine List.Perm.trans ?_ (Lf (l₁:=L));exact Lu L ((List.Perm.swap b I Y).cons t|>.trans (List.Perm.swap b t (I::Y)))
theorem AF:(a::(L++(t::Z))).Perm ((L++[t,a])++Z):=by
 exact aa (KS _ _ _) nU
theorem AC{α:Type}{L R:List α}{r t i:α}:(r::i::(L++(t::R))).Perm (L++(t::i::(R++[r]))):=by
 refine((nU (I:=i) (L:=L) (t:=t) (Y:=R)).cons r).trans ?_;refine(LW (l₁:=[r]) (l₂:=L++(t::i::R))).trans ?_;exact aa (KS _ _ _) (.refl _)
structure iZ(W dl ml rl il:Nat)(m:X7):Prop where
 w:m (Ye "writer")=some (.ref W)
 d:m (Ye "deeds")=some (.ref dl)
 mo:m (Ye "modes")=some (.ref ml)
 r:m (Ye "rows")=some (.ref rl)
 i:m (Ye "inside")=some (.ref il)
end
theorem dr(h:IntsAre vs ns)(hj:j<ns.length):∃ t,vs[j]?=some (.int (ns.getD j 0) t):=by
 have hl:=h.length;obtain⟨t,e⟩:=IntsAre.int_at h j (vs[j]'(q1 hj hl)) (KL _);exact⟨t,by exact aa (KL (q1 hj hl)) (aa e rfl)⟩
theorem rq(h:StrsAre vs ys)(hj:j<ys.length):∃ t,vs[j]?=some (.str (ys.getD j ⟨#[]⟩) t):=by
 induction h generalizing j with
 |nil=>cases hj
 |cons y t _ ih=>
  cases j with
  |zero=>exact⟨t,rfl⟩
  |succ j=>exact ih (j:=j) (On hj)
theorem nI(h:StrsAre vs (ys++[y])):bE (fun RO t=>vs=RO++[.str y t]) (fun RO _=>StrsAre RO ys):=by
 induction ys generalizing vs with
 |nil=>cases h with|cons _ t h=>cases h;exact⟨[],t,rfl, .nil⟩
 |cons z ys ih=>
  cases h with
  |cons _ t h=>
   obtain⟨RO,t',e,h'⟩:=ih h;exact⟨.str z t::RO,t',by refine aa e ?_;rfl, .cons _ _ h'⟩
theorem gS(h:rM r f=.ok b):aO (fun a=>r=.ok a) (fun a=>b=f a):=by
 cases r with
 |error e=>cases h
 |ok a=>cases h;exact⟨a,rfl,rfl⟩
theorem qq(h:x.length<=100):(aw x).length<=100000:=by
 unfold aw;have h1:=L7 x none (some 1);have h2:=L7 x (some 1) none;simp only[KD,show (Ye "k1_").length=3 from rfl,show (Ye ":").length=1 from rfl];exact L3 [_,_,_] (.a (.a (.a (.n 3) V1) W1) V2) (.n 100000) 2 V0 (.n 100) 1 V1 V0 1 V2 V0 rfl h h1 h2
theorem vY(wa:aF)(Qt:(wa.YD==sysModules)=false)(x:Wr)(a:AW)(hA:bC x a)(hG:eD a)(u tg:Str)(tk:Tok)(ak ca:Nat)(aD:Obj)(S:Str->Bool)(ks:Nat)(hS:aD.SetObjOf (PySem.strKind PR w) S ks)(SH:ks<=1000)(Rn:(ak==sysModules)=false)
  (hO:∀ a',ar a=.ok a'->a'.decl.length<=100000/\(S (ah u tg)=false->et a' a'.decl u tg ⟨#[]⟩ ⟨#[]⟩)):
  bF 8 120 [.ref wa.W, .str (ah u tg) tk, .ref ak] (x.led wa++[(wa.Yw,aD),(ak,dictOf [] ca)]) (fun v n'=>v=.none/\bW (fun x' a'=>ar a=.ok a') (fun x' a'=>bC x' (if S (ah u tg) then eb u tg a' else im u tg a')) (fun x' _=>n'=x'.led wa++[(wa.Yw,aD)])) (ou wa (ar a) a.Yj):=by
 cases h:S (ah u tg) with
 |true=>exact v0 wa Qt x a hA hG u tg tk ak ca aD S ks hS SH h Rn fun a' ha=>(hO a' ha).1
 |false=>exact vZ wa Qt x a hA hG u tg tk ak ca aD S ks hS SH h Rn (fun a' ha=>(hO a' ha).1) fun a' ha=>(hO a' ha).2 h
def vT(wa:aF)(S:Str->Bool)(Yk ag:Yc)(aB:List Str)(a:AW)(R:X6)(tg il dl ml rl:Nat)(aD:Obj)(j:Nat)(m:X7)(n:X6):Prop:=
 rz (fun x st Q6 k G=>cb S Yk ag aB (a,[]) j=.ok st) (fun x st _ _ _=>bC x st.1) (fun _ st Q6 _ _=>StrsAre Q6 (st.2.map fun ut=>ah ut.1 ut.2)) (fun x _ Q6 k G=>n.Perm (x.led wa++((tg,aD)::(il,lO Q6 k)::(R++G)))) (fun _ _ _ _ _=>iZ wa.W dl ml rl il m)
structure xT(T:fK AW)(j:Nat)(ins:List (Str×Str))(a:AW):Prop where
 j:j=ins.length
 z:ins.length<=1000
 t:T=co ins.reverse a
 d:fy ins.reverse a
 ok:∀ ut∈ins,PyData.strOk (ah ut.1 ut.2)=true
def Cc(wa:aF)(T:fK AW)(R:X6)(tg il dl ml rl:Nat)(aD:Obj)(j:Nat)(m:X7)(n:X6):Prop:=
 vR (fun x a ins Q6 k G=>xT T j ins a) (fun x a _ _ _ _=>bC x a) (fun _ _ ins Q6 _ _=>StrsAre Q6 (ins.map fun ut=>ah ut.1 ut.2)) (fun x _ _ Q6 k G=>n.Perm (x.led wa++((tg,aD)::(il,lO Q6 k)::(R++G)))) (fun _ _ _ _ _ _=>iZ wa.W dl ml rl il m)
namespace TEk
def Q(wa:aF)(x:Wr)(a:AW)(Yk ag:Yc)(aB:List Str)(aT Yq dm:Yb)(kd km kr dl ml rl:Nat)(aD:Obj)(S:Str->Bool)(ks:Nat):Prop:=∀ (Qt:(wa.YD==sysModules)=false) (hA:bC x a) (RQ:IntsAre aT Yk) (QS:IntsAre Yq ag) (U1:StrsAre dm aB) (QA:aB.length<=Yk.length) (RH:aB.length<=ag.length) (hz:aB.length<=100/\Yk.length<=100/\ag.length<=100) (hS:aD.SetObjOf (PySem.strKind PR w) S ks) (SH:ks<=1000) (hP:∀ j st,j<aB.length->cb S Yk ag aB (a,[]) j=.ok st->mn S j (Yk.getD j 0) (ag.getD j 0) (aB.getD j ⟨#[]⟩) st) (hD:∀ st,cb S Yk ag aB (a,[]) aB.length=.ok st->fy st.2.reverse st.1/\st.2.length<=1000/\∀ ut∈st.2,PyData.strOk (ah ut.1 ut.2)=true),bF 12 243 [.ref wa.W, .ref dl, .ref ml, .ref rl] (x.led wa++((wa.Yw,aD)::[(dl,lO aT kd),(ml,lO Yq km),(rl,lO dm kr)]))
   (fun v n'=>v=.none/\bW (fun x' a'=>dQ S Yk ag aB a=.ok a') (fun x' a'=>bC x' a') (fun x' _=>n'=x'.led wa++((wa.Yw,aD)::[(dl,lO aT kd),(ml,lO Yq km),(rl,lO dm kr)]))) (Ef wa [(dl,lO aT kd),(ml,lO Yq km),(rl,lO dm kr)] (dQ S Yk ag aB a))
def P_(y:((((aF×Wr)×AW)×Yc×Yc)×((List Str)×Yb)×Yb×Yb)×(((Nat×Nat)×Nat)×Nat×Nat)×(Nat×Obj)×(Str->Bool)×Nat):Prop:=Q y.1.1.1.1.1 y.1.1.1.1.2 y.1.1.1.2 y.1.1.2.1 y.1.1.2.2 y.1.2.1.1 y.1.2.1.2 y.1.2.2.1 y.1.2.2.2 y.2.1.1.1.1 y.2.1.1.1.2 y.2.1.1.2 y.2.1.2.1 y.2.1.2.2 y.2.2.1.1 y.2.2.1.2 y.2.2.2.1 y.2.2.2.2
def y_:((((aF×Wr)×AW)×Yc×Yc)×((List Str)×Yb)×Yb×Yb)×(((Nat×Nat)×Nat)×Nat×Nat)×(Nat×Obj)×(Str->Bool)×Nat:=pk (cE (cE (cE (cE (cE ja se) sd) inferInstance) inferInstance) inferInstance) P_
def wa:aF:=y_.1.1.1.1.1
def x:Wr:=y_.1.1.1.1.2
def a:AW:=y_.1.1.1.2
def Yk:Yc:=y_.1.1.2.1
def ag:Yc:=y_.1.1.2.2
def aB:List Str:=y_.1.2.1.1
def aT:Yb:=y_.1.2.1.2
def Yq:Yb:=y_.1.2.2.1
def dm:Yb:=y_.1.2.2.2
def kd:Nat:=y_.2.1.1.1.1
def km:Nat:=y_.2.1.1.1.2
def kr:Nat:=y_.2.1.1.2
def dl:Nat:=y_.2.1.2.1
def ml:Nat:=y_.2.1.2.2
def rl:Nat:=y_.2.2.1.1
def aD:Obj:=y_.2.2.1.2
def S:Str->Bool:=y_.2.2.2.1
def ks:Nat:=y_.2.2.2.2
theorem go:Q wa x a Yk ag aB aT Yq dm kd km kr dl ml rl aD S ks:=by
 intro Qt hA RQ QS U1 QA RH hz hS SH hP hD;generalize hR:[(dl,lO aT kd),(ml,lO Yq km),(rl,lO dm kr)]=R;revert R;refine wrap ?_;intro R hR;have hRd:(dl,lO aT kd)∈R:=hR▸ .head _;have hRm:(ml,lO Yq km)∈R:=hR▸aK;have hRr:(rl,lO dm kr)∈R:=hR▸cq;clear hR;have SZ:=RQ.length;have Rt:=QS.length;have Su:=U1.length;refine' GD (binds:=[(Ye "writer", .ref wa.W),(Ye "deeds", .ref dl),(Ye "modes", .ref ml),(Ye "rows", .ref rl)]) (by k_is) (by k_is) (by exact fun s X=>LJ rfl) (by exact ba rfl) (by rfl) (by rfl) (by rfl) (by decide) ?k9 ?_
 case k9=>
  rintro PQ Yr ⟨_,-,pg,cg,tb,rfl,-⟩ q hq;rcases KI.mp hq with rfl|hq
  ·exact KK.mpr ⟨_,KA _ (x.mPage wa),rfl⟩
  rcases KI.mp hq with rfl|hq
  ·exact KK.mpr ⟨_,KA _ (x.mTab wa),rfl⟩
  ·exact KW (KB _ (.tail _ hq))
 intro A₀ base dp un gd L outer h₀ os g₀ c E K hE QR hK;refine Gf (Gx (FZ ⟨K6 _,fun il=>?_⟩));show Tr _ _ _ _ _ _;generalize hm:(fun y=>if y=Ye "inside" then some (Value.ref il) else _)=m0;revert m0;refine wrap ?_;intro m0 hm;have l0:iZ wa.W dl ml rl il m0:=ae hm ⟨rfl,rfl,rfl,rfl,rfl⟩;clear hm;refine Gu (GH (K₁:=fun fl m n=>fl=.next/\vT wa S Yk ag aB a R wa.Yw il dl ml rl aD aB.length m n) ?sF ?sW)
 case sF=>
  intro K2 hK2;refine IQ aB.length (vT wa S Yk ag aB a R wa.Yw il dl ml rl aD) QR ?iter (KH hz.1 (by decide)) ?turn ?last
  case last=>exact fun m n h=>F6 (hK2 _ _ _ ⟨rfl,h⟩)
  case iter=>
   refine GT (by k_is) (by boot_fast) (by decide) (GN (by k_is) (by boot_fast) (by decide) (FY l0.r (G9 (.tail _ (KB _ (.tail _ hRr))) (by exact L2 [_,_] V1 (.n 100000) 1 V0 (.n 100) 1 V1 V0 rfl hz.1 (eL Su)) fun t=>Hr fun r t u z=>?_)));exact aa Su ⟨r,t,u,z,rfl, .head _,x,(a,[]),[],0,[(r,bl aB.length t u z)],rfl,hA, .nil,AC,l0⟩
  case turn=>
   rintro j t I oI m n hj ⟨x',st,Q6,k,G,hst,Qm,hv,hp,lk⟩;have Qe:=hP j st hj hst;have Rc:cb S Yk ag aB (a,[]) (j+1)=bN S j (Yk.getD j 0) (ag.getD j 0) (aB.getD j ⟨#[]⟩) st:=by
    show bq _ _=_;exact aa hst rfl
   obtain⟨td,hdj⟩:=dr RQ (show j<Yk.length from xN hj QA);obtain⟨tm,hmj⟩:=dr QS (show j<ag.length from xN hj RH);obtain⟨tr,hrj⟩:=rq U1 hj;generalize Yk.getD j 0=Yx at Qe Rc hdj;revert Yx;refine wrap ?_;intro Yx Qe Rc hdj;generalize ag.getD j 0=mode at Qe Rc hmj;revert mode;refine wrap ?_;intro mode Qe Rc hmj;generalize aB.getD j ⟨#[]⟩=row at Qe Rc hrj;revert row;refine wrap ?_;intro row Qe Rc hrj;have Ss:=Qe.rl;have WA:∀ e,bN S j Yx mode row st=.error e->dQ S Yk ag aB a=.error e:=fun e he=>by
    unfold dQ;exact aa (jB (Rc.trans he) aB.length hj) rfl
   refine Gd ((hp.cons _).trans nU) (Go ?_);show Tr _ _ _ _ _ _;generalize hm:(fun y=>if y=Ye "place" then some (Value.int j t) else m y)=m1;revert m1;refine wrap ?_;intro m1 hm;have l1:iZ wa.W dl ml rl il m1:=ae hm ⟨lk.w,lk.d,lk.mo,lk.r,lk.i⟩;have Qy:m1 (Ye "place")=some (.int j t):=ae hm rfl;clear hm lk hp;generalize hKf:rA I oI (vT wa S Yk ag aB a R wa.Yw il dl ml rl aD (j+1)) K2=Kf;revert Kf;refine wrap ?_;intro Kf hKf;have fin:∀ (x2:Wr) (st2:gc) vals2 k2 m2,bN S j Yx mode row st=.ok st2->bC x2 st2.1->StrsAre vals2 (st2.2.map fun ut=>ah ut.1 ut.2)->iZ wa.W dl ml rl il m2->Tr c E m2 (x2.led wa++((wa.Yw,aD)::(I,oI)::(il,lO vals2 k2)::(R++G))) (execs [] c.env) Kf:=fun x2 st2 vals2 k2 m2 h1 h2 h3 h4=>
    Gd nU.symm (F6 (by refine ae hKf ?_;exact⟨_,rfl,x2,st2,vals2,k2,G,Rc.trans h1,h2,h3, .refl _,h4⟩))
   clear hKf Rc hst;have mR:∀ {L:X6} {o:Obj} {q:Addr×Obj},q∈R->q∈L++((wa.Yw,aD)::(I,oI)::(il,o)::(R++G)):=fun h=>KB _ (cZ (KA _ h));refine Gf (GE (f:=236) (fun J h=>Gz (by k_is) h) (by k_is) (Gg (FY l1.r (FY Qy (Gi (mR hRr) rfl hrj (by exact L2 [_,_] V1 (.n 100000) 1 V0 (.n 100) 1 V1 V0 rfl hz.1 (eL Su)) ((oF row tr (bd Ss)).to (by show 2<=11;decide) ?_))))));rintro _ ⟨tn,rfl⟩;show Tr _ _ _ _ _ _;generalize hm:(fun y=>if y=Ye "name" then some (Value.str (aw row) tn) else m1 y)=m2;revert m2;refine wrap ?_;intro m2 hm;have l2:iZ wa.W dl ml rl il m2:=ae hm ⟨l1.w,l1.d,l1.mo,l1.r,l1.i⟩;have Rw:m2 (Ye "place")=some (.int j t):=ae hm Qy;have QT:m2 (Ye "name")=some (.str (aw row) tn):=ae hm rfl;clear hm l1 Qy;have Qu:=qq Ss;refine Gk (Gb (Gg (FY l2.d (FY Rw (Gi (mR hRd) rfl hdj (by exact L2 [_,_] V1 (.n 100000) 1 V0 (.n 100) 1 V1 V0 rfl hz.2.1 (eL SZ)) (F7 fun t0=>GY (F9 ?_)))))))
   by_cases RP:Yx=0
   ·refine aa (show (Yx==0)=true by rw[RP];rfl) ?_
    refine Ge (Ga (FY l2.w (GZ (jy wa _ _ _ _) (KA _ (x'.mW wa)) (KA _ (x'.mD wa)) (Ha (jy wa x'.t x'.Yi x'.seen x'.done).hk (F0 (HO (FY QT ⟨_,tn,rfl,Qu,fun t4=>F0 (Gg (FY l2.r (FY Rw (Gi (mR hRr) rfl hrj (by exact L2 [_,_] V1 (.n 100000) 1 V0 (.n 100) 1 V1 V0 rfl hz.1 (eL Su)) (FZ ?_)))))⟩)))))));refine(tQ wa Qt x' st.1 Qm Qe.good (n4 row) row t4 tr).to c E m2 _ _ (by show 8<=11;decide) ?_ (hE _ _ fun PQ Yr ⟨h1,h2⟩=>⟨Yr++R,⟨st.1.Yj,WA _ ?_,vi h2⟩,kl fun q h=>cZ (KA _ h)⟩)
    ·rintro v n' ⟨-,x2,a2,he,QI,rfl⟩
     obtain⟨a1,h1,rfl⟩:=gS he;exact F6 (fin x2 (_,st.2) Q6 k m2 (by unfold bN;refine aa (KZ RP) (aa (dM h1) ?_);rfl) QI hv l2)
    ·unfold bN;refine aa (KZ RP) (aa (fP h1) ?_);rfl
   ·refine aa (show (Yx==0)=false by simpa using RP) ?_
    have Tt:Q6.length=st.2.length:=by exact aa hv.length (aa (KG _) rfl)
    have QO:=Qe.len;have mI:∀ {L:X6} {o:Obj},(il,o)∈L++((wa.Yw,aD)::(I,oI)::(il,o)::(R++G)):=KB _ cq;refine Gk (Tr.mono (K:=fun b m n=>b=decide (Yx=1/\1<st.2.length)/\m=m2/\n=x'.led wa++((wa.Yw,aD)::(I,oI)::(il,lO Q6 k)::(R++G))) ?test ?br)
    case test=>
     refine GR (Gy (Gb (Gg (FY l2.d (FY Rw (Gi (mR hRd) rfl hdj (by exact L2 [_,_] V1 (.n 100000) 1 V0 (.n 100) 1 V1 V0 rfl hz.2.1 (eL SZ)) (F7 fun t0=>GY (F9 ?_))))))))
     by_cases h1:Yx=1
     ·refine aa (show (Yx==1)=true by rw[h1];rfl) ?_
      refine Gy (Gb (GN (by k_is) (by boot_fast) (by decide) (FY l2.i (G9 mI (by exact L3 [_,_] V0 (.n 100000) 3 V0 V1 2 V1 V0 1 V1 (.n 1000) rfl (eL Tt) (eG Tt) QO) fun t5=>F7 fun t6=>HC (F9 ?_)))));refine aa Tt ?_
      by_cases h2:1<st.2.length
      ·exact aa (KY (show (1:Int)<(st.2.length:Int) from xR h2)) (He ⟨(KY ⟨h1,h2⟩).symm,rfl,rfl⟩)
      ·exact aa (K0 (show¬(1:Int)<(st.2.length:Int) from ES h2)) ⟨(K0 fun h=>h2 h.2).symm,rfl,rfl⟩
     ·exact aa (show (Yx==1)=false by simpa using h1) ⟨(K0 fun h=>h1 h.1).symm,rfl,rfl⟩
    case br=>
     rintro b _ _ ⟨rfl,rfl,rfl⟩
     by_cases hc:Yx=1/\1<st.2.length
     ·refine aa (KY hc) ?_
      obtain⟨ins,ut,WR⟩:l9 (fun ins ut=>st.2=ins++[ut]):=by
       rcases Pt st.2 with h|⟨i,u,h⟩
       ·rw[h] at hc;exact absurd hc.2 (by decide)
       ·exact⟨i,u,by exact aa h (aa Ps rfl)⟩
      have Ur:st.2.getLast?.getD (⟨#[]⟩,⟨#[]⟩)=ut:=aa WR (aa Nl rfl);have hen:=Qe.en RP hc;rw[Ur] at hen;rw[WR,KP] at hv;obtain⟨Vj,tk,rfl,Uy⟩:=nI hv;rw[KJ] at Tt;refine Ge (Ga (FY l2.w (GZ (fE wa _ _ _ _) (KA _ (x'.mW wa)) (KA _ (x'.mD wa)) (Ha (fE wa x'.t x'.Yi x'.seen x'.done).hk (F0 (Ga (FY l2.i (Gj mI Nd Nf (Hk (Gd pz (HN (pre:=[]) rfl (by exact L2 [_,_,_] V1 (.n 100000) 1 V0 (.n 1000) 1 (.a V1 V2) V0 rfl QO (eL Tt)) (Gd pz.symm (FZ ?_)))))))))))));refine(rP wa x' st.1 ut.1 ut.2 tk Qt Qm Qe.good hen).to c E _ _ _ (by show 8<=11;decide) ?_ (hE _ _ fun PQ Yr ⟨h1,h2⟩=>⟨Yr++R,⟨st.1.Yj,WA _ ?_,vi h2⟩,kl fun q h=>cZ (KA _ h)⟩)
      ·rintro v n' ⟨-,x2,a2,he,QI,rfl⟩
       obtain⟨a1,h1,rfl⟩:=gS he;refine F6 (F6 (fin x2 (_,st.2.dropLast) Vj _ _ ?_ QI (by refine aa WR (aa LP ?_);exact Uy) l2));unfold bN cR;exact aa (KO RP) (aa (KZ hc) (aa Ur (aa (dM h1) rfl)))
      ·unfold bN cR
       exact aa (KO RP) (aa (KZ hc) (aa Ur (aa (fP h1) rfl)))
     ·refine aa (K0 hc) ?_
      have hop:=Qe.op RP hc;refine Ge (Ga (FY l2.i (Gj mI Lq Li (Gq (F0 (F8 (F8 (F8 (Gc fun s1=>Gg (FY l2.r (FY Rw (Gi (mR hRr) rfl hrj (by exact L2 [_,_] V1 (.n 100000) 1 V0 (.n 100) 1 V1 V0 rfl hz.1 (eL Su)) (Gm ?za ?zb fun s2=>Gc fun s3=>Gm ?zc ?zd fun s4=>Gg (Gc fun s5=>HW (by k_is) (by boot_fast) (by decide) (FY Rw (F7 fun s6=>IY fun s7=>G5 ?ze ?zf ?zg fun s8=>Gm ?zh ?zi fun s9=>FZ (Gd pz (Gs (pre:=[]) rfl (by exact L3 [_,_] V0 (.n 100000) 3 V0 V1 2 V1 V0 1 V1 (.n 1000) rfl (eL Tt) (eG Tt) QO) (Gd pz.symm ?_)))))))))))))))))))
      case za=>exact KC rfl
      case zb=>exact bd Ss
      case zc=>refine aa (KD _ _) (aa uH ?_);exact L1 [_] (.a W1 V0) (.n 1000000) 1 V0 (.n 100) rfl Ss
      case zd=>exact KC rfl
      case ze=>split<;>lia
      case zf=>refine aa (show (Ye "rt").length=2 from rfl) ?_;split<;>lia
      case zg=>exact KC rfl
      case zh=>(refine aa (KD _ _) (aa (KD _ _) ?_);rw[uH];refine aa Ah ?_);exact L1 [_] (.a (.a W1 V0) W1) (.n 1000000) 1 V0 (.n 100) rfl Ss
      case zi=>exact KC rfl
      refine Ge (Ga (FY l2.w (GZ (ln wa _ _ _ _) (KA _ (x'.mW wa)) (KA _ (x'.mD wa)) (Ha (ln wa x'.t x'.Yi x'.seen x'.done).hk (F0 (Gg (FY l2.i (G6 fun s10=>Ho (xs:=Q6) mI (F0 (JS fun ak Rn=>FZ (Gd AF ((vY wa Qt x' st.1 Qm Qe.good row (aq j) s9 ak 0 aD S ks hS SH Rn fun a' ha=>⟨(hop a' ha).1,(hop a' ha).2.1⟩).to c E _ _ _ (by show 8<=11;decide) ?hJ1 ?hR1))))))))))))
      case hR1=>
       refine hE _ _ fun PQ Yr ⟨h1,h2⟩=>⟨Yr++R,⟨st.1.Yj,WA _ ?_,vi h2⟩,kl fun q h=>dj (KA _ h)⟩;unfold bN;exact aa (KO RP) (aa (KO hc) (aa (fP h1) rfl))
      rintro v n' ⟨-,x2,a1,h1,QI,rfl⟩;refine aa (KS _ _ _) ?_;have hd2:x2.data=[]:=by
       have h:=QI.data;rw[show (if S (ah row (aq j)) then eb row (aq j) a1 else im row (aq j) a1).data=none by split<;>exact(fg Qe.good h1).2] at h;exact h
      refine Ge (Ga (FY l2.w (GZ (g9 wa _ _ _ _) (KA _ (x2.mW wa)) (KA _ (x2.mD wa)) (Ha (g9 wa x2.t x2.Yi x2.seen x2.done).hk (F0 (HO (FY QT ⟨_,tn,rfl,Qu,fun t5=>FZ ((qM wa x2 (.str (n5 row) t5) (by refine aa hd2 ?_;exact K6 _)).to c E _ _ _ (by show 1<=11;decide) ?hJ2 dC.no)⟩)))))));rintro v n' ⟨-,rfl⟩;have hd3:(x2.pushData (.str (n5 row) t5)).data=[.str (n5 row) t5]:=by show x2.data++[_]=_;refine aa hd2 ?_;rfl
      have QV:∀ t6,bC ((x2.pushData (.str (n5 row) t5)).pushData (.str (n9 row) t6)) (bS S row (aq j) a1):=fun t6=>⟨QI.decl,QI.ns,QI.pm,QI.Yj,QI.Yp,QI.lam,⟨t5,t6,by show (x2.pushData (.str (n5 row) t5)).data++[_]=_;refine aa hd3 ?_;rfl⟩,QI.Yi,QI.seen⟩;generalize x2.pushData (.str (n5 row) t5)=x3 at hd3 QV;revert x3;refine wrap ?_;intro x3 hd3 QV;clear QI hd2;refine Ge (Ga (FY l2.w (GZ (g9 wa _ _ _ _) (KA _ (x3.mW wa)) (KA _ (x3.mD wa)) (Ha (g9 wa x3.t x3.Yi x3.seen x3.done).hk (F0 (HH (FY QT ⟨_,tn,rfl,Qu,fun t6=>FZ ((qM wa x3 (.str (n9 row) t6) (by refine aa hd3 ?_;show 1<=1000;decide)).to c E _ _ _ (by show 1<=11;decide) ?hJ3 dC.no)⟩)))))));rintro v n' ⟨-,rfl⟩;have hA4:=QV t6;generalize x3.pushData (.str (n9 row) t6)=x4 at hA4;revert x4;refine wrap ?_;intro x4 hA4;clear QV hd3;refine Gk (Ib (Gn (GE (f:=182) (fun J h=>Gz (by k_is) h) (by k_is) (Gg (FY l2.mo (FY Rw (Gi (mR hRm) rfl hmj (by exact L2 [_,_] V1 (.n 100000) 1 V0 (.n 100) 1 V1 V0 rfl hz.2.2 (eL Rt)) ((yb mode tm).to (by show 3<=11;decide) ?_))))))));rintro _ rfl;refine F9 ?_
      cases Th:(Builtin.bitAnd mode 61440==16384)
      ·obtain⟨hg4,he4⟩:=(hop a1 h1).2.2 Th
       refine Ge (Ga (FY l2.w (GZ (fE wa _ _ _ _) (KA _ (x4.mW wa)) (KA _ (x4.mD wa)) (Ha (fE wa x4.t x4.Yi x4.seen x4.done).hk (F0 (Ga (FY l2.i (Gj mI Nd Nf (Hk (Gd pz (HN (pre:=[]) (p:=Q6) rfl (by exact L3 [_,_] V0 (.n 100000) 3 V0 V1 2 V1 V0 1 V1 (.n 1000) rfl (eL Tt) (eG Tt) QO) (Gd pz.symm (FZ ?_)))))))))))));refine(rP wa x4 _ row (aq j) s9 Qt hA4 hg4 he4).to c E _ _ _ (by show 8<=11;decide) ?_ (hE _ _ fun PQ Yr ⟨h3,h4⟩=>⟨Yr++R,⟨_,WA _ ?_,vi h4⟩,kl fun q h=>cZ (KA _ h)⟩)
       ·rintro v n' ⟨-,x5,a5,he,hA5,rfl⟩
        obtain⟨a3,h3,rfl⟩:=gS he;refine F6 (F6 (F6 (fin x5 (_,st.2) Q6 _ _ ?_ hA5 hv l2)));unfold bN cR;refine aa (KO RP) (aa (KO hc) (aa (dM h1) ?_));show (if bz mode=true then _ else bq (bq (fl (bS S row (aq j) a1)) _) _)=_;refine aa (KO (show¬bz mode=true by unfold bz;rw[Th];exact KR)) (aa (dM h3) ?_)
        rfl
       ·unfold bN cR
        refine aa (KO RP) (aa (KO hc) (aa (dM h1) ?_));show (if bz mode=true then _ else bq (bq (fl (bS S row (aq j) a1)) _) _)=_;refine aa (KO (show¬bz mode=true by unfold bz;rw[Th];exact KR)) (aa (fP h3) ?_)
        rfl
      ·refine F6 (F6 (F6 (fin x4 (_,st.2++[(row,aq j)]) _ _ _ ?_ hA4 (by refine aa KP ?_;exact M3 hv (.cons _ _ .nil)) l2)))
       unfold bN;refine aa (KO RP) (aa (KO hc) (aa (dM h1) ?_));show (if bz mode=true then _ else _)=_;exact aa (KZ (show bz mode=true from Th)) rfl
 case sW=>
  rintro _ m n ⟨rfl,x',st,Q6,k,G,hst,Qm,hv,hp,lk⟩;obtain⟨Ui,QO,Qe⟩:=hD st hst;have ht:dQ S Yk ag aB a=co st.2.reverse st.1:=by unfold dQ;refine aa hst ?_;rfl
  clear hP hD hst;obtain⟨a1,ins⟩:=st;generalize dQ S Yk ag aB a=T at ht hK hE⊢;revert T;refine wrap ?_;intro T ht hK hE;refine Gu (Iy (Cc wa T R wa.Yw il dl ml rl aD) QR ?turn ins.length ⟨x',a1,ins,Q6,k,G,⟨rfl,QO,ht,Ui,Qe⟩,Qm,hv,hp,lk⟩);clear Qm hv hp lk ht Ui Qe QO;rintro j m n ⟨x2,a2,ins,Q6,k,G,⟨rfl,Ti,ht,Ui,Qe⟩,QI,hv,hp,lk⟩;refine Gd hp (Gb (FY lk.i (Gx (FZ ⟨K6 _,fun e=>JZ (.tail _ (KB _ aK)) hv (.head _) (by show 4<=11;decide) (fun y hy=>?_) (F9 ?_)⟩))))
  ·obtain⟨ut,YQ,rfl⟩:=KK.mp hy
   exact Qe ut YQ
  ·rcases Pt ins with rfl|⟨i,ut,hi⟩
   ·exact F6 (F6 (hK _ _ _ (x2.led wa++((wa.Yw,aD)::R)) (.cons _ ((List.Sublist.cons_cons _ (.cons _ (List.sublist_append_left R G))).append_left _)) ⟨rfl,x2,a2,ht,QI,rfl⟩))
   ·rw[Ps] at hi
    subst hi;rw[KP] at hv⊢;rw[Nx] at ht Ui;obtain⟨hg,hen⟩:=Ui;obtain⟨Vj,tk,rfl,Uy⟩:=nI hv;have Tt:Vj.length=i.length:=by exact aa Uy.length (aa (KG _) rfl)
    rw[KJ] at Ti;have P5:(!(i.map (fun ut=>ah ut.1 ut.2)++[ut].map fun ut=>ah ut.1 ut.2).isEmpty)=true:=by cases i<;>rfl
    refine aa P5 ?_;refine⟨i.length,by refine aa KJ ?_;exact LR _,GW (Ls _ _) ?_⟩;refine Ge (Ga (FY lk.w (GZ (fE wa _ _ _ _) (KA _ (x2.mW wa)) (KA _ (x2.mD wa)) (Ha (fE wa x2.t x2.Yi x2.seen x2.done).hk (F0 (Ga (FY lk.i (Gj (KB _ aK) Nd Nf (Hk (Gd nU.symm (HN (pre:=[]) rfl (by exact L2 [_,_,_] V2 (.n 100000) 1 (.a V0 V1) (.n 1000) 1 V2 V0 rfl Ti (eL Tt)) (Gd nU (FZ ?_)))))))))))));refine(rP wa x2 a2 ut.1 ut.2 tk Qt QI hg fun a' ha=>(hen a' ha).1).to c E _ _ _ (by show 8<=11;decide) ?_ (hE _ _ fun PQ Yr ⟨h1,h2⟩=>⟨Yr++R,⟨a2.Yj,?_,vi h2⟩,kl fun q h=>dj (KA _ h)⟩)
    ·rintro v n' ⟨-,x3,a3,he,QV,rfl⟩
     obtain⟨a1,h1,rfl⟩:=gS he;refine F6 ⟨x3,_,i,Vj,_,G,⟨rfl,by exact L1 [_,_] V0 (.n 1000) 1 (.a V0 V1) (.n 1000) rfl Ti,?_,(hen a1 h1).2,fun z hz=>Qe z (KA _ hz)⟩,QV,Uy, .refl _,lk⟩;refine aa ht ?_;show bq (cR ut a2) _=_;unfold cR;exact aa (dM h1) rfl
    ·refine aa ht ?_
     show bq (cR ut a2) _=_;unfold cR;exact aa (fP h1) rfl
end TEk
theorem zM(wa:aF)(x:Wr)(a:AW)(Yk ag:Yc)(aB:List Str)(aT Yq dm:Yb)(kd km kr dl ml rl:Nat)(aD:Obj)(S:Str->Bool)(ks:Nat):TEk.Q wa x a Yk ag aB aT Yq dm kd km kr dl ml rl aD S ks:=cU (P:=TEk.P_) TEk.go (((((wa,x),a),(Yk,ag)),((aB,aT),(Yq,dm))),((((kd,km),kr),(dl,ml)),((rl,aD),(S,ks))))
section
variable{c:Fx}{E:X8}{m:X7}{n:X6}{J:ad Value}{K:ad Flow}
def xE(oi:Obj)(l:Nat):Prop:=∀ (h:Heap) (it:Addr),h.get? it=some oi->h.IsTupleIter it l 0
theorem JU{l:Nat}{vs:Yb}{kk:Nat}(hl:c.h₀.get? l=some ⟨.type "tuple",none, .seq vs.toArray kk,#[]⟩)(h:∀ (e it:Nat) oi,xE oi l->J (.ref e) m ((e,cS it 0 .none)::(it,oi)::n)):Tr c E m n (call (.type "enumerate") [.ref l]) J:= .mk fun s l'=>
 rS (l:=l) (l'.F.keep _ _ hl) fun h' hE hI hk=>by
  obtain⟨oi,ho,hoi⟩:=hI;refine⟨m,_,l'.to ⟨l'.F.ns.at' fun o q=>hk _ o q,fun b o q=>hk b o (l'.F.keep b o q),l'.F.above⟩ (fun p hp=>?_) ?_ l'.G rfl,h (s.heap.objs.size+1) s.heap.objs.size oi fun h2 it q=>⟨oi,q,hoi⟩⟩
  ·have hL:=l'.F.ns.lt
   rcases KI.mp hp with rfl|hp
   ·exact⟨hE,Mi (LI hL),gz l'.F (MG _)⟩
   ·rcases KI.mp hp with rfl|hp
    ·exact⟨ho,Mi hL,gz l'.F (K1 _)⟩
    ·exact⟨hk _ _ (l'.N p hp).1,(l'.N p hp).2⟩
  ·have hf:∀ p∈n,p.1<s.heap.objs.size:=fun p hp=>KQ (l'.N p hp).1
   refine(l'.D.fresh hf).fresh fun p hp=>?_;rcases KI.mp hp with rfl|hp
   ·exact LR _
   ·exact LI (hf p hp)
def Ec(e it i:Nat)(x:Value)(oi:Obj)(Inv:X7->X6->Prop)(K:ad Flow):ad Flow:=fun fl m' n'=>match fl with
 | .next| .cont=>aO (fun PS=>n'=(e,cS it ((i:Int)+1) x)::(it,oi)::PS) (fun PS=>Inv m' PS)
 | .brk=>K .next m' n'
 | .ret v=>K (.ret v) m' n'
theorem IP(l:Nat)(vs:Yb)(kk:Nat)(Inv:Nat->X7->X6->Prop)(hE:PassesOwn MP c.A c.env E)(hl:c.h₀.get? l=some ⟨.type "tuple",none, .seq vs.toArray kk,#[]⟩)
  (h:Tr c E m n (eval iter c.env) fun v m' n'=>vN (fun(e it:Nat) (oi:Obj) (UA:X6)=>v=.ref e) (fun _ _ oi _=>xE oi l) (fun e it oi UA=>n'=(e,cS it 0 .none)::(it,oi)::UA) (fun _ _ _ UA=>Inv 0 m' UA) (fun e it oi _=>(∀ (i:Nat) (x:Value) (a:Nat) t oi m n,vs[i]?=some x->Inv i m n->Tr c E m ((a,bm (.int (i:Nat) t) x 0)::(e,cS it ((i:Int)+1) x)::(it,oi)::n) (assign (.Tuple elts x1 pt) c.env (.ref a)) fun _ m n=>Tr c E m n (execs body c.env) (Ec e it i x oi (Inv (i+1)) K))) (fun _ _ _ _=>∀ m n,Inv vs.length m n->K .next m n))
  (hs:∀ x,foldedSetIterable iter c.env x=Pure.pure x:=by intro _;rfl):Tr c E m n (exec (.For (.Tuple elts x1 pt) iter body [] pos) c.env) K:= .mk fun s l₀=>by
 refine wpAny_For (am (h s l₀) fun v P1 m' n' l' hv=>?_) hs;obtain⟨e,it,oi₀,UA,rfl,hti,rfl,h0,turn,last⟩:=hv;have n1:=l'.N _ (.head _);have n2:=l'.N _ aK;have hei:e≠it:=MH (l'.D.ne (.head _));refine wpAny_pyIter_enum n1.1 ?_;refine codeAny_forLoop_any (I:=fun k s=>rz (fun j m n oi x=>j<=vs.length) (fun j _ _ _ _=>k=vs.length-j) (fun j _ _ _ _=>s.heap.IsTupleIter it l j) (fun j m n oi x=>ay c s m ((e,cS it (j:Nat) x)::(it,oi)::n)) (fun j m n _ _=>Inv j m n)) (fun k s hI=>?_) vs.length ⟨0,m',UA,oi₀, .none,K6 _,s0,hti _ _ n2.1,l',h0⟩;obtain⟨j,m,n,oi,x,hj,rfl,QG,l1,hi⟩:=hI;have k1:=l1.N _ (.head _);have k2:=l1.N _ aK;have hl':s.heap.IsTuple l vs.toArray:=⟨_,l1.F.keep _ _ hl,rfl,kk,rfl⟩;have Sv:∀ h',(∀ b o,b≠e->b≠it->s.heap.get? b=some o->h'.get? b=some o)->Fr c.h₀ c.L h' m:=fun h' hk=>
  ⟨l1.F.ns.at' fun o q=>hk _ o (MH k1.2.1) (MH k2.2.1) q,fun b o q=>hk b o (by rintro rfl;rw[k1.2.2] at q;cases q) (by rintro rfl;rw[k2.2.2] at q;cases q) (l1.F.keep b o q),l1.F.above⟩
 have Sw:∀ h',(∀ b o,b≠e->b≠it->s.heap.get? b=some o->h'.get? b=some o)->News c.h₀ c.L h' n:=fun h' hk p hp=>
  ⟨hk _ _ (l1.D.ne (.tail _ hp)) (l1.D.tail.ne hp) (l1.N p (dj hp)).1,(l1.N p (dj hp)).2⟩
 have lt:∀ p∈n,p.1<s.heap.objs.size:=fun p hp=>KQ (l1.N p (dj hp)).1;rcases M6 j vs.length with PW|hge
 ·refine rX (x:=vs[j]) k1.1 QG hl' (by simp[PW]) hei fun a h' ho Tj ht Qh hk=>?_
  obtain⟨t,ht⟩:=ht;have hea:e<a:=Lb (KQ k1.1) Qh;have hia:it<a:=Lb (KQ k2.1) Qh;refine wpAny_letOwnedTupleGo_enum ho fun Sh he'' VG=>?_;replace VG:Heap.SameBut e h' Sh:=VG;have hk'':∀ b o,b≠e->b≠it->s.heap.get? b=some o->Sh.get? b=some o:=fun b o hb RZ q=>VG.extBut b o hb (hk b o hb RZ q);obtain⟨oi2,hoi,hoi2⟩:=Tj.at (h':=Sh) fun o q=>VG.extBut it o (MH hei) q;have F':=Sv Sh hk'';have ha:Sh.get? a=some (bm (.int (j:Nat) t) vs[j] 0):=VG.extBut a _ (Mi hea) ht;have l2:ay c {s with heap:=Sh,toks:=s.toks+1} m ((a,bm (.int (j:Nat) t) vs[j] 0)::(e,cS it ((j:Int)+1) vs[j])::(it,oi2)::n):=by
   refine l1.to F' (fun p hp=>?_) ?_ l1.G rfl
   ·rcases KI.mp hp with rfl|hp
    ·exact⟨ha,Mi (Lb l1.F.ns.lt Qh),gz l1.F Qh⟩
    ·rcases KI.mp hp with rfl|hp
     ·exact⟨he'',k1.2⟩
     ·rcases KI.mp hp with rfl|hp
      ·exact⟨hoi,k2.2⟩
      ·exact Sw Sh hk'' p hp
   ·refine ax.fresh (show ax ((e,cS it ((j:Int)+1) vs[j])::(it,oi2)::n) from l1.D) fun p hp=>?_
    rcases KI.mp hp with rfl|hp
    ·exact hea
    ·rcases KI.mp hp with rfl|hp
     ·exact hia
     ·exact Lb (lt p hp) Qh
  refine K9 (turn j vs[j] a t oi2 m n (by simp[PW]) hi _ l2) (fun _ TG Se=>?_) fun _ _ e=>hE _ _ e;obtain⟨WD,Vf,RE,VU⟩:=Se;refine K9 (VU TG RE) (fun f Ri R5=>?_) fun _ _ e=>hE _ _ e;obtain⟨WX,XC,R7,V4⟩:=R5;have Sg:(aO (fun PS=>XC=(e,cS it ((j:Int)+1) vs[j])::(it,oi2)::PS) (fun PS=>Inv (j+1) WX PS))->
    ∃ k,k<vs.length-j/\rz (fun j m n oi x=>j<=vs.length) (fun j _ _ _ _=>k=vs.length-j) (fun j _ _ _ _=>Ri.heap.IsTupleIter it l j) (fun j m n oi x=>ay c Ri m ((e,cS it (j:Nat) x)::(it,oi)::n)) (fun j m n _ _=>Inv j m n):=by
   rintro⟨PS,rfl,q⟩;exact⟨vs.length-(j+1),xP PW,j+1,WX,PS,oi2,vs[j],PW,rfl,⟨oi2,(R7.N _ aK).1,hoi2⟩,R7,q⟩
  cases f with
  |next=>exact Sg V4
  |cont=>exact Sg V4
  |brk=>exact⟨WX,XC,R7,V4⟩
  |ret v=>exact⟨WX,XC,R7,V4⟩
 ·have S4:j=vs.length:=aS hj hge
  subst S4;refine uh rfl k1.1 QG hl' (by simp) fun h' hk=>?_;have QB:∀ b o,b≠e->b≠it->s.heap.get? b=some o->h'.get? b=some o:=fun b o _ RZ q=>hk b o RZ q;exact wpAny_execs_nil ⟨m,n,l1.to (Sv h' QB) (Sw h' QB) l1.D.tail.tail l1.G rfl,last m n hi⟩
variable{U:ad Unit}{env:Env}{r:Yd}{i j:Int}{t u:Tok}
theorem Hp(hm:eS c n (t,bm x y k))(h:Tr c E m n (assign a env x) (kT c E (fun _=>assign b env y) U))
  (he:assignEach [a,b] env=[(false,assign a env),(false,assign b env)]:=by rfl):Tr c E m n (assign (.Tuple [a,b] kk p) env (.ref t)) U:= .mk fun s l=>by
 have ht:IsTup s.heap t #[x,y]:=⟨_,hm.elim (fun q=>(l.N _ q).1) fun q=>l.F.keep _ _ q,rfl,k,rfl⟩;exact unpackN_ l.F l.N ht rfl (by refine aa he ?_;rfl) (by refine aa he ?_;rfl) fun h' F' N'=>by
  exact aa he (MU (am (h _ (l.to F' N' l.D l.G rfl)) fun _ s1 _ _ l1 q=>MU (up (q s1 l1) fun _ s2 q=>assignInOrder_nil q)))
def ev(mode:Int)(i:Nat)(l:List qI):Str:=if i=0 then i9 mode (gL l) else cG mode (gL l)
def bu(mode:Int):List Str:=oX.zipIdx.map fun x=>ev mode x.2 x.1.2
noncomputable def ek (mode:Int) (i:Nat) (p:qI):Bool:=if i=0 then Builtin.bitAnd mode 61440==p.bit else Builtin.bitAnd mode p.bit==p.bit
theorem mw(f:α->Bool):∀ {l:List α} {j:Nat} {p:α},l[j]?=some p->(∀ q∈l.take j,f q=false)->f p=true->l.find? f=some p
 |x::l,0,p,h,_,hp=>by cases h;exact aa MM (aa hp rfl)
 |x::l,j+1,p,h,hn,hp=>aa MM (aa (hn x (.head _)) (mw f h (fun q hq=>hn q (.tail _ hq)) hp))
end
theorem zY(h:l[j]?=some p)(hn:∀ q∈l.take j,ek mode i q=false)(hp:ek mode i p=true):ev mode i l=Ye p.ch:=by
 unfold ev i9 cG gL;unfold ek at hn hp
 by_cases hi:i=0
 ·simp only[hi,if_true] at hn hp⊢
  refine aa Nz ?_;simp only[O9];refine aa (mw _ h hn hp) ?_
  rfl
 ·simp only[KO hi] at hn hp⊢
  refine aa Nz ?_;simp only[O9];refine aa (mw _ h hn hp) ?_
  rfl
theorem yl(hn:∀ q∈l,ek mode i q=false):ev mode i l=if i=0 then Ye "?" else Ye "-":=by
 unfold ev i9 cG gL;unfold ek at hn
 by_cases hi:i=0
 ·simp only[hi,if_true] at hn⊢
  refine aa Nz ?_;simp only[O9];refine aa (NL.mpr fun q hq=>by simpa using hn q hq) ?_
  rfl
 ·simp only[KO hi] at hn⊢
  refine aa Nz ?_;simp only[O9];refine aa (NL.mpr fun q hq=>by simpa using hn q hq) ?_
  rfl
theorem yk(mode:Int):Txt.join (Ye "") (bu mode)=aP mode:=by rfl
theorem qm(hl:∀ p∈l,(Ye p.ch).length<=1):(ev mode i l).length<=1:=by
 have Qd:∀ (f:qI->Bool) (d:Str),d.length<=1->(((l.find? f).map fun p=>Ye p.ch).getD d).length<=1:=fun f d hd=>by
  cases h:l.find? f with
  |none=>exact hd
  |some p=>exact hl p (List.mem_of_find?_eq_some h)
 unfold ev i9 cG gL
 split
 ·refine aa Nz (aa (O3 _ _ _) ?_);exact Qd _ _ (by decide)
 ·refine aa Nz (aa (O3 _ _ _) ?_);exact Qd _ _ (by decide)
theorem lV:∀ {ys:List Str},(∀ y∈ys,y.length<=1)->(ys.map (·.length)).sum<=ys.length
 |[],_=>K1 _
 |y::ys,h=>by
  have h1:=h y (.head _);have h2:=lV fun z hz=>h z (.tail _ hz);refine aa LB (aa List.sum_cons (aa Le ?_));exact L2 [_,_,_] (.a V0 V1) (.a V2 W1) 1 V0 W1 1 V1 V2 rfl h1 h2
theorem oW(mode:Int):((bu mode).map (·.length)).sum+(bu mode).length<=1048576:=by
 have h:=lV (ys:=bu mode) fun y hy=>by
  obtain⟨x,hx,rfl⟩:=KK.mp hy;exact qm ((by decide:∀ x∈oX.zipIdx,∀ p∈x.1.2,(Ye p.ch).length<=1) x hx)
 have h2:(bu mode).length=10:=rfl;exact L2 [_,_] (.a V0 V1) (.n 1048576) 1 V0 V1 2 V1 (.n 10) rfl h (eL h2)
structure j6(mode:Int)(tk:Tok)(pl:Nat)(m:X7):Prop where
 mo:m (Ye "mode")=some (.int mode tk)
 p:m (Ye "perm")=some (.ref pl)
def vS(mode:Int)(tk:Tok)(pl:Nat)(ys:List Str)(m:X7)(n:X6):Prop:=j6 mode tk pl m/\bW (fun l k=>n=[(pl,lO l k)]) (fun l _=>StrsAre l ys) (fun l _=>l.length<=1000)
theorem ym(mode:Int)(h:oX[i]?=some e):(bu mode).take (i+1)=(bu mode).take i++[ev mode i e.2]:=by
 obtain⟨hi,rfl⟩:=Ll.mp h;have hl:i<(bu mode).length:=by unfold bu;refine aa (KG _) (aa List.length_zipIdx ?_);exact hi
 refine aa Mn (aa (KL hl) ?_)
 congr 2
 simp[bu]
theorem rQ(mode:Int)(tk:Tok):dT 6 222 [.int mode tk] (fc (aP mode)):=by
 refine' GD (binds:=[(Ye "mode", .int mode tk)]) (by k_is) (by k_is) (by exact fun s X=>LJ rfl) (by exact ba rfl) (by rfl) (by rfl) (by rfl) (by decide) (by exact fun _ _ h=>h.elim) ?_;intro A₀ base dp un gd L outer h₀ os g₀ c E K hE QR hK;refine Ky fun X=>?_;have hT:=uo X;refine Gf (Gx (FZ ⟨K6 _,fun pl=>?_⟩));show Tr _ _ _ _ _ _;generalize hm:(fun y=>if y=Ye "perm" then some (Value.ref pl) else _)=m0;revert m0;refine wrap ?_;intro m0 hm;have l0:j6 mode tk pl m0:=ae hm ⟨rfl,rfl⟩;clear hm;refine Gu (GH (K₁:=fun fl m n=>fl=.next/\vS mode tk pl (bu mode) m n) ?sF ?sR)
 case sR=>
  rintro _ m n ⟨rfl,lk,l,k,rfl,hs,hz⟩;refine GM (Ga (Gc fun t1=>HM Ox Oy (Gq (F0 (FY lk.p (FZ (Iq (.head _) hs (by decide) ?_ fun t2=>hK _ _ _ [] (My _) ⟨⟨t2,by show Value.str _ _=_;exact aa (yk _) rfl⟩,rfl⟩)))))));exact oW mode
 case sF=>
  intro K2 hK2;refine IP 215 (oX.map fun e=>Value.ref e.1) 0 (fun i=>vS mode tk pl ((bu mode).take i)) QR (X 215 _ (by k_is)) (GT (by k_is) (by boot_fast) (by decide) (Gz (by k_is) (JU (vs:=oX.map fun e=>Value.ref e.1) (kk:=0) (X 215 _ (by k_is)) fun e it oi hti=>⟨e,it,oi,_,rfl,hti,rfl,⟨l0,[],0,rfl, .nil,K6 _⟩,?turn,?last⟩)))
  case last=>
   intro m n h;exact hK2 _ _ _ ⟨rfl,h⟩
  case turn=>
   rintro i x a t oi m n hx ⟨lk,l,k,rfl,hs,hz⟩;rw[LX] at hx;obtain⟨e',he,rfl⟩:=Lv.mp hx;obtain⟨hT1,hT2⟩:=hT e' (LL he);refine Hp (.inl (.head _)) (Go (Go ?_));show Tr _ _ _ _ _ _;generalize hm:(fun y=>if y=Ye "table" then some (Value.ref e'.1) else _)=m1;revert m1;refine wrap ?_;intro m1 hm;have l1:j6 mode tk pl m1:=ae hm ⟨lk.mo,lk.p⟩;have hi1:m1 (Ye "index")=some (.int (i:Nat) t):=ae hm rfl;have ht1:m1 (Ye "table")=some (.ref e'.1):=ae hm rfl;clear hm lk;have hv:IntsAre [Value.int (i:Nat) t] [((i:Nat):Int)]:= .cons _ _ .nil;refine GW (Ls _ _) (Gu (GH (K₁:=fun fl m n=>fl=.next/\aO (fun PS=>n=(e,cS it ((i:Int)+1) (Value.ref e'.1))::(it,oi)::PS) (fun PS=>vS mode tk pl ((bu mode).take (i+1)) m PS)) ?sI ?sN))
   case sN=>
    rintro _ m n ⟨rfl,PS,rfl,h⟩;exact F6 ⟨PS,rfl,h⟩
   case sI=>
    intro K3 RW;rw[ym mode he] at RW;have hyl:((bu mode).take i).length<=10:=List.length_take_le' _ _;generalize (bu mode).take i=ys at hs RW hyl;revert ys;refine wrap ?_;intro ys hs RW hyl;have hll:=hs.length;generalize cS it ((i:Int)+1) (Value.ref e'.1)=oe at RW⊢;revert oe;refine wrap ?_;intro oe RW;have Yv:∀ {m:X7} {x:Str} {t:Tok} {K:ad Value},(∀ l2 k2,StrsAre l2 (ys++[x])->l2.length<=1000->K .none m [(e,oe),(it,oi),(pl,lO l2 k2)])->Tr c E m [(e,oe),(it,oi),(pl,lO l k)] (call (.builtin "list.append") [.ref pl, .str x t]) K:=fun h=>
     Gs (pre:=[_,_]) rfl (KH hz (by decide)) (h _ _ (M3 hs (.cons _ _ .nil)) (by refine aa KJ (aa hll ?_);show ys.length+1<=1000;exact L1 [_] (.a V0 W1) (.n 1000) 1 V0 (.n 10) rfl hyl))
    refine Hw (fun S j m n=>j6 mode tk pl m/\m (Ye "index")=some (.int (i:Nat) t)/\n=[(e,oe),(it,oi),(pl,lO l k)]/\∀ q∈e'.2.take j,ek mode i q=false) QR (FY ht1 ⟨.YJ e'.1 (e'.2.map fun p=>Value.ref p.a) 0,rfl,by show (e'.2.map _).length<=1000;refine aa (KG _) ?_;exact(by decide:∀ e∈oX,e.2.length<=1000) e' (LL he),⟨l1,hi1,rfl,fun q hq=>(nomatch hq)⟩,fun _ _ _ _=> .inr hT1,?YI,?last2⟩)
    case last2=>
     rintro m n ⟨l2,S1,rfl,Q8⟩;replace Q8:∀ q∈e'.2.take (e'.2.map fun p=>Value.ref p.a).length,ek mode i q=false:=Q8;rw[KG,Lm] at Q8;have UZ:=yl Q8;refine Gk (Gb (FY S1 (F7 fun t0=>GY (F9 ?_))))
     by_cases h0:i=0
     ·refine aa (show (((i:Nat):Int)==0)=true by simpa using h0) ?_
      rw[KZ h0] at UZ;exact Ge (Ga (FY l2.p (Gj cq Lq Li (Gq (F0 (Gc fun t3=>FZ (Yv fun l3 k3 h1 h2=>F6 (F6 (RW _ _ _ ⟨rfl,_,rfl,l2,l3,k3,rfl,by refine aa UZ ?_;exact h1,h2⟩)))))))))
     ·refine aa (show (((i:Nat):Int)==0)=false by simpa using h0) ?_
      rw[KO h0] at UZ;exact Ge (Ga (FY l2.p (Gj cq Lq Li (Gq (F0 (Gc fun t3=>FZ (Yv fun l3 k3 h1 h2=>F6 (F6 (RW _ _ _ ⟨rfl,_,rfl,l2,l3,k3,rfl,by refine aa UZ ?_;exact h1,h2⟩)))))))))
    case YI=>
     rintro j x I oI m n KT hj hx ⟨l2,S1,rfl,Q8⟩ RX;have hx:(e'.2.map fun p=>Value.ref p.a)[j]?=some x:=hx;rw[LX] at hx;obtain⟨p,hp,rfl⟩:=Lv.mp hx;refine Hp (.inr (hT2 p (LL hp))) (Go (Go ?_));show Tr _ _ _ _ _ _;generalize hm:(fun y=>if y=Ye "char" then some (Value.str (Ye p.ch) p.tc) else _)=m3;revert m3;refine wrap ?_;intro m3 hm;have l3:j6 mode tk pl m3:=ae hm ⟨l2.mo,l2.p⟩;have hi3:m3 (Ye "index")=some (.int (i:Nat) t):=ae hm S1;have hb3:m3 (Ye "bit")=some (.int p.bit p.tb):=ae hm rfl;have hc3:m3 (Ye "char")=some (.str (Ye p.ch) p.tc):=ae hm rfl;clear hm l2 S1;have QG:ek mode i p=true->∀ l2 k2,StrsAre l2 (ys++[Ye p.ch])->l2.length<=1000->K3 .next m3 [(e,oe),(it,oi),(pl,lO l2 k2)]:=fun h l4 k4 h1 h2=>by
      rw[zY hp Q8 h] at RW;exact RW _ _ _ ⟨rfl,_,rfl,l3,l4,k4,rfl,h1,h2⟩
     have nxt:ek mode i p=false->KT .next m3 [(I,oI),(e,oe),(it,oi),(pl,lO l k)]:=fun h=>RX _ _ _ ⟨_,rfl,l3,hi3,rfl,fun q hq=>by
      rw[Mn,hp] at hq;rcases KM.mp hq with hq|hq
      ·exact Q8 q hq
      ·refine aa (KF.mp hq) ?_;exact h⟩
     have brk:∀ m n,K3 .next m n->KT .brk m n:=fun _ _ h=>RX _ _ _ h;refine Gk (Gb (FY hi3 (F7 fun t0=>GY (F9 ?_))))
     by_cases h0:i=0
     ·refine aa (show (((i:Nat):Int)==0)=true by simpa using h0) ?_
      have hb:ek mode i p=(Builtin.bitAnd mode 61440==p.bit):=by unfold ek;exact aa (KZ h0) rfl
      refine Gk (Gb (GE (f:=175) (fun J h=>Gz (by k_is) h) (by k_is) (FY l3.mo ((tO mode tk).to (by show 2<=5;decide) ?_))));rintro _ ⟨t4,rfl⟩;refine FY hb3 (GY (F9 ?_));refine ae hb ?_
      cases hh:ek mode i p
      ·exact F6 (F6 (F6 (nxt hh)))
      ·exact Ge (Ga (FY l3.p (Gj ir Lq Li (Gq (F0 (FY hc3 (FZ (GW (Ls _ _) (Yv fun l4 k4 h1 h2=>Jr (brk _ _ (QG hh l4 k4 h1 h2)))))))))))
     ·refine aa (show (((i:Nat):Int)==0)=false by simpa using h0) ?_
      have hb:ek mode i p=(Builtin.bitAnd mode p.bit==p.bit):=by unfold ek;exact aa (KO h0) rfl
      refine Gk (Gb (F8 (FY l3.mo (FY hb3 (IB fun t4=>FY hb3 (GY (F9 ?_)))))));refine ae hb ?_
      cases hh:ek mode i p
      ·exact F6 (F6 (F6 (nxt hh)))
      ·exact Ge (Ga (FY l3.p (Gj ir Lq Li (Gq (F0 (FY hc3 (FZ (GW (Ls _ _) (Yv fun l4 k4 h1 h2=>Jr (brk _ _ (QG hh l4 k4 h1 h2)))))))))))
theorem A4:Slot "method_descriptor" "__get__" "method_descriptor.__get__":=
 .of (owner:="method_descriptor") (n:="__get__") (by refine aa (Ok _ _) (aa Ng ?_);kernel_rfl) (by decide+kernel) (by decide+kernel) (by decide+kernel)
  (by first|exact .inl (by decide+kernel)|exact .inr (by decide+kernel)) (by refine aa (NY _ _) ?_;kernel_rfl)
theorem Al:typeLookup (.type "method_descriptor") "__set__"=Pure.pure none:=by refine aa (Ok _ _) (aa Ng ?_);kernel_rfl
theorem Ak:typeLookup (.type "method_descriptor") "__delete__"=Pure.pure none:=by refine aa (Ok _ _) (aa Ng ?_);kernel_rfl
theorem oQ:entryFor table "method_descriptor.__get__"=some Builtin.«method_descriptor.__get__»:=OJ (by kernel_rfl)
theorem qc(a b c:Value):argsOk "method_descriptor.__get__" ⟨[a,b,c],[]⟩:=by unfold argsOk;kernel_rfl
theorem jf:(".".intercalate ("list.append".cutAt '.').dropLast)="list":=by
 have e0:"list.append".cutAt '.'=["list","append"]:=by first|rfl|decide+kernel
 refine aa e0 ?_;decide+kernel
theorem mM:isSubtype (.type "list") (.type (".".intercalate ("list.append".cutAt '.').dropLast))=Pure.pure true:=by
 refine aa jf (aa (NY _ _) ?_);kernel_rfl
theorem qE:Manifest.toldItsClass.contains "list.append"=false:=by decide+kernel
theorem uF:typeLookup (.type "list") "append"=Pure.pure (some (.builtin "list.append")):=by refine aa (Ok _ _) (aa Ng ?_);kernel_rfl
section
variable{A:Around}{E:X8}{hp:Heap}{g:Array GenState}{d:Drawn}{tk:Nat}{os:OsState}{a:Addr}{xs:Array Value}{k:Nat}
theorem rL(hx:hp.get? a=some (listOf xs k))(hq:R (.ok (.ret (.ref hp.objs.size))) ⟨hp.push (bf "list.append" (.ref a)),g,d,tk,os⟩):
  codeAny MP A (.call (.builtin "method_descriptor.__get__") ⟨[.builtin "list.append", .ref a, .type "list"],[]⟩) R ⟨hp,g,d,tk,os⟩:=by
 have hT:(⟨hp,g,d,tk,os⟩:Shared).TypeIs (.ref a) "list":=⟨_,hx,rfl⟩;have hT5:(⟨hp,g,d,tk,os⟩:Shared).TypeIs (.builtin "list.append") "method_descriptor":=Li;have f8:=mM;have f9:=qE;refine OH A4.plain oQ (A4.check _ _ _ _ _ _ _ _ hT5 (qc _ _ _) ?_);unfold Builtin.«method_descriptor.__get__»
 repeat (any_goals (first|assumption|wp_step))
theorem oD(hx:hp.get? a=some (listOf xs k))(hq:Q (.done (.ret (.ref hp.objs.size))) ⟨hp.push (bf "list.append" (.ref a)),g,d,tk,os⟩):
  wpAny MP A (Builtin.«object.__getattribute__» ⟨[.ref a, .str "append" t],[]⟩) Q E ⟨hp,g,d,tk,os⟩:=by
 have hT:(⟨hp,g,d,tk,os⟩:Shared).TypeIs (.ref a) "list":=⟨_,hx,rfl⟩;have hT5:(⟨hp,g,d,tk,os⟩:Shared).TypeIs (.builtin "list.append") "method_descriptor":=Li;have f4:=uF;have f5:=Li;have f6:=A4.lookup;have f7:=Al;have f8:=Ak;unfold Builtin.«object.__getattribute__»
 repeat (any_goals (first|assumption|wp_step))
 refine rL hx ?_
 repeat (any_goals (first|assumption|wp_step))
theorem qb(hx:hp.get? a=some (listOf xs k))(hq:R (.ok (.ret (.ref hp.objs.size))) ⟨hp.push (bf "list.append" (.ref a)),g,d,tk,os⟩):
  codeAny MP A (.call (.builtin "list.__getattribute__") ⟨[.ref a, .str "append" t],[]⟩) R ⟨hp,g,d,tk,os⟩:=
 OH No.plain am_entry_list_getattribute (No.check _ _ _ _ _ _ _ _ (show (⟨hp,g,d,tk,os⟩:Shared).TypeIs (.ref a) "list" from⟨_,hx,rfl⟩) (PySem.F.args_list_getattribute_2 _ _) (oD hx hq))
theorem mx(hx:hp.get? a=some (listOf xs k))(hq:Q (.ref hp.objs.size) ⟨hp.push (bf "list.append" (.ref a)),g,d,tk+1,os⟩):wpAny MP A (getAttr (.ref a) "append" true) Q E ⟨hp,g,d,tk,os⟩:=by
 have hT:∀ TY,(⟨hp,g,d,TY,os⟩:Shared).TypeIs (.ref a) "list":=fun _=>⟨_,hx,rfl⟩;have f3:=No.lookup;have f4:=No.bind (.ref a);unfold getAttr getAttrBy
 repeat (any_goals (first|assumption|exact hT _|wp_step))
 refine qb hx ?_
 repeat (any_goals (first|assumption|wp_step))
end
section
variable{c:Fx}{E:X8}{m:X7}{n:X6}{J:ad Value}
theorem I9(hm:(a,listOf xs k)∈n)(h:∀ q:Nat,J (.ref q) m ((q,bf "list.append" (.ref a))::n)):Tr c E m n (getAttr (.ref a) "append" true) J:= .mk fun s l=>
 mx (l.N _ hm).1 ⟨m,_,(l.push (bf "list.append" (.ref a))).tok,h _⟩
variable{K:ad Flow}{env:Env}
theorem JC(h:Tr c E m n (eval o env) fun v m' n'=>gR (fun(l:Nat) (vs:Yb) (k:Nat)=>v=.ref l) (fun l vs k=>(l,lO vs k)∈n') (fun _ vs _=>vs.length<=1000) (fun _ vs _=>∀ D:Nat,J (.ref D) m' ((D,lO (vs.drop j) 0)::n')))
  (hs:∀ l r,subscripted (.Slice (some (.Constant (.int (j:Int)) kk pc)) none none ps) false (.ref l) (.ref r)=operate [.ref r, .ref l] (getItem (.ref l) (.ref r)):=by intro l r;with_unfolding_all rfl) (ht:∀ l r,letTemporaryGo o (.ref l) r=Pure.pure ():=by intro _ _;with_unfolding_all rfl):
  Tr c E m n (eval (.Subscript o (.Slice (some (.Constant (.int (j:Int)) kk pc)) none none ps) p) env) J:= .mk fun s l=>
 Oc (up (h s l) fun v s1 hv=>wpAny_Slice (by
  obtain⟨m',n',l1,a,vs,k,e,hm,hz,q⟩:=hv;subst e;refine Nh (k:=kk) (pos:=pc) (KE (KE ?_));refine slice_list (s:={s1 with toks:=_}) l1.F l1.N ⟨_,(l1.N _ hm).1,rfl,k,rfl⟩ (.int _ _) .none (fun h' F' N'=>?_) (hs a _) (ht a) (by refine aa Lh (aa Lw ?_);exact bd hz);rw[slicePick_from'] at N';exact⟨m',_,l1.to F' N' (l1.D.fresh fun p hp=>LI (KQ (l1.N p hp).1)) l1.G rfl,q _⟩))
theorem G2(hf:∀ J:ad Value,J (.ref f) m n->Tr c E m n (eval (.Name x xp) env) J)(hk:keepIn (ao w.params) (.ref f)=true)(h:Tr c E m n (spliced (backTo p (starEach (e::r) env))) (kT c E (fun vs=>call (.ref f) vs) J))
  (he:starEach (e::r) env=(false,eval e env)::starEach r env:=by rfl) (hp:(backTo p (starEach r env)).any (·.1)=false:=by rfl):Tr c E m n (eval (.Call (.Name x xp) (e::r) [] p) env) J:= .mk fun s l=>
 LC rfl (am (hf (fun v m' n'=>v=.ref f/\m'=m/\n'=n) ⟨rfl,rfl,rfl⟩ s l) fun _ s' _ _ l' hv=>by
  obtain⟨e1,e2,e3⟩:=hv;subst e1 e2 e3;exact callWith_K l'.X hk (am (h s' l') fun vs s1 _ _ l1 q=>by
   exact⟨l1.X.keeps l1.F.keep,q _ l1⟩) he hp)
theorem Ja(hf:∀ J:ad Value,J (.ref f) m n->Tr c E m n (eval (.Name x xp) env) J)(hk:keepIn (ao w.params) (.ref f)=true)
  (h:Tr c E m n (eval e env) fun v m n=>Tr c E m n (eval e1 env) fun v1 m n=>Tr c E m n (eval e2 env) fun v2 m n=>Tr c E m n (call (.ref f) [v] [(k1,v1),(k2,v2)]) J)
  (he:starEach [e] env=(false,eval e env)::starEach [] env:=by rfl):Tr c E m n (eval (.Call (.Name x xp) [e] [⟨some k1,e1,p1⟩,⟨some k2,e2,p2⟩] p) env) J:= .mk fun s l=>
 wpAny_Call_Name_kw (am (hf (fun v m' n'=>v=.ref f/\m'=m/\n'=n) ⟨rfl,rfl,rfl⟩ s l) fun _ s' _ _ l' hv=>by
  obtain⟨e1,e2,e3⟩:=hv;subst e1 e2 e3;refine callWith_KW l'.X hk rfl (Lo (up (h s' l') fun v s1 hv=>LA ?_) he) (by refine aa he ?_;rfl) he;obtain⟨_,_,l1,q⟩:=hv;refine kws_cons (am (q s1 l1) fun v1 s2 _ _ l2 q=>?_);refine kws_cons (up (q s2 l2) fun v2 s3 hv=>kws_nil ?_);obtain⟨_,_,l3,q⟩:=hv;exact⟨l3.X.keeps l3.F.keep,q s3 l3⟩)
abbrev Ei(x:Str)(K:ad Flow):ad Value:=fun v m n=>K .next (fun y=>if y=x then some v else m y) n
theorem IV(h:Tr c E m n (eval e c.env) (Ei x K))(hx:c.env.kindOf x=some .local:=by rfl)(hs:swapsWith e (some (.Name x p')) p.line c.env=Pure.pure false:=by rfl):
  Tr c E m n (exec (.Assign [.Name x p'] e p) c.env) K:= .mk fun s l=>
 Pe (am (h s l) fun _ s' _ _ l' q=>by
  exact storeX_L l'.F l'.N (fun _ F' N'=>⟨_,_,l'.to F' N' l'.D l'.G rfl,q⟩) l'.hk hx) hs
theorem Jw
  (h:Tr c E m n (eval iter c.env) (rt c PO Qb P2 scope cls c.env fun D _ m' n'=>K .next (fun z=>if z=y then some (.ref D) else m' z) n'))
  (Ry:swapsWith (.ListComp P2 [⟨PO,iter,Qb,0⟩] scope pos) (some (.Name y py)) Rb.line c.env=Pure.pure true:=by rfl)
  (Ql:closureFor scope c.env=Pure.pure cls:=by rfl) (P6:scope.kind=.function:=by rfl) (P9:∀ x∈scope.names,x.2=.local->scope.names.lookup x.1=some .local:=by decide) (P8:∀ y∈scope.names,y.2≠ .cell:=by decide)
  (hy:c.env.kindOf y=some .local:=by rfl) (hp:(c.env.scope.kind== .class||(c.env.scope.kind== .module&&c.env.locals !=c.env.globals))=false:=by rfl) (R0:∀ x,foldedSetIterable iter c.env x=Pure.pure x:=by intro _;rfl):
  Tr c E m n (exec (.Assign [.Name y py] (.ListComp P2 [⟨PO,iter,Qb,0⟩] scope pos) Rb) c.env) K:= .mk fun s l=>by
 refine fF (h₀:=c.h₀) Ry Ql P6 P9 P8 hy rfl hp (am (h s l) fun v s' m' n' l' hv=>?_) R0;obtain⟨S,P,rfl,hm,hz,SB,turn,last⟩:=hv;exact HB S _ l' hm ⟨SB,K1 0⟩ hz (turn.toB (by exact L1 [_] (.a W0 V0) (.n 100000) 1 V0 (.n 1000) rfl hz)) fun D C mC PN g cD s2 hp l2 Rv=>fun h' tk F3 N3=>⟨_,_,l2.to F3 N3 l2.D l2.G rfl,last D mC PN g cD (by have:=hp.2;exact L1 [_,_] V0 V1 1 V0 (.a W0 V1) rfl hp.2) hp.1⟩
def a0:AW:={decl:=[[bt]],ns:=[[]],pm:=[],Yj:=[],Yi:=none,data:=none,seen:=false}
def nX(row:Str):Str:=Ye "{"++row++Ye "}t"
def bM(aB:List Str)(k:Str):Bool:=decide (k∈(aB.drop 1).map nX)
def dB(aB:List Str)(Yk ag:Yc):Str×Str:=match dQ (bM aB) Yk ag aB a0 with
 | .ok a=>(Txt.join (Ye "") a.Yj,Ye "none")
 | .error (e,P0)=>(Txt.join (Ye "") P0,e)
def dD(P0:List Str):Prop:=(P0.map (·.length)).sum+P0.length<=1048576
structure kg(aB:List Str)(Yk ag:Yc):Prop where
 hP:∀ j st,j<aB.length->cb (bM aB) Yk ag aB (a0,[]) j=.ok st->mn (bM aB) j (Yk.getD j 0) (ag.getD j 0) (aB.getD j ⟨#[]⟩) st
 hD:∀ st,cb (bM aB) Yk ag aB (a0,[]) aB.length=.ok st->fy st.2.reverse st.1/\st.2.length<=1000/\∀ ut∈st.2,PyData.strOk (ah ut.1 ut.2)=true
 w1:∀ a,dQ (bM aB) Yk ag aB a0=.ok a->dD a.Yj
 w2:∀ e P0,dQ (bM aB) Yk ag aB a0=.error (e,P0)->dD P0
theorem oP:∀ (l PP:List (Str×Value)),x∈(l.foldl ck PP).map (·.1)↔x∈PP.map (·.1)∨x∈l.map (·.1)
 |[],PP=>by simp
 |y::l,PP=>by
  (refine aa L9 ?_;rw[oP l])
  unfold ck
  split
  ·rename_i h
   simp only[LB,KI]
   constructor
   ·rintro(h|h)
    ·exact .inl h
    ·exact .inr (.inr h)
   ·rintro(h1|rfl|h1)
    ·exact .inl h1
    ·exact .inl h
    ·exact .inr h1
  ·simp only[KP,LB,OV,KM,KI,LH,O1,or_assoc]
theorem wA{n:X6}(h:ax n){idx:List Nat}(hi:idx.Nodup):ax (idx.filterMap (n[·]?)):=by
 unfold ax at*
 induction idx with
 |nil=>exact MF
 |cons i idx ih=>
  obtain⟨h1,h2⟩:=Ly.mp hi;refine aa List.filterMap_cons ?_
  split
  ·exact ih h2
  ·rename_i p hp
   refine Ly.mpr ⟨fun hm=>?_,ih h2⟩;obtain⟨q,hq,e⟩:=KK.mp hm;obtain⟨j,hj,hq⟩:=OW.mp hq;obtain⟨Ti,hie⟩:=Ll.mp hp;obtain⟨Vu,S4⟩:=Ll.mp hq;have:j=i:=(List.getElem_inj (xs:=n.map (·.1)) (h₀:=by rwa [KG]) (h₁:=by rwa [KG]) h).mp (by refine aa (N7 _) (aa (N7 _) (aa hie (aa S4 ?_)));exact e);exact h1 (this▸hj)
end
theorem ay.idx(l:ay c s m n)(idx:List Nat)(hi:idx.Nodup):ay c s m (idx.filterMap (n[·]?)):=
 l.to l.F (fun p hp=>by obtain⟨i,_,hp⟩:=OW.mp hp;exact l.N p (LL hp)) (wA l.D hi) l.G rfl
theorem IJ{c:Fx}{E:X8}{m:X7}{n:X6}{α:Type}{p:Sem α}{K:ad α}(idx:List Nat)(hi:idx.Nodup)(h:Tr c E m (idx.filterMap (n[·]?)) p K):Tr c E m n p K:= .mk fun s l=>h s (l.idx idx hi)
theorem Ce{t:Nat->Tok}{dl YJ nl:Nat}{tu tp:Tok}{po:Obj}(hp:po.IsDictOf (PySem.strKind PR w) ([]:List (Str×Value))):
  bC ⟨t, .none,false,false,17,[(dl,[⟨YJ,bt.1,bt.2,tu,tp⟩],0)],0,po,[],0,[.bool false],0,[(nl,[],0)],1,[],0,#[],[],[]⟩ a0:=
 ⟨rfl,rfl,⟨[],hp, .nil⟩, .nil,rfl, .inl ⟨rfl,rfl⟩,rfl,⟨rfl,rfl⟩,rfl⟩
theorem lU:∀ {vs:Yb} {ys:List Str},StrsAre vs ys->fJ (fun(xs:List (Str×Value))=>vs=xs.map (·.2)) (fun xs=>ys=xs.map (·.1)) (fun xs=>∀ p∈xs,∃ t,p.2=.str p.1 t)
 |_,_, .nil=>⟨[],rfl,rfl,fun _ h=>nomatch h⟩
 |_,_, .cons y t h=>by
  obtain⟨xs,rfl,rfl,h2⟩:=lU h;exact⟨(y, .str y t)::xs,rfl,rfl,fun p hp=>(KI.mp hp).elim (fun e=>⟨t,by exact aa e rfl⟩) (h2 p)⟩
theorem lT(h:StrsAre vs ys):StrsAre (vs.drop 1) (ys.drop 1):=by
 cases h with
 |nil=>exact .nil
 |cons y t h=>exact h
structure A6(c:Fx)(UA:X6)(m:X7)(J:ad Value)(Q:Flow->Shared->Prop):Prop where
 B:Below c.A₀ c.base c.outer c.h₀
 X:(ao w.params).In c.base
 T:ry (fun Qv mg mb=>TT Qv mg mb c.base)
 D:KtsDicts (c.outer.filterMap (·.frame)) c.h₀
 out:∀ fl s' m' n',ay c s' m' n'->J (cw fl) m n'->Q fl s'
 turned:∀ v s' g' m' n',KtsTurn (c.outer.filterMap (·.frame)) c.h₀ g'->Fr g' c.L s'.heap m'->News g' c.L s'.heap n'->ax n'->AllBare s'.gens->s'.os=c.os->J v m n'->Q (.ret v) s'
theorem zV{A₀:Around}{h₀:Heap}{k dp un:Nat}{gd:Option (List Code)}{cn:Str}{cs:Scope}{L a:Addr}{ccd:Value}{os:OsState}{E:X8}{m:X7}{J:ad Value}{f:Addr}{args:Yb}{n:X6}
  {name qual:Str} {params:Arguments} {body:Yd} {scope:Scope} {dV kV doc pm PX ct oc:Value} {an od:Option Addr} {RN:Array (Option Value)} {binds:List (Str×Value)}
  (ho:(ao w.params).lookup f=some ⟨oc,od, .func (fnOf name qual params body scope dV kV doc pm an PX ct),RN⟩) (Q1:codeIn (ao w.params) PX qual=true)
  (Qx:∀ s:Shared,(ao w.params).In s.heap->BindsTo s (fnOf name qual params body scope dV kV doc pm an PX ct) ⟨args,[]⟩ binds) (RB:∀ y∈binds,scope.names.lookup y.1=some .local)
  (Q2:scope.isCoroutine=false) (QX:scope.isGenerator=false) (hk:scope.kind=.function) (P8:∀ x∈scope.names,x.2≠ .cell)
  (hb:∀ g L' g₀,let c:Fx:=⟨ktrTop dp un gd cn cs L a ccd [] [],h₀,k,dp+1,un+3,gd,qual,scope,L',f,PX,[],[envX cn cs L a ccd []],g,os,g₀⟩;∀ Q E2,A6 c n m J Q->∀ s2,ay c s2 (fun y=>binds.reverse.lookup y) n->wpAny MP c.A (execs body c.env) Q E2 s2):
  Tr (⟨A₀,h₀,k+1,dp,un,gd,cn,cs,L,a,ccd,[],[],h₀,os,#[]⟩:Fx) E m n (call (.ref f) args) J:=by
 refine .mk fun s l=>?_;have hd:dp+(k+1)<recursionLimit:=l.hd;have hu:un+20*(k+1)<cLine:=l.hu;obtain⟨Qv,mg,mb,T⟩:=l.T;refine OK ?_;refine code_defS0 l.B l.F l.X l.N T rfl ho Q1 (by show dp<recursionLimit;exact iS hd) (Qx s (l.X.keeps l.F.keep)) RB ?_ l.hk Q2 QX hk P8;intro g L' h₁ FG F' N' B' X' T' D';have fin:∀ {s' m' n' g' v},KtsTurn ([envX cn cs L a ccd []].filterMap (·.frame)) g g'->Fr g' L' s'.heap m'->News g' L' s'.heap n'->ax n'->AllBare s'.gens->s'.os=os->J v m n'->
   LeaveS0 ([envX cn cs L a ccd []].filterMap (·.frame)) h₀ L m g (wants (fun v s'=>bE (fun m' n'=>ay (⟨A₀,h₀,k+1,dp,un,gd,cn,cs,L,a,ccd,[],[],h₀,os,#[]⟩:Fx) s' m' n') (fun m' n'=>J v m' n')) E) v s':=fun t F N D G O q=>
  leaveS0_ F N t fun F2 N2=>⟨m,_,⟨l.B,l.X,l.T,l.hk,l.hd,l.hu,F2,N2,D,⟨G,fun h=>absurd h (Pp _)⟩,O⟩,q⟩
 refine K9 (hb g L' s.gens _ (fun e s'=>wpAny MP (Around.deeper _ _) (leaving _ e) (fun _ Qj=>E e Qj) (fun e' Qj=>E e' Qj) s') ⟨B',l.X,l.T,D',fun fl s' m' n' l' q=>?_,fun v s' g' m' n' t F N D G O q=>fin t F N D G O q⟩ _ ⟨B',X',⟨_,_,_,T'⟩,hk,by show dp+1+k<recursionLimit;exact L1 [_,_,_] (.a (.a (.a V0 W1) V1) W1) V2 1 (.a (.a V0 (.a V1 W1)) W1) V2 rfl hd,by show un+3+20*k<cLine;exact L1 [_,_,_] (.a (.a (.a V0 (.n 3)) (.m 20 V1)) W1) V2 1 (.a (.a V0 (.m 20 (.a V1 W1))) W1) V2 rfl hu,F',N',l.D,⟨l.G.1,fun _=>rfl⟩,l.O⟩) (fun _ _ z=>z) fun _ _ z=>z
 cases fl<;>exact fin KtsTurn.refl l'.F l'.N l'.D l'.G.1 l'.O q
theorem sO
(F:Fr h₀ L s.heap m) (N:News h₀ L s.heap news) (N3:News h₀ L s.heap Vf) (G:Got Vf e t (.type "ValueError") [.str PQ tw]) (X:(ao w.params).In h₀) (T:TT Qv mg mb h₀) (hu:B.units+2<cLine) (hk:cs.kind=.function)
  (hp:m (Ye "page")=some (.ref pa)) (he:m (Ye "error")=some (.ref e)) (hpa:(pa,lO pg cg)∈news) (hs:StrsAre pg P0) (hw:dD P0)
  (hkp:(envX cn cs L a ccd []).kindOf (Ye "page")=some .local) (SG:(envX cn cs L a ccd []).kindOf (Ye "error")=some .local) (SH:(envX cn cs L a ccd []).kindOf (Ye "str")=some .globalImplicit)
(hec:eval (.Call (.Attribute (.Constant (.str (Ye "")) kc p1) (Ye "join") p2) [.Name (Ye "page") p3] [] p4) (envX cn cs L a ccd [])=(do
   let ov←eval (.Constant (.str (Ye "")) kc p1) (envX cn cs L a ccd [])
   standAt p2.atName
   let (f,first)←holding [ov] (getMethod ov (Ye "join") pl)
   callWith p4 f first (backTo p4 (starEach [.Name (Ye "page") p3] (envX cn cs L a ccd []))) []))
  (h:∀ T t1 h' tk,T=s.heap.objs.size->h'=s.heap.push (bm (.str (Txt.join (Ye "") P0) t1) (.str PQ tw) 0)->Q (.ret (.ref T)) {s with heap:=h',toks:=tk}):
  wpAny MP B (execs (.Return (some (.Tuple [.Call (.Attribute (.Constant (.str (Ye "")) kc p1) (Ye "join") p2) [.Name (Ye "page") p3] [] p4, .Call (.Name (Ye "str") p5) [.Name (Ye "error") p6] [] p7] kk p8)) p9::r) (envX cn cs L a ccd [])) Q E s:=by
 refine Lr (wpAny_Return_some (wpAny_Tuple (Lo (MethodCall_ (wpAny_Constant_str ?_) hec))));refine Pd (typeIs_str _ _ _) Pi Ox Oy (fun a e=>by cases e) ?_;refine N9 (Lo (nameX_L (s:={s with toks:=_}) F hp (LA ?_) hk hkp));refine join_listW ⟨_,(N _ hpa).1,rfl,cg,rfl⟩ hs (by decide) hw fun _ t1=>?_;refine Lo (LC rfl (nameX_B (s:={s with toks:=_}) F X (topRead_of T) (by k_is) PyProof.Rows.Boot.«str» (by decide) ?_ hk SH));refine callWith_type1 (Lo (nameX_L (s:={s with toks:=_}) F he (LA ?_) hk SG));refine str_got_one PySem.F.excStr_ValueError N3 G hu (LA ⟨by refine aa Lh ?_;exact KC rfl,?_⟩);exact h _ _ _ _ rfl rfl
theorem wK:Nonempty Around:=⟨callerA⟩
namespace TOk
def Q(A₀:Around)(h₀:Heap)(k dp un:Nat)(gd:Option (List Code))(cn:Str)(cs:Scope)(L a:Addr)(ccd:Value)(os:OsState)(E:X8)(m:X7)(J:ad Value)(Yk ag:Yc)(aT Yq:Yb)(kd km dl ml:Nat):Prop:=∀ (hk:13<=k) (RQ:IntsAre aT Yk) (QS:IntsAre Yq ag) (hz:ag.length<=Yk.length/\Yk.length<=100) (P5:2<=ag.length) (Ss:∀ y∈ag,(aP y).length<=100) (hT:kg (ag.map aP) Yk ag) (hJ:∀ (T:Nat) t1 t2 tb,J (.ref T) m [(T,bm (.str (dB (ag.map aP) Yk ag).1 t1) (.str (dB (ag.map aP) Yk ag).2 t2) 0),(123,tabObj tb),(dl,lO aT kd),(ml,lO Yq km)]),Tr (⟨A₀,h₀,k+1,dp,un,gd,cn,cs,L,a,ccd,[],[],h₀,os,#[]⟩:Fx) E m [(dl,lO aT kd),(ml,lO Yq km),(123,tabObj #[])] (call (.ref 248) [.ref dl, .ref ml]) J
def P_(y:((((Around×Heap)×Nat)×(Nat×Nat)×(Option (List Code)))×((Str×Scope)×Addr)×(Addr×Value)×OsState)×(((X8×X7)×(ad Value))×(Yc×Yc)×Yb)×((Yb×Nat)×Nat)×Nat×Nat):Prop:=Q y.1.1.1.1.1 y.1.1.1.1.2 y.1.1.1.2 y.1.1.2.1.1 y.1.1.2.1.2 y.1.1.2.2 y.1.2.1.1.1 y.1.2.1.1.2 y.1.2.1.2 y.1.2.2.1.1 y.1.2.2.1.2 y.1.2.2.2 y.2.1.1.1.1 y.2.1.1.1.2 y.2.1.1.2 y.2.1.2.1.1 y.2.1.2.1.2 y.2.1.2.2 y.2.2.1.1.1 y.2.2.1.1.2 y.2.2.1.2 y.2.2.2.1 y.2.2.2.2
def y_:((((Around×Heap)×Nat)×(Nat×Nat)×(Option (List Code)))×((Str×Scope)×Addr)×(Addr×Value)×OsState)×(((X8×X7)×(ad Value))×(Yc×Yc)×Yb)×((Yb×Nat)×Nat)×Nat×Nat:=pk (cE (cE (cE (cE (cE wK inferInstance) inferInstance) inferInstance) inferInstance) inferInstance) P_
def A₀:Around:=y_.1.1.1.1.1
def h₀:Heap:=y_.1.1.1.1.2
def k:Nat:=y_.1.1.1.2
def dp:Nat:=y_.1.1.2.1.1
def un:Nat:=y_.1.1.2.1.2
def gd:Option (List Code):=y_.1.1.2.2
def cn:Str:=y_.1.2.1.1.1
def cs:Scope:=y_.1.2.1.1.2
def L:Addr:=y_.1.2.1.2
def a:Addr:=y_.1.2.2.1.1
def ccd:Value:=y_.1.2.2.1.2
def os:OsState:=y_.1.2.2.2
def E:X8:=y_.2.1.1.1.1
def m:X7:=y_.2.1.1.1.2
def J:ad Value:=y_.2.1.1.2
def Yk:Yc:=y_.2.1.2.1.1
def ag:Yc:=y_.2.1.2.1.2
def aT:Yb:=y_.2.1.2.2
def Yq:Yb:=y_.2.2.1.1.1
def kd:Nat:=y_.2.2.1.1.2
def km:Nat:=y_.2.2.1.2
def dl:Nat:=y_.2.2.2.1
def ml:Nat:=y_.2.2.2.2
theorem go:Q A₀ h₀ k dp un gd cn cs L a ccd os E m J Yk ag aT Yq kd km dl ml:=by
 intro hk RQ QS hz P5 Ss hT hJ;refine' zV (binds:=[(Ye "deeds", .ref dl),(Ye "modes", .ref ml)]) (by k_is) (by k_is) (by exact fun s X=>LJ rfl) (by exact ba rfl) (by rfl) (by rfl) (by rfl) (by decide) ?_;intro g L' g₀ c Q E2 hI s2 l2;have Rt:=QS.length;have SZ:=RQ.length;have WO:∀ y∈ag.map aP,y.length<=100:=fun y hy=>by obtain⟨z,hz,rfl⟩:=KK.mp hy;exact Ss z hz
 generalize Wq:ag.map aP=aB at hT hJ WO;revert aB;refine wrap ?_;intro aB Wq hT hJ WO;have Su:aB.length=ag.length:=by exact ae Wq (aa (KG _) rfl)
 generalize P7:(fun y=>[(Ye "deeds",Value.ref dl),(Ye "modes",Value.ref ml)].reverse.lookup y)=m0 at l2;revert m0;refine wrap ?_;intro m0 P7 l2;have d0:m0 (Ye "deeds")=some (.ref dl):=ae P7 rfl;have e0:m0 (Ye "modes")=some (.ref ml):=ae P7 rfl;clear P7;refine Lr (HP l2 (Jw (K:=fun fl m n=>fl=.next/\eg (fun(rl:Nat) (dm:Yb) (kr:Nat)=>StrsAre dm aB) (fun rl _ _=>m=(fun z=>if z=Ye "rows" then some (.ref rl) else m0 z)) (fun rl dm kr=>n=[(rl,lO dm kr),(dl,lO aT kd),(ml,lO Yq km),(123,tabObj #[])]))
  (FY e0 ⟨.list ml Yq km,fun j mC PN g=>g=[]/\StrsAre PN ((ag.take j).map aP),rfl, .inl aK,by show Yq.length<=1000;exact L3 [_,_,_] V2 (.n 1000) 1 V0 V1 1 V1 (.n 100) 1 V2 V0 rfl hz.1 hz.2 (eL Rt),⟨rfl, .nil⟩,?YK,fun D mC PN g cD _ hp=>⟨rfl,D,PN,cD,?rows1,rfl,by refine aa hp.1 ?_;rfl⟩⟩)) fun fl s3 m3 n3 l3 q3=>?_)
 case rows1=>
  have:=hp.2;rw[show dv.N (.list ml Yq km)=ag.length from Rt,Lm,Wq] at this;exact this
 case YK=>
  rintro E' j x PN g I D C oI oC mC cD Y N hj hx ⟨rfl,hs⟩ xC hY hN;have hj:j<ag.length:=ae Rt hj;obtain⟨t,e⟩:=dr QS hj;have hx:Yq[j]?=some x:=hx;rw[e] at hx
  cases hx;refine GB (pre:=[_]) rfl xC fun Qq SR=>GI (GE (f:=222) (fun J h=>H9 (by k_is) h) (by k_is) (Gh aK SR rfl ((rQ _ t).to (by show 6<=k;exact L1 [_] (.n 6) V0 1 (.n 13) V0 rfl hk) ?_)));rintro _ ⟨t',rfl⟩;refine hY _ _ _ ⟨rfl,Qq,_,[],SR, .refl _,rfl,?_⟩;refine aa Mn (aa (KL hj) (aa (NO _) (aa KP ?_)));have e2:ag.getD j 0=ag[j]:=aa KU (aa (KL hj) rfl);exact aa e2 (M3 hs (.cons _ _ .nil))
 obtain⟨rfl,rl,dm,kr,U1,UU,rfl⟩:=q3;have d3:m3 (Ye "deeds")=some (.ref dl):=aa UU d0;have e3:m3 (Ye "modes")=some (.ref ml):=aa UU e0;have r3:m3 (Ye "rows")=some (.ref rl):=aa UU rfl;clear UU d0 e0 l2;have hvn:=U1.length;refine Lr (HP l3 (IV (K:=fun fl m n=>fl=.next/\aO (fun(pg:Nat)=>m=(fun z=>if z=Ye "page" then some (.ref pg) else m3 z)) (fun pg=>n=[(pg,listOf #[] 0),(rl,lO dm kr),(dl,lO aT kd),(ml,lO Yq km),(123,tabObj #[])])) (Gx (FZ ⟨K6 _,fun pg=>⟨rfl,pg,rfl,rfl⟩⟩))) fun fl s4 m4 n4 l4 q4=>?_);obtain⟨rfl,pg,hm4,rfl⟩:=q4;have d4:m4 (Ye "deeds")=some (.ref dl):=aa hm4 d3;have e4:m4 (Ye "modes")=some (.ref ml):=aa hm4 e3;have r4:m4 (Ye "rows")=some (.ref rl):=aa hm4 r3;have p4:m4 (Ye "page")=some (.ref pg):=aa hm4 rfl;clear hm4 d3 e3 r3 l3;refine Lr (HP l4 (IV (K:=fun fl m n=>fl=.next/\vO (fun(x:Wr) (wa:aF) (aD:Obj) (ks:Nat) (idx:List Nat)=>idx.Nodup) (fun x _ _ _ _=>bC x a0) (fun _ wa _ _ _=>wa.Yj=pg) (fun _ _ aD ks _=>aD.SetObjOf (PySem.strKind PR w) (bM aB) ks) (fun _ _ _ ks _=>ks<=1000) (fun _ wa _ _ _=>(wa.YD==sysModules)=false) (fun _ wa _ _ _=>m=(fun z=>if z=Ye "writer" then some (.ref wa.W) else m4 z)) (fun x wa aD _ idx=>idx.filterMap (n[·]?)=x.led wa++[(wa.Yw,aD),(dl,lO aT kd),(ml,lO Yq km),(rl,lO dm kr)])) ?wr) fun fl s5 m5 n5 l5 q5=>?_)
 case wr=>
  refine Ja (f:=150) (fun J h=>Gz (by k_is) h) (by k_is) (H0 (FY p4 (I9 (.head _) fun Yv=>HA (GU (JC (FY r4 ⟨rl,dm,kr,rfl,cq,by exact L4 [_,_,_,_] V3 (.n 1000) 1 V0 V1 1 V1 (.n 100) 1 V2 V0 1 V3 V2 rfl hz.1 hz.2 (eL Su) (eL hvn),fun sl=>
   ⟨.list sl (dm.drop 1) 0,fun j mC PN g=>g=[]/\StrsAre PN (((aB.drop 1).take j).map nX),rfl, .inl (.head _),?sz,⟨rfl, .nil⟩,?YI,?last2⟩⟩))))))
  case sz=>show (dm.drop 1).length<=1000;refine aa NA ?_;exact L5 [_,_,_,_,_] (.v 4) (.n 1000) 1 V0 V1 1 V1 (.n 100) 1 V2 V0 1 V3 V2 1 (.v 4) V3 rfl hz.1 hz.2 (eL Su) (eL hvn) (Nat.sub_le _ _)
  case YI=>
   rintro E' j x PN g I D C oI oC mC cD Y N hj hx ⟨rfl,hs⟩ xC hY hN;have hv1:=lT U1;have hj:j<(aB.drop 1).length:=ae hv1.length hj;obtain⟨t,e⟩:=rq hv1 hj;have hx:(dm.drop 1)[j]?=some x:=hx;rw[e] at hx
   cases hx;have e2:(aB.drop 1).getD j ⟨#[]⟩=(aB.drop 1)[j]:=aa KU (aa (KL hj) rfl);refine aa e2 ?_;have hy:=WO _ (OB (M8 hj));refine GB (pre:=[_]) rfl xC fun Qq SR=>GI (F8 (F8 (Gc fun t1=>Gh aK SR rfl (Gm (KC rfl) (bd hy) fun t2=>Gc fun t3=>Gm ?l1 (KC rfl) fun t4=>hY _ _ _ ⟨rfl,Qq,_,[],SR, .refl _,rfl,?st⟩))))
   case l1=>refine aa (KD _ _) (aa uH ?_);exact L1 [_] (.a W1 V0) (.n 1000000) 1 V0 (.n 100) rfl hy
   case st=>
    exact aa Mn (aa (KL hj) (aa (NO _) (aa KP (M3 hs (.cons _ _ .nil)))))
  case last2=>
   rintro D mC PN g cD _ ⟨rfl,hs⟩;rw[show dv.N (.list sl (dm.drop 1) 0)=(aB.drop 1).length from(lT U1).length,Lm] at hs;obtain⟨xs,rfl,U8,hxv⟩:=lU hs;have Tu:xs.length=aB.length-1:=by
    have:=congrArg List.length U8;rw[KG,KG,NA] at this;exact this.symm
   have QB:∀ y∈xs,(PySem.strKind PR w).is y.1 y.2=true/\y.2.scannable=true:=fun y hy=>by
    obtain⟨t,e⟩:=hxv y hy;exact aa e ⟨NH _ _ _ _,rfl⟩
   refine Kl (C:=150) (fI:=67) (k:=1) (n:=[(D,lO (xs.map (·.2)) cD)]) (by k_is) (by k_is) (by k_is) (fun x dx=>zJ x dx Yv D cD xs QB (by exact L6 [_,_,_,_,_] V3 (.n 1000) 1 V0 V1 1 V1 (.n 100) 1 V2 V0 2 V3 (.v 4) 1 (.v 4) V3 1 (.v 4) V2 rfl hz.1 hz.2 (eL Su) (eL Tu) (eG Tu) (Nat.sub_le _ _)) (by intro e;rw[e] at Tu;simp at Tu;exact f0 (L5 [_,_,_] W1 W0 1 (.n 2) V0 2 V1 V0 3 V0 V1 1 V2 W0 1 V1 (.a V2 W1) rfl P5 (eL Su) (eG Su) (eG Tu) (Ov.mp (K1 _))))) ?hk1 (fun x dx n' hP=>?_) dC.no
   case hk1=>show 2<=k;exact L1 [_] (.n 2) V0 1 (.n 13) V0 rfl hk
   obtain⟨data,decl,dl',YJ,ns,nl,pm,Yp,Yw,aD,po,t,tu,tp,hW,VF,Yy,rfl⟩:=hP;refine⟨rfl,_,⟨x,dx,data,decl,ns,pm,Yp,pg,Yv,Yw⟩,aD,(xs.foldl ck []).length,[9,10,4,1,14,13,0,3,8,18,5,6,2,7,16,17,15],by decide,Ce (t:=t) (dl:=dl') (YJ:=YJ) (nl:=nl) (tu:=tu) (tp:=tp) VF,rfl,?so,?ks,Yy,rfl,rfl⟩
   case so=>
    have:=hW.obj;have e:(fun k=>decide (k∈(xs.foldl ck []).map (·.1)))=bM aB:=by
     funext k
     unfold bM;refine aa U8 ?_;exact OI.mpr ((oP xs []).trans (by simp))
    rw[e] at this;exact this
   case ks=>
    have:=jL xs [];rw[List.length_nil] at this
    lia
 obtain⟨rfl,x,wa,aD,ks,idx,hidx,hA,rfl,hS,SH,Yy,UV,hn5⟩:=q5;have l6:=l5.idx idx hidx;rw[hn5] at l6;clear l5 hn5;generalize hm6:m5=m6 at l6 UV;revert m6;refine wrap ?_;intro m6 hm6 l6 UV;have d5:m6 (Ye "deeds")=some (.ref dl):=aa UV d4;have e5:m6 (Ye "modes")=some (.ref ml):=aa UV e4;have r5:m6 (Ye "rows")=some (.ref rl):=aa UV r4;have p5:m6 (Ye "page")=some (.ref wa.Yj):=aa UV p4;have w5:m6 (Ye "writer")=some (.ref wa.W):=aa UV rfl;clear hm6 UV d4 e4 r4 p4 l4 m5;have htell:=zM wa x a0 Yk ag aB aT Yq dm kd km kr dl ml rl aD (bM aB) ks Yy hA RQ QS U1 (q7 hz.1 Su) (eL Su) (E6 hz.2 hz.1 Su) hS SH hT.hP hT.hD;refine Lr (wpAny_Try_except (HP l6 (Ge (G2 (f:=243) (fun J h=>Gz (by k_is) h) (by k_is) (F0 (FY w5 (F0 (FY d5 (F0 (FY e5 (F0 (FY r5 (FZ ?tell)))))))))):Tr c _ m6 _ _ fun fl m n=>fl=.next/\m=m6/\bW (fun x' a'=>dQ (bM aB) Yk ag aB a0=.ok a') (fun x' a'=>bC x' a') (fun x' _=>n=x'.led wa++[(wa.Yw,aD),(dl,lO aT kd),(ml,lO Yq km),(rl,lO dm kr)])) ?k6))
 case k6=>
  rintro fl s7 m7 n7 l7 ⟨rfl,rfl,x',a',ha,Qm,rfl⟩;have hJ1:(dB aB Yk ag).1=Txt.join (Ye "") a'.Yj:=by unfold dB;exact aa ha rfl
  have hJ2:(dB aB Yk ag).2=Ye "none":=by unfold dB;exact aa ha rfl
  rw[hJ1,hJ2] at hJ;refine wpAny_execs_nil ?_;refine HP l7 (K:=fun fl m n=>mf (fun T t1 t2 tb n0=>fl=.ret (.ref T)) (fun T t1 t2 _ n0=>n=(T,bm (.str (Txt.join (Ye "") a'.Yj) t1) (.str (Ye "none") t2) 0)::n0) (fun _ _ _ tb n0=>[(123,tabObj tb),(dl,lO aT kd),(ml,lO Yq km)].Sublist n0)) ?h8 ?k8
  case h8=>
   refine GM (GA (F0 (Ga (Gc fun t1=>HM Ox Oy (Gq (F0 (FY p5 (FZ (Iq (KA _ (x'.mPage wa)) Qm.Yj (by decide) (hT.w1 _ ha) fun t2=>F0 (Gc fun t3=>FZ ⟨KC rfl,fun T=>?k7⟩))))))))));exact⟨T,t2,t3,x'.YF,_,rfl,rfl,(List.singleton_sublist.mpr (x'.mTab wa)).append (show List.Sublist [(dl,lO aT kd),(ml,lO Yq km)] [(wa.Yw,aD),(dl,lO aT kd),(ml,lO Yq km),(rl,lO dm kr)] from .cons _ (.cons_cons _ (.cons_cons _ (.cons _ .slnil))))⟩
  case k8=>
   rintro fl s8 m8 n8 l8 ⟨T,t1,t2,tb,n0,rfl,rfl,hs⟩;exact hI.out _ _ _ _ (l8.sub (hs.cons_cons _)) (hJ T t1 t2 tb)
 case tell=>
  refine ae (Lj (x.led wa++[(wa.Yw,aD),(dl,lO aT kd),(ml,lO Yq km),(rl,lO dm kr)])) ?_;refine htell.to c _ m6 [] _ (by show 12<=k;exact AL hk) ?_ ?_
  ·rintro v n' ⟨-,x',a',ha,Qm,rfl⟩
   exact aa (Lj _) (F6 ⟨rfl,rfl,x',a',ha,Qm,rfl⟩)
  ·intro PQ Yr hRs e t h' TD Qg d' TY tw F2 hr2 R2 U2 Ue
   obtain⟨P0,Qp,pg,cg,tb,rfl,hst⟩:=hRs;have hJ1:(dB aB Yk ag).1=Txt.join (Ye "") P0:=by unfold dB;exact aa Qp rfl
   have hJ2:(dB aB Yk ag).2=PQ:=by unfold dB;exact aa Qp rfl
   rw[hJ1,hJ2] at hJ;obtain⟨Qv,mg,mb,TB⟩:=hI.T;have hu:c.un+20*k<cLine:=l6.hu;refine caught_SB (T':="ValueError") R2 F2 hI.B U2 hI.X TB hI.D KtsTurn.refl (by k_is) PyProof.Rows.Boot.«ValueError» (by decide) PySem.F.isExc_ValueError PySem.F.notTuple_ValueError ?hs ?_
   case hs=>kts_sub
   intro h3 g3 n3 tk3 T3 F3 N3 G3 N4 B3 X3 P3 D3;refine sO F3 N4 N3 G3 X3 P3 (by show c.un+2<cLine;exact L2 [_,_,_] (.a (.a V1 (.n 2)) W1) V2 1 (.n 13) V0 1 (.a (.a V1 (.m 20 V0)) W1) V2 rfl hk hu) rfl p5 rfl (.head _) hst (hT.w2 _ _ Qp) rfl rfl rfl (by rfl) ?_;rintro T t1 h4 tk4 rfl rfl;have N5:=NW F3 N4 (bm (.str (Txt.join (Ye "") P0) t1) (.str PQ tw) 0);have VK:[(123,tabObj tb),(dl,lO aT kd),(ml,lO Yq km)].Sublist ((wa.Yj,lO pg cg)::(123,tabObj tb)::[(dl,lO aT kd),(ml,lO Yq km),(rl,lO dm kr)]):= .cons _ (.cons_cons _ (.cons_cons _ (.cons_cons _ (.cons _ .slnil))));have hD:ax [(123,tabObj tb),(dl,lO aT kd),(ml,lO Yq km)]:=List.Nodup.sublist (((List.singleton_sublist.mpr (x.mTab wa)).append (show List.Sublist [(dl,lO aT kd),(ml,lO Yq km)] [(wa.Yw,aD),(dl,lO aT kd),(ml,lO Yq km),(rl,lO dm kr)] from .cons _ (.cons_cons _ (.cons_cons _ (.cons _ .slnil))))).map (·.1)) l6.D;refine name_goes (F3.push _) (news:=(h3.objs.size,bm (.str (Txt.join (Ye "") P0) t1) (.str PQ tw) 0)::[(123,tabObj tb),(dl,lO aT kd),(ml,lO Yq km)]) (fun p hp=>N5 p ((VK.cons_cons _).subset hp)) fun h5 m5 F5 N6=>?_;exact hI.turned _ _ g3 m5 _ T3 F5 N6 (hD.fresh fun p hp=>KQ (N4 p (VK.subset hp)).1) Ue rfl (hJ _ t1 tw tb)
end TOk
theorem zO(A₀:Around)(h₀:Heap)(k dp un:Nat)(gd:Option (List Code))(cn:Str)(cs:Scope)(L a:Addr)(ccd:Value)(os:OsState)(E:X8)(m:X7)(J:ad Value)(Yk ag:Yc)(aT Yq:Yb)(kd km dl ml:Nat):TOk.Q A₀ h₀ k dp un gd cn cs L a ccd os E m J Yk ag aT Yq kd km dl ml:=cU (P:=TOk.P_) TOk.go (((((A₀,h₀),k),((dp,un),gd)),(((cn,cs),L),((a,ccd),os))),((((E,m),J),((Yk,ag),aT)),(((Yq,kd),km),(dl,ml))))
theorem di(a:Int)(hb:0<b):0<=a.fmod b/\a.fmod b<b:=⟨Int.fmod_nonneg_of_pos a hb,Int.fmod_lt_of_pos a hb⟩
theorem gJ{a b c:Int}(h0:0<=a)(hb:0<b)(h1:a<c*b):0<=a.fdiv b/\a.fdiv b<c:=by
 exact aa (LK _ (Nk hb)) ⟨Int.ediv_nonneg h0 (Nk hb),Int.ediv_lt_of_lt_mul hb h1⟩
noncomputable def gG (mode:Int):Nat->Int
 |0=>[1,6,3,1,4,1,2,1,0,1,5,1,7,1,1,1].getD (mode.fdiv 4096).toNat 0
 |j+1=>cj mode (gG mode j) (2-j)
theorem pT{a b d:Tok}{j:Nat}{x:Value}(h:[Value.int 2 a, .int 1 b, .int 0 d][j]?=some x):rx (fun t p=>x=.int p t) (fun _ p=>p=2-(j:Int)) (fun _ p=>0<=p) (fun _ p=>p<=2):=by
 match j,h with
 |0,h=>cases h;exact⟨a,2,rfl,rfl,by decide,by decide⟩
 |1,h=>cases h;exact⟨b,1,rfl,rfl,by decide,by decide⟩
 |2,h=>cases h;exact⟨d,0,rfl,rfl,by decide,by decide⟩
 |j+3,h=>simp at h
theorem sq{p:Int}(h0:0<=p)(h1:p<=2){P:Int->Prop}(a:P 0)(b:P 1)(d:P 2):P p:=by
 have:p=0∨p=1∨p=2:=EL h0 h1;rcases this with rfl|rfl|rfl<;>assumption
def rB(mode:Int)(tk:Tok)(c:Int)(j:Nat)(m:X7):Prop:=m (Ye "mode")=some (.int mode tk)/\(∃ t,m (Ye "code")=some (.int c t))/\0<=c/\c<16^(j+1)
theorem xY(mode:Int)(tk:Tok)(h0:0<=mode)(h1:mode<65536):dT 3 255 [.int mode tk] (rE (bg mode)):=by
 refine' GD (binds:=[(Ye "mode", .int mode tk)]) (by k_is) (by k_is) (by exact fun s X=>LJ rfl) (by exact ba rfl) (by rfl) (by rfl) (by rfl) (by decide) (by exact fun _ _ h=>h.elim) ?_;intro A₀ base dp un gd L outer h₀ os g₀ c E K hE QR hK;have hq:=gJ (b:=4096) (c:=16) h0 (by decide) (BV h1);refine Gf (GT (by k_is) (by boot_fast) (by decide) (Gg (Gc fun t1=>F8 (FY rfl (F7 fun t2=>GF (by decide) (by decide) fun t3=>G5 hq.1 (by exact hq.2) (by decide) fun t4=>?_)))));refine .mk fun s l=>KTb.int_sign (zs:=[1,6,3,1,4,1,2,1,0,1,5,1,7,1,1,1]) (n:=16) hq.1 (by exact hq.2) (by decide+kernel) fun t5 k5=>⟨_,_,l.tok,?_⟩;have hg:rB mode tk (gG mode 0) 0 (fun y=>if y=Ye "code" then some (.int (gG mode 0) t5) else[(Ye "mode",Value.int mode tk)].reverse.lookup y):=by
  refine⟨rfl,⟨t5,rfl⟩,?_⟩;show 0<=[(1:Int),6,3,1,4,1,2,1,0,1,5,1,7,1,1,1].getD (mode.fdiv 4096).toNat 0/\[(1:Int),6,3,1,4,1,2,1,0,1,5,1,7,1,1,1].getD (mode.fdiv 4096).toNat 0<16;exact(by decide:∀ k,k<16->0<=[(1:Int),6,3,1,4,1,2,1,0,1,5,1,7,1,1,1].getD k 0/\[(1:Int),6,3,1,4,1,2,1,0,1,5,1,7,1,1,1].getD k 0<16) _ (by lia)
 show Tr c E (fun y=>if y=Ye "code" then some (.int (gG mode 0) t5) else _) [] (execs _ c.env) K;generalize (fun y=>if y=Ye "code" then some (Value.int (gG mode 0) t5) else _)=m0 at hg⊢;revert m0;refine wrap ?_;intro m0 hg;refine Gu (GH (K₁:=fun fl m n=>fl=.next/\rB mode tk (gG mode 3) 3 m) ?sF ?sR)
 case sR=>
  rintro _ m n ⟨rfl,hm,⟨t,hc⟩,_⟩;exact GM (FY hc (hK _ _ _ [] (My _) ⟨⟨t,rfl⟩,rfl⟩))
 case sF=>
  intro K2 hK2;refine Hw (fun S j m n=>rB mode tk (gG mode j) j m/\S.ent∈n) QR (GA (F0 (F7 fun a=>F0 (F7 fun b=>F0 (F7 fun d=>FZ ⟨KC rfl,fun T=>⟨.YJ T [.int 2 a, .int 1 b, .int 0 d] 0,rfl,KC rfl,⟨hg, .head _⟩,fun _ _ _ h=> .inl h.2,?turn,fun m n h=>F6 (hK2 _ _ _ ⟨rfl,h.1⟩)⟩⟩)))));rintro j x I oI m n KT hj hx ⟨⟨hm,⟨t,hc⟩,Tg,Vo⟩,hn⟩ RX;obtain⟨tp,p,rfl,hp,To,Rw⟩:=pT hx;have hj:j<3:=hj;have hcz:gG mode j<65536:=LT Vo ((by decide:∀ j,j<3->(16:Int)^(j+1)<=65536) j hj);refine Go ?_;show Tr _ _ _ _ _ _;generalize PU:(fun y=>if y=Ye "power" then some (Value.int p tp) else m y)=m1;revert m1;refine wrap ?_;intro m1 PU;have a1:m1 (Ye "mode")=some (.int mode tk):=ae PU hm;have a2:m1 (Ye "code")=some (.int (gG mode j) t):=ae PU hc;have a3:m1 (Ye "power")=some (.int p tp):=ae PU rfl;clear PU hm hc;have e8:(8:Int)^p.toNat≠0/\((8:Int)^p.toNat).natAbs<1073741824:=sq (P:=fun p=>(8:Int)^p.toNat≠0/\((8:Int)^p.toNat).natAbs<1073741824) To Rw (by decide) (by decide) (by decide);have e2:(2:Int)^(9+p).toNat≠0/\((2:Int)^(9+p).toNat).natAbs<1073741824:=sq (P:=fun p=>(2:Int)^(9+p).toNat≠0/\((2:Int)^(9+p).toNat).natAbs<1073741824) To Rw (by decide) (by decide) (by decide);refine Gf (F8 (F8 (FY a1 (F8 (F7 fun t1=>FY a3 (H3 To (by lia) (by decide) fun t2=>GF e8.1 e8.2 fun t3=>F7 fun t4=>GO (by decide) fun t5=>?_))))));have hf:=di (mode.fdiv (8^p.toNat)) (b:=8) (by decide);have Si:=di (mode.fdiv (2^(9+p).toNat)) (b:=2) (by decide);have hst:cj mode (gG mode j) p=gG mode (j+1):=aa hp rfl;unfold cj at hst;generalize (mode.fdiv (8^p.toNat)).fmod 8=f at hf hst⊢;revert f;refine wrap ?_;intro f hf hst;show Tr _ _ _ _ _ _;generalize PU:(fun y=>if y=Ye "figure" then some (Value.int f t5) else m1 y)=m2;revert m2;refine wrap ?_;intro m2 PU;have b1:m2 (Ye "mode")=some (.int mode tk):=ae PU a1;have b2:m2 (Ye "code")=some (.int (gG mode j) t):=ae PU a2;have b3:m2 (Ye "power")=some (.int p tp):=ae PU a3;have b4:m2 (Ye "figure")=some (.int f t5):=ae PU rfl;clear PU a1 a2 a3;refine Gf (F8 (F8 (FY b1 (F8 (F7 fun t6=>F8 (F7 fun t7=>FY b3 (Hd fun t8=>H3 (E8 To) (E7 hp) (by decide) fun t9=>GF e2.1 e2.2 fun ta=>F7 fun tb=>GO (by decide) fun tc=>?_)))))));generalize (mode.fdiv (2^(9+p).toNat)).fmod 2=ab at Si hst⊢;revert ab;refine wrap ?_;intro ab Si hst;show Tr _ _ _ _ _ _;generalize PU:(fun y=>if y=Ye "above" then some (Value.int ab tc) else m2 y)=m3;revert m3;refine wrap ?_;intro m3 PU;have d1:m3 (Ye "mode")=some (.int mode tk):=ae PU b1;have d2:m3 (Ye "code")=some (.int (gG mode j) t):=ae PU b2;have d4:m3 (Ye "figure")=some (.int f t5):=ae PU b4;have d5:m3 (Ye "above")=some (.int ab tc):=ae PU rfl;clear PU b1 b2 b3 b4;have hg2:=di f (b:=2) (by decide);have UO:=gJ hf.1 (b:=2) (c:=4) (by decide) (BW hf.2);refine Gf (F8 (F8 (F8 (F8 (FY d2 (F7 fun u1=>Hx (tA Tg hcz) fun u2=>F8 (F8 (FY d4 (F7 fun u3=>GF (by decide) (by decide) fun u4=>F7 fun u5=>Hx (tA UO.1 UO.2) fun u6=>Hd fun u7=>FY d5 (Hd fun u8=>F8 (F8 (FY d4 (F7 fun u9=>GO (by decide) fun ua=>F8 (F7 fun ub=>F8 (F7 fun uc=>FY d5 (Hx (by decide) fun ud=>Hm fun ue=>Hx (by lia) fun uf=>Hd fun ug=>?_))))))))))))))));refine aa hst ?_;have hmul:0<=f.fmod 2*(3-2*ab)/\ab+f.fmod 2*(3-2*ab)<=3:=by
   have h2:f.fmod 2=0∨f.fmod 2=1:=by lia
   rcases h2 with h2|h2<;>refine aa h2 ?_<;>lia
  have hpw:(16:Int)^(j+1+1)=16^(j+1)*16:=Int.pow_succ ..;refine F6 (RX _ _ _ ⟨n,rfl,⟨d1,⟨ug,rfl⟩,?_,?_⟩,hn⟩)
  ·refine ae hst ?_;exact E9 Tg Si.1 UO.1 hmul.1
  ·refine ae hst (aa hpw ?_);lia
def gn(code:Int):Nat->Str
 |0=>Txt.item (Ye "-?bcdlps") (code.fdiv 4096)
 |j+1=>ey (gn code j) code (2-j) (if j=2 then "-Ttx" else "-Ssx")
def rC(code:Int)(tk:Tok)(x:Str)(m:X7):Prop:=m (Ye "code")=some (.int code tk)/\(∃ t,m (Ye "row")=some (.str x t))/\x.length<=10000
theorem fR(x:Str)(i:Int):(Txt.item x i).length<=1:=K1 1
theorem oH(code:Int)(tk:Tok)(h0:0<=code)(h1:code<32768):dT 3 262 [.int code tk] (fc (ac code)):=by
 refine' GD (binds:=[(Ye "code", .int code tk)]) (by k_is) (by k_is) (by exact fun s X=>LJ rfl) (by exact ba rfl) (by rfl) (by rfl) (by rfl) (by decide) (by exact fun _ _ h=>h.elim) ?_;intro A₀ base dp un gd L outer h₀ os g₀ c E K hE QR hK;have hq:=gJ (b:=4096) (c:=8) h0 (by decide) (EQ h1);refine Gf (Gg (Gc fun t1=>F8 (FY rfl (F7 fun t2=>GF (by decide) (by decide) fun t3=>G5 hq.1 (by exact hq.2) (by decide) fun t4=>?_))));have hg:rC code tk (gn code 0) (fun y=>if y=Ye "row" then some (.str (gn code 0) t4) else[(Ye "code",Value.int code tk)].reverse.lookup y):=⟨rfl,⟨t4,rfl⟩,KH (fR _ _) (by decide)⟩;show Tr c E (fun y=>if y=Ye "row" then some (.str (gn code 0) t4) else _) [] (execs _ c.env) K;generalize (fun y=>if y=Ye "row" then some (Value.str (gn code 0) t4) else _)=m0 at hg⊢;revert m0;refine wrap ?_;intro m0 hg;refine Gu (GH (K₁:=fun fl m n=>fl=.next/\rC code tk (gn code 3) m) ?sF ?sR)
 case sR=>
  rintro _ m n ⟨rfl,hm,⟨t,hc⟩,_⟩;exact GM (FY hc (hK _ _ _ [] (My _) ⟨⟨t,rfl⟩,rfl⟩))
 case sF=>
  intro K2 hK2;refine Hw (fun S j m n=>(rC code tk (gn code j) m/\(gn code j).length<=3*j+1)/\S.ent∈n) QR (GA (F0 (F7 fun a=>F0 (F7 fun b=>F0 (F7 fun d=>FZ ⟨KC rfl,fun T=>⟨.YJ T [.int 2 a, .int 1 b, .int 0 d] 0,rfl,KC rfl,⟨⟨hg,fR _ _⟩, .head _⟩,fun _ _ _ h=> .inl h.2,?turn,fun m n h=>F6 (hK2 _ _ _ ⟨rfl,h.1.1⟩)⟩⟩)))));rintro j x I oI m n KT hj hx ⟨⟨⟨hm,⟨t,hc⟩,_⟩,hl⟩,hn⟩ RX;obtain⟨tp,p,rfl,hp,To,Rw⟩:=pT hx;have hj:j<3:=hj;refine Go ?_;show Tr _ _ _ _ _ _;generalize PU:(fun y=>if y=Ye "power" then some (Value.int p tp) else m y)=m1;revert m1;refine wrap ?_;intro m1 PU;have a1:m1 (Ye "code")=some (.int code tk):=ae PU hm;have a2:m1 (Ye "row")=some (.str (gn code j) t):=ae PU hc;have a3:m1 (Ye "power")=some (.int p tp):=ae PU rfl;clear PU hm hc;have e8:(16:Int)^p.toNat≠0/\((16:Int)^p.toNat).natAbs<1073741824:=sq (P:=fun p=>(16:Int)^p.toNat≠0/\((16:Int)^p.toNat).natAbs<1073741824) To Rw (by decide) (by decide) (by decide);refine Gf (F8 (F8 (FY a1 (F8 (F7 fun t1=>FY a3 (H3 To (by lia) (by decide) fun t2=>GF e8.1 e8.2 fun t3=>F7 fun t4=>GO (by decide) fun t5=>?_))))));have hf:=di (code.fdiv (16^p.toNat)) (b:=16) (by decide);have hst:∀ s,(if j=2 then "-Ttx" else "-Ssx")=s->ey (gn code j) code p s=gn code (j+1):=fun s hs=>aa hp (ae hs rfl);unfold ey at hst;generalize (code.fdiv (16^p.toNat)).fmod 16=f at hf hst⊢;revert f;refine wrap ?_;intro f hf hst;show Tr _ _ _ _ _ _;generalize PU:(fun y=>if y=Ye "four" then some (Value.int f t5) else m1 y)=m2;revert m2;refine wrap ?_;intro m2 PU;have b1:m2 (Ye "code")=some (.int code tk):=ae PU a1;have b2:m2 (Ye "row")=some (.str (gn code j) t):=ae PU a2;have b3:m2 (Ye "power")=some (.int p tp):=ae PU a3;have b4:m2 (Ye "four")=some (.int f t5):=ae PU rfl;clear PU a1 a2 a3;have g8:=gJ hf.1 (b:=8) (c:=2) (by decide) (ER hf.2);have g4:=di (f.fdiv 4) (b:=2) (by decide);have g1:=di f (b:=4) (by decide);have i1:=fR (Ye "-r") (f.fdiv 8);have i2:=fR (Ye "-w") ((f.fdiv 4).fmod 2);have hpn:p=((p.toNat:Nat):Int):=tE To;refine Gf (F8 (F8 (F8 (FY b2 (Gg (Gc fun u1=>F8 (FY b4 (F7 fun u2=>GF (by decide) (by decide) fun u3=>G5 g8.1 (by exact g8.2) (by decide) fun u4=>Gm (by lia) (bd i1) fun u5=>Gg (Gc fun u6=>F8 (F8 (FY b4 (F7 fun u7=>GF (by decide) (by decide) fun u8=>F7 fun u9=>GO (by decide) fun ua=>G5 g4.1 (by exact g4.2) (by decide) fun ub=>Gm (by refine aa (KD _ _) ?_;lia) (bd i2) fun uc=>Gg (Gg (GA (F0 (Gc fun v1=>F0 (Gc fun v2=>F0 (Gc fun v3=>FZ ⟨KC rfl,fun TT=>FY b3 ?_⟩))))))))))))))))));obtain⟨s3,tt,TS,QO,hsj⟩:bW (fun(s3:String) (tt:Tok)=>[Value.str (Ye "-Ttx") v1, .str (Ye "-Ssx") v2, .str (Ye "-Ssx") v3][p.toNat]?=some (.str (Ye s3) tt)) (fun s3 _=>(Ye s3).length=4) (fun s3 _=>(if j=2 then "-Ttx" else "-Ssx")=s3):=by
   have:j=0∨j=1∨j=2:=FK hp To;rcases this with rfl|rfl|rfl<;>(subst hp;exact⟨_,_,rfl,by decide,rfl⟩)
  have i3:=fR (Ye s3) (f.fmod 4);have l2:(gn code j++Txt.item (Ye "-r") (f.fdiv 8)++Txt.item (Ye "-w") ((f.fdiv 4).fmod 2)).length<=3*j+3:=by refine aa (KD _ _) (aa (KD _ _) ?_);exact L3 [_,_,_,_] (.a (.a V0 V2) V3) (.a (.m 3 V1) (.n 3)) 1 V0 (.a (.m 3 V1) W1) 1 V2 W1 1 V3 W1 rfl hl i1 i2
  have l3:(gn code (j+1)).length<=3*(j+1)+1:=by refine ae (hst s3 hsj) (aa (KD _ _) ?_);exact L2 [_,_,_] (.a V1 V0) (.a (.m 3 (.a V2 W1)) W1) 1 V0 W1 1 V1 (.a (.m 3 V2) (.n 3)) rfl i3 l2
  refine Hj (.head _) hpn TS (by exact KC rfl) (F8 (FY b4 (F7 fun v4=>GO (by decide) fun v5=>G5 g1.1 (by refine aa QO ?_;exact g1.2) (by refine aa QO ?_;decide) fun v6=>Gm (by lia) (bd i3) fun v7=>?_)));refine aa (hst s3 hsj) ?_;exact GW (Ls _ _) (F6 (RX _ _ _ ⟨_,rfl,⟨⟨b1,⟨v7,rfl⟩,by lia⟩,l3⟩,hn⟩))
noncomputable def bx (Yh:Yc):Nat->Int->Yc
 |0,_=>[]
 |f+1,s=>if s=-1 then[] else s::bx Yh f (Yh.getD s.toNat (-1))
theorem ej(Yh:Yc)(f:Nat)(s:Int):bx Yh (f+1) s=if s=-1 then[] else s::bx Yh f (Yh.getD s.toNat (-1)):=rfl
def aj(Yh:Yc)(s:Int):Yc:=bx Yh (Yh.length+1) s
def bQ(Yh:Yc):Prop:=∀ i:Nat,i<Yh.length->-1<=Yh.getD i (-1)/\Yh.getD i (-1)<i
theorem ko(Yh:Yc):∀ f,bx Yh f (-1)=[]
 |0=>rfl
 |_+1=>KZ rfl
theorem aI(h:IntsAre vs ns):IntsAre (vs++[.int i t]) (ns++[i]):=by
 induction h with
 |nil=>exact .cons _ _ .nil
 |cons n t h ih=>exact .cons _ _ ih
theorem fQ(h:IntsAre vs ns)(hj:j<ns.length)(d:Int):∃ t,vs[j]?=some (.int (ns.getD j d) t):=by
 obtain⟨t,e⟩:=dr h hj;rw[KU,KL hj] at*;exact⟨t,e⟩
def Cb(Yh:Yc)(s:Int)(hl C:Nat)(Yz:Yb)(kh:Nat)(k:Nat)(m:X7)(n:X6):Prop:=
 xu (fun Yt kc done cur tc fu=>n=[(C,lO Yt kc),(hl,lO Yz kh)]) (fun Yt _ done _ _ _=>IntsAre Yt done) (fun _ _ done _ _ _=>done.length+k<=1001) (fun _ _ done cur _ fu=>aj Yh s=done++bx Yh fu cur) (fun _ _ _ cur _ fu=>cur<(fu:Nat)) (fun _ _ _ cur _ _=>-1<=cur) (fun _ _ _ cur _ _=>cur<Yh.length) (fun _ _ _ cur _ _=>k=(cur+1).toNat) (fun _ _ _ _ _ _=>m (Ye "homes")=some (.ref hl)) (fun _ _ _ _ _ _=>m (Ye "chain")=some (.ref C)) (fun _ _ _ cur tc _=>m (Ye "spot")=some (.int cur tc))
theorem qL(Yh:Yc)(Yz:Yb)(hl kh:Nat)(hh:IntsAre Yz Yh)(Qe:bQ Yh)(hz:Yh.length<=1000)(s:Int)(ts:Tok)(h0:-1<=s)(h1:s<Yh.length):
  bF 3 269 [.ref hl, .int s ts] [(hl,lO Yz kh)] (fun v n'=>eg (fun(C:Nat) (Yt:Yb) (kc:Nat)=>v=.ref C) (fun _ Yt _=>IntsAre Yt (aj Yh s)) (fun C Yt kc=>n'=[(C,lO Yt kc),(hl,lO Yz kh)])) eT:=by
 have Uo:=hh.length;refine' GD (binds:=[(Ye "homes", .ref hl),(Ye "spot", .int s ts)]) (by k_is) (by k_is) (by exact fun s X=>LJ rfl) (by exact ba rfl) (by rfl) (by rfl) (by rfl) (by decide) (by exact fun _ _ h=>h.elim) ?_;intro A₀ base dp un gd L outer h₀ os g₀ c E K hE QR hK;refine Gf (Gx (FZ ⟨K6 _,fun C=>?_⟩));refine Gu (Iy (Cb Yh s hl C Yz kh) QR ?turn (s+1).toNat ⟨[],0,[],s,ts,Yh.length+1,rfl, .nil,by show 0+_<=_;exact Fq h1 hz,rfl,A1 h1,h0,h1,rfl,rfl,rfl,rfl⟩);rintro k m n ⟨Yt,kc,done,cur,tc,fu,rfl,Rj,QA,QF,hfu,Tg,Vo,rfl,mh,mc,ms⟩;refine Gb (FY ms (G6 fun t1=>Kv (F9 ?_)))
 by_cases QP:cur=-1
 ·refine aa (show (cur !=-1)=false by simpa using QP) ?_
  subst QP;rw[ko,Lj] at QF;exact F6 (GM (FY mc (hK _ _ _ _ (.refl _) ⟨C,Yt,kc,rfl,by refine aa QF ?_;exact Rj,rfl⟩)))
 ·refine aa (show (cur !=-1)=true by simpa using QP) ?_
  obtain⟨i,rfl⟩:∃ i:Nat,cur=(i:Int):=⟨cur.toNat,Fe Tg QP⟩;obtain⟨fu,rfl⟩:∃ f,fu=f+1:=⟨fu-1,FL hfu⟩;have hi:i<Yh.length:=FW Vo;obtain⟨th,eh⟩:=fQ hh hi (-1);obtain⟨g0,g1⟩:=Qe i hi;have QW:=Rj.length;have hch2:aj Yh s=(done++[(i:Int)])++bx Yh fu (Yh.getD i (-1)):=by
   refine aa QF (aa (KS _ _ _) ?_);refine congrArg _ ?_;show (if (i:Int)=-1 then[] else(i:Int)::bx Yh fu (Yh.getD (i:Int).toNat (-1)))=_;exact aa (KO QP) (aa (La _) rfl)
  refine⟨(Yh.getD i (-1)+1).toNat,B4 g1,?_⟩;refine Ge (Ga (FY mc (Gj (.head _) Lq Li (Gq (F0 (FY ms (FZ (Gs (pre:=[]) rfl (by exact L2 [_,_,_] V2 (.n 100000) 1 (.a V0 V1) (.n 1001) 1 V2 V0 rfl QA (eL QW)) ?_))))))));refine Gf (Gg (FY mh (FY ms (Gi aK rfl eh (by exact L2 [_,_] V1 (.n 100000) 1 V0 (.n 1000) 1 V1 V0 rfl hz (eL Uo)) ?_))));exact F6 ⟨_,_,_,Yh.getD i (-1),th,fu,rfl,aI Rj,by refine aa KJ ?_;show done.length+1+_<=_;exact tC QA g1,hch2,FM hfu g1,g0,z1 g1 Vo,rfl,mh,mc,rfl⟩
def kQ:Value->Int| .int i _=>i|_=>0
theorem js:∀ {vs:Yb},(∀ v∈vs,l9 (fun i t=>v=.int i t))->IntsAre vs (vs.map kQ)
 |[],_=> .nil
 |v::vs,h=>by
  obtain⟨i,t,rfl⟩:=h v (.head _);exact .cons _ _ (js fun v hv=>h v (.tail _ hv))
section
variable{A:Around}{E:X8}{s:Shared}
theorem qC(hh:A.handled=none)(ho:s.heap.get? a=some o)(hS:bb (PySem.intKind PR w) o PP)(hz:PP.length<=60)
  (h:∀ (R:Nat) PN ns kk h' d,IntsAre PN ns->ns.Perm (PP.map (·.1))->ns.Pairwise (·<=·)->h'.get? R=some (lO PN kk)->(∀ b o,s.heap.get? b=some o->h'.get? b=some o)->s.heap.get? R=none->Q (.ref R) {s with heap:=h',drawn:=d}):
  wpAny MP A (call (.builtin "sorted") [.ref a]) Q E s:=by
 refine Calls.call_function_entry kind_sorted plain_sorted entry_sorted (args_sorted1 _) ?_;unfold Builtin.«sorted»;refine Kz (m:=checkCount "sorted" 1 1 _) (KE ?_);refine Kz (jk hh ho hS (bd hz) fun vs h1 d hp hk=>?_);have hI:IntsAre vs (vs.map kQ):=js fun v hv=>by
  obtain⟨x,hx,rfl⟩:=KK.mp (hp.mem_iff.mp hv);obtain⟨_,_,_,_,_,_,q4,_⟩:=hS.2;obtain⟨t,e⟩:=Value.isInt_shape (q4 x hx);exact⟨x.1,t,e⟩
 have hpn:(vs.map kQ).Perm (PP.map (·.1)):=by
  refine(hp.map kQ).trans (List.Perm.of_eq ?_);refine aa M4 ?_;refine MK fun x hx=>?_;obtain⟨_,_,_,_,_,_,q4,_⟩:=hS.2;obtain⟨t,e⟩:=Value.isInt_shape (q4 x hx);show kQ x.2=x.1;exact aa e rfl
 have hl:vs.length=PP.length:=by have:=hp.length_eq;rwa [KG] at this
 refine Kz (wpAny_newList ?_);have hoL:(h1.push (seqObj "list" vs.toArray 0)).get? h1.objs.size=some (seqObj "list" vs.toArray 0):=Lc _ rfl;refine Kz (Lk (LS slot_list_sort ⟨_,hoL,rfl⟩ OR (list_sort_tree hoL hI (by exact L2 [_,_] (.a V1 W1) (.n 64) 1 V0 (.n 60) 1 V1 V0 rfl hz (eL hl)) fun out ns' a1 a2 a3=>⟨_,rfl,?_⟩) (args_list_sort _)));obtain⟨e,he⟩:=sortedHeap_at (out:=out) hoL;refine KE ⟨_,rfl,h h1.objs.size out.toList ns' e _ d a1 (a2.trans hpn) a3 (by refine aa Array.toArray_toList ?_;exact he) (fun b o hb=>?_) ?_⟩
 ·have UM:=hk b o hb
  refine aa (sortedHeap_old (K8 (KQ UM)) (by rw[size_push'];exact LI (KQ UM))) ?_;exact KN _ UM
 ·cases hq:s.heap.get? h1.objs.size with
  |none=>rfl
  |some o=>exact absurd (KQ (hk _ _ hq)) (Nv _)
end
section
variable{c:Fx}{E:X8}{m:X7}{n pre post:X6}{J:ad Value}{i j:Int}{t u:Tok}
theorem ay.kept(l:ay c s m n)(hk:∀ b o,s.heap.get? b=some o->h'.get? b=some o):ay c ⟨h',s.gens,d,tk,s.os⟩ m n:=
 l.to ⟨l.F.ns.at' fun o e=>hk _ o e,fun b o e=>hk b o (l.F.keep b o e),l.F.above⟩ (fun p hp=>⟨hk _ _ (l.N p hp).1,(l.N p hp).2⟩) l.D l.G rfl
theorem ay.got(l:ay c s m n)(hk:∀ b o,s.heap.get? b=some o->h'.get? b=some o)(hR:h'.get? R=some o)(hn:s.heap.get? R=none):ay c ⟨h',s.gens,d,tk,s.os⟩ m ((R,o)::n):=by
 have l2:=l.kept (d:=d) (tk:=tk) hk;have ne:∀ b o,s.heap.get? b=some o->b≠R:=fun b o e q=>by rw[q,hn] at e;cases e
 refine l2.to l2.F (fun p hp=>?_) (ax.cons.mpr ⟨fun q hq=>ne _ _ (l.N q hq).1,l.D⟩) l2.G rfl;rcases KI.mp hp with rfl|hp
 ·obtain⟨oL,_,_,hL,_⟩:=l.F.ns
  refine⟨hR,fun q=>ne _ _ hL q.symm,?_⟩
  cases hq:c.h₀.get? R with
  |none=>rfl
  |some o=>exact absurd rfl (ne _ _ (l.F.keep _ _ hq))
 ·exact l2.N p hp
def aG(l:Yc):Yc:=l.mergeSort fun a b=>decide (a<=b)
theorem bp(l:Yc):(aG l).Perm l:=List.mergeSort_perm l _
theorem pM(l:Yc):(aG l).Pairwise (·<=·):=by
 have:=List.pairwise_mergeSort (le:=fun a b:Int=>decide (a<=b)) (fun a b d=>by simp only[MJ];exact z4) (fun a b=>by simp only[Bool.or_eq_true,MJ];lia) l;simp only[MJ] at this;exact this
theorem xb(h:ns.Perm l)(hp:ns.Pairwise (·<=·)):ns=aG l:=
 List.Perm.eq_of_pairwise (le:=(·<=·)) (fun a b _ _ h1 h2=>OO h1 h2) hp (pM l) (h.trans (bp l).symm)
noncomputable def dd (ns:Yc):Yc:=ns.foldl (fun PV x=>if x∈PV then PV else PV++[x]) []
def zC(o:Obj)(ks:Yc):Prop:=aO (fun(PP:List (Int×Value))=>bb (PySem.intKind PR w) o PP) (fun PP=>PP.map (·.1)=ks)
theorem qU:∀ (l PP:List (Int×Value)),(l.foldl ck PP).map (·.1)=(l.map (·.1)).foldl (fun PV x=>if x∈PV then PV else PV++[x]) (PP.map (·.1))
 |[],_=>rfl
 |x::l,PP=>by
  (refine aa L9 (aa LB ?_);rw[L9];refine aa (qU l _) ?_)
  congr 1
  unfold ck
  split<;>simp
theorem uv{vs:Yb}{ns:Yc}(h:IntsAre vs ns):fJ (fun(xs:List (Int×Value))=>vs=xs.map (·.2)) (fun xs=>ns=xs.map (·.1)) (fun xs=>∀ p∈xs,∃ t,p.2=.int p.1 t):=by
 induction h with
 |nil=>exact⟨[],rfl,rfl,fun _ h=>absurd h LH⟩
 |cons y t h ih=>
  obtain⟨xs,rfl,rfl,h2⟩:=ih;exact⟨(y, .int y t)::xs,rfl,rfl,fun p hp=>(KI.mp hp).elim (fun e=>⟨t,by exact aa e rfl⟩) (h2 p)⟩
theorem I1(hm:(l,lO vs k)∈n)(hi:IntsAre vs ns)(hz:ns.length<=1000)(h:∀ (S:Nat) o,zC o (dd ns)->J (.ref S) m ((S,o)::n)):Tr c E m n (call (.type "set") [.ref l]) J:=by
 obtain⟨xs,rfl,rfl,hx⟩:=uv hi;refine I5 (knd:=PySem.intKind PR w) hm rfl (fun x U7=>?_) (by rwa [KG] at hz) fun S o hS=>h S o ⟨_,hS,qU xs []⟩;obtain⟨t,e⟩:=hx x U7;refine aa e ?_;exact⟨by simp[PySem.intKind,Value.isInt],rfl⟩
theorem Ig(hm:(a,o)∈n)(hS:zC o ks)(hz:ks.length<=60)(h:∀ (R:Nat) PN kk,IntsAre PN (aG ks)->J (.ref R) m ((R,lO PN kk)::n)):Tr c E m n (call (.builtin "sorted") [.ref a]) J:= .mk fun s l=>by
 obtain⟨PP,hS,rfl⟩:=hS;exact qC rfl (l.N _ hm).1 hS (by rwa [KG] at hz) fun R PN ns kk h' d a1 a2 a3 a4 a5 a6=>⟨m,_,l.got a5 a4 a6,h R PN kk (xb a2 a3▸a1)⟩
theorem Km(h:∀ t',J (.int (if j>i then j else i) t') m n):Tr c E m n (call (.builtin "max") [.int i t, .int j u]) J:= .mk fun s l=>
 max_two_ints rfl fun h' tk hk=>by
  refine⟨m,n,l.kept hk,?_⟩
  split
  ·rename_i q;have:=h u;rw[KZ q] at this;exact this
  ·rename_i q;have:=h t;rw[KO q] at this;exact this
theorem IZ(hm:(a,lO vs k)∈n)(hi:IntsAre vs ns)(P5:0<ns.length)(h:∀ M t',M∈ns->(∀ x∈ns,M<=x)->J (.int M t') m n):Tr c E m n (call (.builtin "min") [.ref a]) J:= .mk fun s l=>
 min_list_N rfl l.F l.N ⟨_,(l.N _ hm).1,rfl,k,rfl⟩ hi P5 fun h' M t tk F N h1 h2=>⟨m,n,l.to F N l.D l.G rfl,h M t h1 h2⟩
theorem It(hi:i.natAbs.log2<1920)(h:∀ t',J (.str (Ye (toString i)) t') m n):Tr c E m n (call (.type "str") [.int i t]) J:= .mk fun s l=>PySem.P.str_of_int hi ⟨m,n,l.tok,h _⟩
theorem Kr(hm:(a,lO vs k)∈n)(hi:IntsAre vs ns)(h:J (.bool (decide (i∈ns))) m n):Tr c E m n (compareOp .In (.int i t) (.ref a)) J:= .mk fun s l=>
 in_list_ints ⟨_,(l.N _ hm).1,rfl,k,rfl⟩ hi ⟨m,n,l,by refine aa (show ns.any (·==i)=decide (i∈ns) by rw[M2];simp) ?_;exact h⟩
theorem JE(hm:(a,lO vs k)∈n)(hi:IntsAre vs ns)(h:J (.bool (decide (i∉ns))) m n):Tr c E m n (compareOp .NotIn (.int i t) (.ref a)) J:= .mk fun s l=>
 notin_list_ints ⟨_,(l.N _ hm).1,rfl,k,rfl⟩ hi ⟨m,n,l,by refine aa (show (!ns.any (·==i))=decide (i∉ns) by rw[M2];simp only[Bool.not_eq_true',List.any_eq_false,Mz,MJ];exact⟨fun h hm=>h i hm rfl,fun h x hx e=>h (e▸hx)⟩) ?_;exact h⟩
theorem Ip(hm:(a,lO vs k)∈n)(hi:IntsAre vs ns)(hz:ns.length<=1000)(hk:i∈ns)(h:∀ t',J (.int (ns.idxOf i:Nat) t') m n):Tr c E m n (call (.builtin "list.index") [.ref a, .int i t]) J:= .mk fun s l=>by
 have QK:=hi.length;have hj:ns.idxOf i<ns.length:=Mw.mpr hk;refine call_meets Od ⟨_,(l.N _ hm).1,rfl⟩ PySem.F.entry_list_index (PySem.F.args_list_index_2 _ _)
  (PySem.SeqAt.list_indexAt a vs.toArray k none #[] (.int i t) (isInt i) (ns.idxOf i) (by simpa [QK] using hj) (Fm hj hz) ?_ ?_) ⟨(l.N _ hm).1,fun y hy=>(eq_isInt i t hi y (by simpa using hy)).at _ _,⟨m,n,l.tok,h _⟩⟩
 ·show isInt i vs[ns.idxOf i]=true
  refine aa (isInt_at i hi _ (q1 hj QK) hj) ?_;simpa using List.getElem_idxOf hj
 ·intro q hjs PW
  show isInt i vs[q]=false;exact aa (isInt_at i hi q (by simpa using hjs) (q9 PW hj)) (ne_of_lt_idxOf PW _)
theorem Je{D b:Addr}{vs ws:Yb}{k k2:Nat}(hn:n=(D,lO vs k)::post)(hb:(b,lO ws k2)∈n)(hz:vs.length+ws.length<=100000)(h:∀ k',J .none m ((D,lO (vs++ws) k')::post)):Tr c E m n (call (.builtin "list.extend") [.ref D, .ref b]) J:= .mk fun s l=>by
 subst hn;have hd:=l.D;refine extend_in (own:=[]) (rest:=post) l.F l.N (fun _ h=>nomatch h) (fun p hp=>hd.ne hp) (l.N _ hb).1 (fun h' k' F N=>⟨m,_,l.to F N (ax.set (pre:=[]) hd) l.G rfl,h k'⟩) (by refine aa Lh (aa Lw ?_);exact bd hz)
theorem H7{a b:Addr}{vs ws:Yb}{k k2:Nat}(ha:(a,lO vs k)∈n)(hb:(b,lO ws k2)∈n)(hz:vs.length+ws.length<=100000)(h:∀ D:Nat,J (.ref D) m ((D,lO (vs++ws) 0)::n)):Tr c E m n (binaryOp .Add (.ref a) (.ref b)) J:= .mk fun s l=>
 add_lists l.F l.N ⟨_,(l.N _ ha).1,rfl,k,rfl⟩ ⟨_,(l.N _ hb).1,rfl,k2,rfl⟩ (fun h' F N=>⟨m,_,l.to F N (l.D.fresh fun p hp=>KQ (l.N p hp).1) l.G rfl,h _⟩) (by refine aa Lh ?_;exact bd hz)
theorem GS(hm:(a,o)∈n)(ho:o.data=.cell (some v))(h:J v m n)(hc:Yl.cells.lookup x=some a:=by rfl)(hk:Yl.scope.kind=.function:=by rfl)(hx:Yl.kindOf x=some .cell:=by rfl)(hd:(x==("__debug__":Str))=false:=by decide):Tr c E m n (eval (.Name x p) Yl) J:= .mk fun s l=>
 qP l.N hk hx hc hm ho ⟨m,n,l,h⟩ hd
abbrev i7:Obj:={cls:= .type "cell",data:= .cell none}
variable{K:ad Flow}{r:Yd}
theorem zX{M:Model}{A:Around}{scope:Scope}{globals:Addr}{cl:List (Str×Addr)}{qual:Str}{code:Value}{outer:Env}{s:Shared}{Q:Env->Shared->Prop}{cx:Str}
  (hc:∀ k PV,cellsFrom k scope.names PV=(cx,k)::PV) (hp:∀ h,pushCells h scope.names=h.push i7)
  (h:Q {scope:=scope,locals:=s.heap.objs.size,globals:=globals,cells:=(cx,s.heap.objs.size+1)::cl,qual:=qual,func:=none,code:=outer.code,frame:=outer.frame,builtins:=outer.builtins} {s with heap:=(s.heap.push {cls:= .type "dict",data:= .dict #[]}).push i7}):
  wpAny M A (newFunctionEnv scope globals cl [] qual none code (some outer)) Q E s:=by
 simp only[newFunctionEnv,Option.isSome_some,if_true];refine Kz (wpAny_alloc ?_);refine Kz (wpAny_layCells _ (fun name kind cells=>by cases hkc:kind==NameKind.cell<;>simp[hkc]) _ _ _ _ ?_);refine aa (hc _ _) (aa (hp _) (aa (show ({s with heap:=s.heap.push {cls:= .type "dict",data:= .dict #[]}}:Shared).heap.objs.size=s.heap.objs.size+1 from L8 ..) ?_));exact aa Ot (Kz (KE (KE h)))
theorem Jb
  (h:Tr c E m n (eval i1 c.env) fun v m' n'=>oh (fun(S:dv) (P:Nat->Nat->X7->Yb->X6->Prop)=>v=S.v) (fun S _=>eS c n' S.ent) (fun S _=>S.N<=90) (fun _ P=>(∀ k,P k 0 (fun _=>none) [] [(k,i7)])) (fun S P=>(∀ k,lX c t1 i2 t2 f2 P2 scope ((cx,k)::cls) c.env S m' n' (P k))) (fun S P=>∀ (k D:Nat) (mC:X7) (PN:Yb) (g:X6) (cD:Nat),P k S.N mC PN g->Tr c E (fun z=>if z=y then some (.ref D) else m' z) ((D,lO PN cD)::(g++n')) (execs r c.env) K))
  (hcx:∀ k PV,cellsFrom k scope.names PV=(cx,k)::PV:=by intro _ _;rfl) (UZ:∀ h,pushCells h scope.names=h.push i7:=by intro _;rfl)
  (Ry:swapsWith (.ListComp P2 [⟨t1,i1,[],0⟩,⟨t2,i2,f2,0⟩] scope pos) (some (.Name y py)) Rb.line c.env=Pure.pure true:=by rfl)
  (Ql:closureFor scope c.env=Pure.pure cls:=by rfl) (P6:scope.kind=.function:=by rfl) (P9:∀ x∈scope.names,x.2=.local->scope.names.lookup x.1=some .local:=by decide)
  (hy:c.env.kindOf y=some .local:=by rfl) (hp:(c.env.scope.kind== .class||(c.env.scope.kind== .module&&c.env.locals !=c.env.globals))=false:=by rfl) (R0:∀ x,foldedSetIterable i1 c.env x=Pure.pure x:=by intro _;rfl) (Vt:∀ k C x,foldedSetIterable i2 (compEnvC scope ((cx,k)::cls) C c.env) x=Pure.pure x:=by intro _ _ _;rfl):
  Tr c E m n (execs (.Assign [.Name y py] (.ListComp P2 [⟨t1,i1,[],0⟩,⟨t2,i2,f2,0⟩] scope pos) Rb::r) c.env) K:= .mk fun s l=>by
 refine Lr ?_;refine aa (Oz _ _ _ _ Ry) ?_;refine Kz (LG (Kz ?_));show wpAny _ c.A (do let _←comprehension (.ListComp P2 [⟨t1,i1,[],0⟩,⟨t2,i2,f2,0⟩] scope pos) scope c.env _ (newList []) false (eval i1 c.env) (some (assign (.Name y py) c.env))) _ _ s;refine Kz (K9 (wpAny_comprehension_free (g:=⟨t1,i1,[],0⟩) (gs:=[⟨t2,i2,f2,0⟩]) (use:=some (assign (.Name y py) c.env)) (Q:=fun _ s'=>bE (fun m' n'=>ay c s' m' n') (fun m' n'=>Tr c E m' n' (execs r c.env) K)) rfl R0 Ql P6 P9 (up (h s l) fun v s' hv=>?_)) (fun _ s' hq=>?_) fun _ _ e=>e)
 ·obtain⟨m',n',l',S,P,rfl,hm,hz,SB,turn,last⟩:=hv
  refine S.iter l' hm (bd hz) fun I oI h1 fp St src hI PW l1 Ts hst Qh Ul=>LY (zX hcx UZ ?_);dsimp only;have hD:(h1.push (listOf #[] 0)).objs.size=h1.objs.size+1:=L8 _ _;show codeAny MP c.A (.compStart _ 0 (.ref I) (.ref h1.objs.size) (compEnvC scope ((cx,(h1.push (listOf #[] 0)).objs.size+1)::cls) (h1.push (listOf #[] 0)).objs.size c.env)) (compPost MP c.A E (some (assign (.Name y py) c.env)) _ (.ref h1.objs.size) (h1.push (listOf #[] 0)).objs.size) _;have l2:=((l1.push (listOf #[] 0)).push {cls:= .type "dict",data:= .dict #[]}).push i7;dsimp only at l2;have hC:((h1.push (listOf #[] 0)).push {cls:= .type "dict",data:= .dict #[]}).objs.size=(h1.push (listOf #[] 0)).objs.size+1:=L8 _ _;rw[hC] at l2;rw[hD] at l2⊢;have xC:bw ({cls:= .type "dict",data:= .dict #[]}:Obj) (fun _=>none):=⟨#[],0,rfl,fun _ he=>by simp at he,fun _=>rfl⟩;generalize hKe:h1.objs.size+1+1=kA at l2⊢;generalize hCe:h1.objs.size+1=C at l2⊢;generalize TJ:h1.objs.size=D at l2⊢;have l3:ay c _ m' (db I oI C {cls:= .type "dict",data:= .dict #[]} D [] 0 ([(kA,i7)]++n')):=l2.perm ((be [_,_,_] (be [_] (be [_] (.refl _)))).trans (.cons _ (.cons _ (.refl _))));clear l2;have SX:C≠I:=l3.D.ne (.head _);have turnB:=lX.toB (scope:=scope) (pos:=pos) (i1:=i1) hz (turn kA) (Vt kA);refine gV (Yl:=compEnvC scope ((cx,kA)::cls) C c.env) (src:=src) (L:=c.L) (h₀:=c.h₀) (m:=m') rfl rfl rfl (fun it=>jY ..) rfl rfl rfl Ts
   (fun j mC PY=>eg (fun PN g cD=>PY=(D,lO PN cD)::(g++n')) (fun PN g _=>(P kA j mC PN g/\PN.length<=1000*j)) (fun _ _ _=>∀ oI oC:Obj,ax ((I,oI)::(C,oC)::PY))) (fun g _=>c.Gp g) ?st0 SX xC l3.F l3.N l3.G ⟨[],_,0,rfl,⟨SB kA,K6 _⟩,fun _ _=>l3.D⟩ ?_ ?_ ?_
  case st0=>exact Ts.W.frame _ _ _ hst fun b _ o e=>KN _ (KN _ (KN _ e))
  ·rintro j mC PY ⟨PN,g,cD,rfl,hp,Q7⟩
   refine⟨fun p Yy=>(Q7 oI oI).ne (.tail _ Yy),fun b hb QJ=>?_⟩;have e:=Ul b hb QJ;have h2:eS c ((D,lO PN cD)::(g++n')) S.ent:=hm.imp (fun q=> .tail _ (KB _ q)) id;rw[←e] at h2;exact h2
  ·rintro j v mC oC PY Q3 h2 g2 d2 So hj hv xC ⟨PN,g,cD,rfl,hp,Q7⟩ hg F2 N2
   intro E';have l4:ay c ⟨h2,g2,d2,So,s'.os⟩ m' (db I Q3 C oC D PN cD (g++n')):=l'.to F2 N2 (Q7 Q3 oC) hg rfl;have Tw:∀ {s4:Shared} {m4 n4},ay c s4 m4 n4->fH I Q3 C D n' m' (fun mC PN g=>P kA (j+1) mC PN g/\PN.length<=1000*(j+1)) m4 n4->
     fG c.h₀ c.L I C m' Q3 (fun mC PY=>eg (fun PN g cD=>PY=(D,lO PN cD)::(g++n')) (fun PN g _=>(P kA (j+1) mC PN g/\PN.length<=1000*(j+1))) (fun _ _ _=>∀ oI oC:Obj,ax ((I,oI)::(C,oC)::PY))) s'.os (fun g _=>c.Gp g) s4:=by
    rintro s4 m4 n4 lx ⟨rfl,Qq,RL,SU,cD',g',SR,QC,TK⟩;have l5:=lx.perm QC;exact i8 l5.F l5.N SR ⟨_,_,_,rfl,TK,fun _ _=>l5.D⟩ l5.G (l5.O.trans l'.O.symm)
   refine am (turnB E' j v PN g I D C Q3 oC mC cD hj hv hp xC _ l4) fun _ s3 m2 n2 l7 q=>?_;refine am (q s3 l7) fun t s4 m6 n6 l6 q4=>?_
   cases t with
   |false=>exact rW (Tw l6 q4)
   |true=>
    refine kG (am (q4 s4 l6) fun _ s5 m5 n5 l5 q5=>?_);exact Tw l5 q5
  ·rintro h2 g2 d2 So mC oC PY xC ⟨PN,g,cD,rfl,hq,Q7⟩ hg F2 N2
   have l5:ay c ⟨h2,g2,d2,So,s'.os⟩ m' ((D,lO PN cD)::(g++n')):=l'.to F2 (iM N2) (Q7 oI oC).tail.tail hg rfl;refine gi (h₀:=c.h₀) (L:=c.L) (Q:=fun _ s'=>bE (fun m' n'=>ay c s' m' n') (fun m' n'=>Tr c E m' n' (execs r c.env) K)) hy rfl hp m' D C oC mC _ _ xC F2 N2 (fun p hp=>(Q7 oI oC).tail.ne hp) fun h3 tk F3 N3=>⟨_,_,l5.to F3 N3 l5.D l5.G rfl,last kA D mC PN g cD hq.1⟩
 ·obtain⟨m',n',l',q⟩:=hq
  exact KE (KE (q s' l'))
end
section
variable{A:Around}{E:X8}{s:Shared}{h₀:Heap}{L a:Addr}{m:X7}{news:X6}{Q:X8}
theorem vn(F:Fr h₀ L s.heap m)(N:News h₀ L s.heap (pre++(a,listOf #[.ref x, .ref y] n)::post))(QY:∀ p∈pre++post,p.1≠a)
  (hx:(x,bm (.str p1 t1) y1 n1)∈pre++post) (hy:(y,bm (.str p2 t2) y2 n2)∈pre++post) (P5:p1≠p2)
  (h:∀ h' c,Fr h₀ L h' m->News h₀ L h' (pre++(a,listOf (bT (decide (p2.cps.toList<p1.cps.toList)) (.ref x) (.ref y)) c)::post)->Q .none {s with heap:=h'}):wpAny MP A (call (.builtin "list.sort") [.ref a]) Q E s:=by
 have hm:=N (a,listOf #[.ref x, .ref y] n) (KB _ (.head _));have N0:News h₀ L s.heap (pre++post):=fun p hp=>N p (by
  rcases KM.mp hp with hp|hp
  ·exact KA _ hp
  ·exact KB _ (.tail _ hp))
 refine LS slot_list_sort ⟨_,hm.1,rfl⟩ OR ?_ (args_list_sort _);refine kat_list_sort (vs:=[.ref x, .ref y]) F N0 hm.1 hm.2.1 hm.2.2 QY (by show (2:Nat)<=2;decide) (by show (2:Nat)<64;decide) fun e1 h' F' N'=>?_;have gx:=(N' _ (.tail _ hx)).1;have gy:=(N' _ (.tail _ hy)).1;refine kat_kind (fs:=[.str p1 t1, .str p2 t2]) (T:= .type "str") (KatTups.cons gx rfl rfl rfl (KatTups.cons gy rfl rfl rfl KatTups.nil)) (by show 0<2;decide) (fun v hv=>?_) (by decide) ?_
 ·rcases KI.mp hv with rfl|hv
  ·exact .now
  ·refine aa (KF.mp hv) ?_;exact .now
 show kas_ask PR w A.in1 _ [.ref x, .ref y] 1 0 _ _;refine kat_lt gy rfl gx rfl ?_;refine kat_cons (wpAny_eqBool_str ?_);have hd:decide (p2=p1)=false:=K0 fun e=>P5 e.symm;have hb:(p2==p1)=false:=LN.mpr fun e=>P5 e.symm;simp only[hd];refine kat_no ?_;refine aa (show ((Value.type "str" !=Value.type "tuple")&&(0:Nat)==0)=true from by decide) ?_;refine oneLt_str ?_;have U:UpdF a (seqObj "list" #[] e1) ((a,seqObj "list" #[] e1)::(pre++post)) (fun o'=>(a,o')::(pre++post)):= .head QY;have fin:∀ (b:Bool) (out:Yb),List.toArray out=bT b (.ref x) (.ref y)->KasFin h₀ L m a e1 out (fun s3=>(fun fin s'=>∃ v,fin=PySem.Fin.done (.ret v)/\Q v s') (.done (.ret .none)) s3) {s with heap:=h'}∨¬b=decide (p2.cps.toList<p1.cps.toList):=fun b out e=>by
  by_cases hb:b=decide (p2.cps.toList<p1.cps.toList)
  ·left
   subst hb;refine KasFin.intro F' N' U fun h2 c F2 N2=>⟨_,rfl,h h2 c F2 ?_⟩;rw[e] at N2;exact gk N2 Lf.symm
  ·exact .inr hb
 cases hb:decide (p2.cps.toList<p1.cps.toList) with
 |true=>
  refine(fin true _ ?_).resolve_right (fun q=>q hb.symm);have e01:(#[0,1]:Array Nat).swapIfInBounds 0 1=#[1,0]:=by decide
  simp[kas_rev,mirror,List.range,List.range.loop,e01,bT]
 |false=>
  refine(fin false _ ?_).resolve_right (fun q=>q hb.symm);simp[List.range,List.range.loop,bT]
theorem lQ{l:Addr}{vs:Yb}(hl:s.heap.IsList l vs.toArray)(hz:vs.length<=1000)
  (h:∀ (R:Nat) h',(∀ b o,s.heap.get? b=some o->h'.get? b=some o)->h'.get? R=some (lO vs 0)->s.heap.get? R=none->wpAny MP A.in1 (call (.builtin "list.sort") [.ref R]) (fun _ s'=>Q (.ref R) s') E {s with heap:=h'}):
  wpAny MP A (call (.builtin "sorted") [.ref l]) Q E s:=by
 refine Calls.call_function_entry kind_sorted plain_sorted entry_sorted (args_sorted1 _) ?_;unfold Builtin.«sorted»;refine Kz (m:=checkCount "sorted" 1 1 _) (KE ?_);refine Kz (collect_list hl ?_ (by refine aa Lh ?_;exact bd hz));refine Kz (wpAny_newList ?_ (by refine aa Lh ?_;exact bd hz));have Qh:((s.heap.push (seqObj "list" #[] 0)).update s.heap.objs.size (Obj.mapSeq (·++vs.toArray))).objs.size=s.heap.objs.size+1:=by
  exact aa (Heap.size_update _ _ _) (aa (size_push' _ _) rfl)
 have hk:∀ b o,s.heap.get? b=some o->(((s.heap.push (seqObj "list" #[] 0)).update s.heap.objs.size (Obj.mapSeq (·++vs.toArray))).push (seqObj "list" vs.toArray 0)).get? b=some o:=fun b o hb=>by
  have PW:b<s.heap.objs.size:=KQ hb;refine aa (Heap.get?_push_ne _ _ _ (by rw[Qh];exact K8 (LI PW))) (aa (Heap.get?_update_ne _ _ _ _ (K8 PW)) (aa (Heap.get?_push_ne _ _ _ (K8 PW)) ?_));exact hb
 refine Kz (Lk (K9 (h _ _ hk (Lc _ rfl) ?_) (fun _ s' q=>KE ⟨_,rfl,q⟩) fun _ _ e=>e));refine aa Qh ?_
 cases hq:s.heap.get? (s.heap.objs.size+1) with
 |none=>rfl
 |some o=>exact absurd (KQ hq) (MZ.mpr (MG _))
inductive tD(g:X6):Value->Str×Int->Prop
 |mk (a:Nat) (x:Str) (i:Int) (t u:Tok):(a,bm (.str x t) (.int i u) 0)∈g->tD g (.ref a) (x,i)
abbrev ce(g:X6):Yb->List (Str×Int)->Prop:=eC (tD g)
end
theorem ce.snoc(h:(a,bm (.str x t) (.int i u) 0)∈g)(y:ce g vs ps):ce g (vs++[.ref a]) (ps++[(x,i)]):=eC.snoc (.mk a x i t u h) y
theorem ce.mono(h:∀ p∈g,p∈g')(y:ce g vs ps):ce g' vs ps:=eC.mono (fun _ _ ⟨a,x,i,t,u,m⟩=> .mk a x i t u (h _ m)) y
theorem ce.at{g:X6}{vs:Yb}{ps:List (Str×Int)}{j:Nat}{v:Value}(y:ce g vs ps)(h:vs[j]?=some v):mf (fun(a:Nat) (x:Str) (i:Int) (t u:Tok)=>v=.ref a) (fun a x i t u=>(a,bm (.str x t) (.int i u) 0)∈g) (fun _ x i _ _=>ps[j]?=some (x,i)):=by
 obtain⟨p,e,a,x,i,t,u,m⟩:=eC.at y h;exact⟨a,x,i,t,u,rfl,m,e⟩
noncomputable def bv:List (Str×Int)->List (Str×Int)
 |[x,y]=>if y.1.cps.toList<x.1.cps.toList then[y,x] else[x,y]
 |l=>l
theorem nE(l:List (Str×Int)):(bv l).length=l.length:=by
 match l with
 |[]=>rfl
 |[x]=>rfl
 |[x,y]=>show (if y.1.cps.toList<x.1.cps.toList then[y,x] else[x,y]).length=2;split<;>rfl
 |x::y::z::r=>rfl
section
variable{c:Fx}{E:X8}{m:X7}{n:X6}{J:ad Value}
theorem Ir(hm:(l,lO vs k)∈n)(hp:ce n vs ps)(hz:ps.length<=2)(RS:(ps.map (·.1)).Nodup)
  (h:∀ (R:Nat) RO k',ce n RO (bv ps)->J (.ref R) m ((R,lO RO k')::n)):Tr c E m n (call (.builtin "sorted") [.ref l]) J:= .mk fun s l0=>by
 have hL:s.heap.IsList l vs.toArray:=⟨_,(l0.N _ hm).1,rfl,k,rfl⟩
 cases hp with
 |nil=>
  refine PyProof.Rows.sorted_ints hL .nil (by decide) fun out ns' a1 a2 a3=>?_;obtain⟨e,he⟩:=sortedAll_at s.heap [] out;have Wm:out=#[]:=by
   have:ns'=[]:=List.perm_nil.mp a2;subst this
   cases out with|mk l=>cases a1;rfl
  subst Wm;exact⟨m,_,l0.got (d:=s.drawn) (tk:=s.toks) (fun b o hb=>sortedAll_old hb) he (by
   cases hq:s.heap.get? (s.heap.objs.size+1) with
   |none=>rfl
   |some o=>exact absurd (KQ hq) (MZ.mpr (MG _))),h _ [] _ .nil⟩
 |cons g1 r=>
  obtain⟨a1,x1,i1,t1,u1,h1⟩:=g1
  cases r with
  |nil=>
   refine lQ hL (KC rfl) fun R h' hk hR hn=>?_;have l1:=l0.got (d:=s.drawn) (tk:=s.toks) hk hR hn;exact pN l1.F l1.N (e9 [] rfl l1.D) fun h2 c2 F N=>⟨m,_,l1.to F N (ax.set (pre:=[]) l1.D) l1.G rfl,h R _ c2 (.cons (.mk a1 x1 i1 t1 u1 h1) .nil)⟩
  |cons g2 r=>
   obtain⟨a2,x2,i2,t2,u2,h2⟩:=g2
   cases r with
   |cons _ _=>exact absurd hz (by simp)
   |nil=>
    refine lQ hL (KC rfl) fun R h' hk hR hn=>?_;have l1:=l0.got (d:=s.drawn) (tk:=s.toks) hk hR hn;have hd:=l1.D;have P5:=(Ly.mp RS).1;refine vn (pre:=[]) (post:=n) l1.F l1.N (fun p hp=>hd.ne hp) h1 h2 (fun e=>P5 (by refine aa LB (aa OV ?_);exact KF.mpr e)) fun h3 c3 F N=>⟨m,_,l1.to F N (ax.set (pre:=[]) hd) l1.G rfl,?_⟩;have h':∀ RO k',ce n RO (if x2.cps.toList<x1.cps.toList then[(x2,i2),(x1,i1)] else[(x1,i1),(x2,i2)])->J (.ref R) m ((R,lO RO k')::n):=fun RO k' hp=>h R RO k' hp;unfold bT
    by_cases PW:x2.cps.toList<x1.cps.toList
    ·rw[KZ PW] at h'
     exact aa (KY PW) (h' [.ref a2, .ref a1] c3 (.cons (.mk a2 x2 i2 t2 u2 h2) (.cons (.mk a1 x1 i1 t1 u1 h1) .nil)))
    ·rw[KO PW] at h'
     exact aa (K0 PW) (h' [.ref a1, .ref a2] c3 (.cons (.mk a1 x1 i1 t1 u1 h1) (.cons (.mk a2 x2 i2 t2 u2 h2) .nil)))
variable{rest:X6}
theorem eE.post(h:eE k f as n P Rs)(hp:∀ v n',P v n'->P' v n'):eE k f as n P' Rs:=
 fun c E m rest J hk hJ hR=>h c E m rest J hk (fun v n' q=>hJ v n' (hp v n' q)) hR
theorem Hz{k:Nat}{f:Addr}{args:Yb}{F:X6}{Q:Value->X6->Prop}(d:bF k f args F (fun v n'=>aO (fun x=>Q v x) (fun x=>n'=x++F)) eT)(hp:n.Perm (F++rest))(hk:k<=c.k)(h:∀ v x,Q v x->J v m (x++n)):Tr c E m n (call (.ref f) args) J:= .mk fun s l=>by
 have h1:=d.to c E m rest (fun v m' n'=>fJ (fun x=>Q v x) (fun _=>m'=m) (fun x=>n'=x++(F++rest))) hk (fun v n' hv=>by
  obtain⟨x,hq,e⟩:=hv;exact⟨x,hq,rfl,by exact aa e (aa (KS _ _ _) rfl)⟩) dC.no s (l.perm hp)
 refine up h1 fun v s' hv=>?_;obtain⟨m',n',l',x,hq,e1,e2⟩:=hv;subst e1 e2;exact⟨m',x++n,l'.perm (hp.symm.append_left x),h v x hq⟩
theorem jA:∀ {l:List α},x∈l->∃ r,l.Perm ([x]++r)
 |_,h=>by
  obtain⟨s,t,rfl⟩:=List.append_of_mem h;exact⟨s++t,Lf⟩
theorem fN(Qe:bQ Yh):∀ (f:Nat) (s:Int),-1<=s->s<Yh.length->∀ o∈bx Yh f s,0<=o/\o<Yh.length
 |0,_,_,_,o,h=>nomatch h
 |f+1,s,h0,h1,o,h=>by
  rw[ej] at h
  by_cases hs:s=-1
  ·rw[KZ hs] at h;cases h
  ·rw[KO hs] at h
   obtain⟨g0,g1⟩:=Qe s.toNat (mN h0 hs h1);rcases KI.mp h with rfl|h
   ·exact EX h0 h1 hs
   ·exact fN Qe f _ g0 (vt h0 hs h1 g1) o h
theorem dF(Qe:bQ Yh):∀ (f:Nat) (s:Int),-1<=s->s<Yh.length->(bx Yh f s).length<=(s+1).toNat
 |0,_,_,_=>K6 _
 |f+1,s,h0,h1=>by
  refine aa (ej _ _ _) ?_
  by_cases hs:s=-1
  ·exact aa (KZ hs) (K6 _)
  ·refine aa (KO hs) ?_
   obtain⟨g0,g1⟩:=Qe s.toNat (mN h0 hs h1);have:=dF Qe f _ g0 (vt h0 hs h1 g1);refine aa Le ?_;exact Fs h0 hs g1 this
end
theorem Ii{k:Nat}{f:Addr}{as:Args}{n:X6}{P:Value->X6->Prop}{Rs:Str->X6->Prop}
  {name qual:Str} {params:Arguments} {body:Yd} {scope:Scope} {dV kV doc pm PX ct oc:Value} {an od:Option Addr} {RN:Array (Option Value)} {binds:List (Str×Value)}
  (ho:(ao w.params).lookup f=some ⟨oc,od, .func (fnOf name qual params body scope dV kV doc pm an PX ct),RN⟩) (Q1:codeIn (ao w.params) PX qual=true)
  (Qx:∀ s:Shared,(ao w.params).In s.heap->BindsTo s (fnOf name qual params body scope dV kV doc pm an PX ct) as binds) (P6:(binds.all fun y=>scope.names.lookup y.1==some .local||scope.names.lookup y.1==some .cell)=true) (RS:((cellsFrom 0 scope.names []).map (·.1)).Nodup)
  (Q2:scope.isCoroutine=false) (QX:scope.isGenerator=false) (hk:scope.kind=.function)
  (Sj:∀ L cells,CellsAre (bindC (envOfC qual scope L f PX).kindOf binds fun _=>none) (cellsFrom (L+1) scope.names []) cells->ax cells/\∀ p∈cells,L<p.1)
  (RA:∀ PQ Yr,Rs PQ Yr->∀ q∈Yr,q.1∈n.map (·.1))
  (hb:∀ A₀ base dp un gd L outer h₀ os g₀,let c:Fx:=⟨A₀,base,k,dp,un,gd,qual,scope,L,f,PX,cellsFrom (L+1) scope.names [],outer,h₀,os,g₀⟩;∀ E (K:ad Flow) cells,jF Rs c E->PassesOwn MP c.A c.env E->(∀ fl m n' PS,PS.Sublist n'->P (cw fl) PS->K fl m n')->CellsAre (bindC (envOfC qual scope L f PX).kindOf binds fun _=>none) (cellsFrom (L+1) scope.names []) cells->
   Tr c E (bindL (envOfC qual scope L f PX).kindOf binds fun _=>none) (cells++n) (execs body c.env) K):
  eE (k+1) f as n P Rs:=by
 intro c E m rest J QB hJ hR s l;obtain⟨Qv,mg,mb,T⟩:=l.T;have hd:=l.hd;have hu:=l.hu;refine kD l.B l.F l.X l.N T rfl rfl l.hk (fun p hp=>KA rest hp) ho Q1 (by show c.dp<recursionLimit;exact iS hd) (Qx s (l.X.keeps l.F.keep)) P6 RS ?_ Q2 QX hk;intro g L' h₁ Tx cells FG F' N' Y' B' X' T' PW hg hn;have QL:∀ p∈rest,p∈n++rest/\∀ q∈n,q.1≠p.1:=fun p hp=>⟨KB _ hp,fun q hq=>l.D.apart q hq p hp⟩;have RC:∀ p∈rest,g.get? p.1=some p.2/\p.1≠c.L:=fun p hp=>⟨hg p (QL p hp).1 (QL p hp).2,(l.N p (QL p hp).1).2.1⟩;have l0:ay (⟨c.A,c.base,k,c.dp+1,c.un+3,c.gd,qual,scope,L',f,PX,cellsFrom (L'+1) scope.names [],c.env::c.outer,g,c.os,s.gens⟩:Fx) {s with heap:=h₁,toks:=Tx} (bindL (envOfC qual scope L' f PX).kindOf binds fun _=>none) (cells++n):=
  ⟨B',X',⟨_,_,_,T'⟩,hk,tZ QB hd,vw QB hu,F',N',(Sj L' cells Y').1.append l.D.left fun p hp q hq e=>absurd (PW q (KA _ hq)) (e▸MZ.mpr (LF ((Sj L' cells Y').2 p hp))),⟨l.G.1,fun _=>rfl⟩,l.O⟩
 refine K9 (hb c.A c.base (c.dp+1) (c.un+3) c.gd L' (c.env::c.outer) g c.os s.gens _ (fun fl _ n'=>aO (fun PS=>PS.Sublist n') (fun PS=>P (cw fl) PS)) cells ?_ ?pas (fun _ _ _ PS a b=>⟨PS,a,b⟩) Y' _ l0) ?_ fun _ _ e=>e
 case pas=>passes_own
 ·exact @jF.mk _ _ _ _ _ _ _ hR B' FG RC RA hn rfl rfl rfl
 ·rintro fl s' ⟨m',n',l',q⟩
  cases fl<;>exact Hh l hJ QL RC l' q rfl (pH QB) fun v m' n' a b=>⟨m',n',a,b⟩
structure oq where
 A₀:Around
 base:Heap
 dp:Nat
 un:Nat
 gd:Option (List Code)
 L:Addr
 outer:List Env
 h₀:Heap
 os:OsState
 g₀:Array GenState
 E:X8
 K:ad Flow
theorem xL:Nonempty oq:=⟨⟨callerA,default,0,0,none,0,[],default,default,#[],fun _ _=>True,fun _ _ _=>True⟩⟩
noncomputable def oq.fx (i:oq) (k:Nat) (qual:Str) (scope:Scope) (f:Addr) (PX:Value):Fx:=⟨i.A₀,i.base,k,i.dp,i.un,i.gd,qual,scope,i.L,f,PX,cellsFrom (i.L+1) scope.names [],i.outer,i.h₀,i.os,i.g₀⟩
def MB(k:Nat)(qual:Str)(scope:Scope)(f:Addr)(PX:Value)(n:X6)(P:Value->X6->Prop)(Rs:Str->X6->Prop)(binds:List (Str×Value))(body:Yd)(i:oq):Prop:=
 ∀ cells,jF Rs (i.fx k qual scope f PX) i.E->PassesOwn MP (i.fx k qual scope f PX).A (i.fx k qual scope f PX).env i.E->(∀ fl m n' PS,PS.Sublist n'->P (cw fl) PS->i.K fl m n')->CellsAre (bindC (envOfC qual scope i.L f PX).kindOf binds fun _=>none) (cellsFrom (i.L+1) scope.names []) cells->
  Tr (i.fx k qual scope f PX) i.E (bindL (envOfC qual scope i.L f PX).kindOf binds fun _=>none) (cells++n) (execs body (i.fx k qual scope f PX).env) i.K
theorem HD{k:Nat}{f:Addr}{as:Args}{n:X6}{P:Value->X6->Prop}{Rs:Str->X6->Prop}
  {name qual:Str} {params:Arguments} {body:Yd} {scope:Scope} {dV kV doc pm PX ct oc:Value} {an od:Option Addr} {RN:Array (Option Value)} {binds:List (Str×Value)}
  (ho:(ao w.params).lookup f=some ⟨oc,od, .func (fnOf name qual params body scope dV kV doc pm an PX ct),RN⟩) (Q1:codeIn (ao w.params) PX qual=true)
  (Qx:∀ s:Shared,(ao w.params).In s.heap->BindsTo s (fnOf name qual params body scope dV kV doc pm an PX ct) as binds) (P6:(binds.all fun y=>scope.names.lookup y.1==some .local||scope.names.lookup y.1==some .cell)=true) (RS:((cellsFrom 0 scope.names []).map (·.1)).Nodup)
  (Q2:scope.isCoroutine=false) (QX:scope.isGenerator=false) (hk:scope.kind=.function)
  (Sj:∀ L cells,CellsAre (bindC (envOfC qual scope L f PX).kindOf binds fun _=>none) (cellsFrom (L+1) scope.names []) cells->ax cells/\∀ p∈cells,L<p.1)
  (RA:∀ PQ Yr,Rs PQ Yr->∀ q∈Yr,q.1∈n.map (·.1))
  (hb:∀ i,MB k qual scope f PX n P Rs binds body i):eE (k+1) f as n P Rs:=
 Ii ho Q1 Qx P6 RS Q2 QX hk Sj RA fun A₀ base dp un gd L outer h₀ os g₀ E K cells=>hb ⟨A₀,base,dp,un,gd,L,outer,h₀,os,g₀,E,K⟩ cells
noncomputable def ro(o:Obj):Scope:=match o.data with| .func r=>r.scope|_=>default
noncomputable def cK (Yg means:Yc) (s:Nat):Yc:=[Yg.getD s 0,means.getD s 0].filter fun c=>decide (0<=c)
noncomputable def aQ (Yg means:Yc):List Yc:=(List.range Yg.length).map (cK Yg means)
inductive tf(g:X6):Value->Yc->Prop
 |mk (a:Nat) (ws:Yb) (k:Nat) (u:Yc):(a,lO ws k)∈g->IntsAre ws u->tf g (.ref a) u
abbrev c8(g:X6):Yb->List Yc->Prop:=eC (tf g)
theorem c8.mono(h:∀ p∈g,p∈g')(y:c8 g vs us):c8 g' vs us:=eC.mono (fun _ _ ⟨a,ws,k,u,m,i⟩=> .mk a ws k u (h _ m) i) y
theorem c8.snoc(h:(a,lO ws k)∈g)(i:IntsAre ws u)(y:c8 g vs us):c8 g (vs++[.ref a]) (us++[u]):=eC.snoc (.mk a ws k u h i) y
theorem c8.at(y:c8 g vs us)(h:j<us.length):eg (fun(a:Nat) (ws:Yb) (k:Nat)=>vs[j]?=some (.ref a)) (fun a ws k=>(a,lO ws k)∈g) (fun _ ws _=>IntsAre ws (us.getD j [])):=by
 obtain⟨_,u,e,e2,a,ws,k,_,m,i⟩:=eC.at' y h;exact⟨a,ws,k,e,m,by refine aa KU (aa e2 ?_);exact i⟩
theorem lK(f:Nat->α)(j:Nat):(List.range (j+1)).map f=(List.range j).map f++[f j]:=aa List.range_succ (aa KP rfl)
theorem bD(ns:Yc)(h:i<ns.length):ns.take (i+1)=ns.take i++[ns.getD i 0]:=by
 exact aa Mn (aa KU (aa (KL h) rfl))
theorem bX(h:IntsAre vs ns)(hx:vs[i]?=some x):i<ns.length/\∃ t,x=.int (ns.getD i 0) t:=by
 have hl:=h.length;have hi:i<ns.length:=by
  have:=(Ll.mp hx).1;exact q2 this hl
 obtain⟨t,e⟩:=dr h hi;rw[e] at hx
 cases hx;exact⟨hi,t,rfl⟩
structure tJ(Yg Yh means marks:Yc)(L cl hl bR Yu:Nat)(Z:X6):Prop where
 cc:aO (fun(o:Obj)=>(L+1,o)∈Z) (fun o=>o.data=.cell (some (.ref cl)))
 mc:aO (fun(o:Obj)=>(L+2,o)∈Z) (fun o=>o.data=.cell (some (.ref bR)))
 lc:bE (fun(vs:Yb) (k:Nat)=>(cl,lO vs k)∈Z) (fun vs _=>IntsAre vs Yg)
 lh:bE (fun(vs:Yb) (k:Nat)=>(hl,lO vs k)∈Z) (fun vs _=>IntsAre vs Yh)
 lm:bE (fun(vs:Yb) (k:Nat)=>(bR,lO vs k)∈Z) (fun vs _=>IntsAre vs means)
 la:bE (fun(vs:Yb) (k:Nat)=>(Yu,lO vs k)∈Z) (fun vs _=>IntsAre vs marks)
theorem tJ.mono(h:tJ Yg Yh means marks L cl hl bR Yu Z)(hz:∀ p∈Z,p∈Z'):tJ Yg Yh means marks L cl hl bR Yu Z':=by
 obtain⟨⟨_,a,b⟩,⟨_,d,e⟩,⟨_,_,f,g⟩,⟨_,_,i,j⟩,⟨_,_,p,q⟩,⟨_,_,r,s⟩⟩:=h;exact⟨⟨_,hz _ a,b⟩,⟨_,hz _ d,e⟩,⟨_,_,hz _ f,g⟩,⟨_,_,hz _ i,j⟩,⟨_,_,hz _ p,q⟩,⟨_,_,hz _ r,s⟩⟩
theorem xM:(d::(g++(a::b::e::Z))).Perm (a::b::e::d::(g++Z)):=by
 refine(List.Perm.cons _ (Lf.trans ((Lf.trans ((Lf).cons _)).cons _))).trans ?_;exact(List.Perm.swap _ _ _).trans (((List.Perm.swap _ _ _).trans ((List.Perm.swap _ _ _).cons _)).cons _)
theorem lj{α:Type}{x i c d r:α}{g n:List α}(h:x∈n):x∈i::c::d::(g++(r::n)):=cZ (KB _ (.tail _ h))
theorem uZ:(a::([]++(b::i::c::d::(x++y)))).Perm (i::c::d::((a::b::x)++y)):=by
 refine List.Perm.trans ?_ (LW (l₁:=[a,b]) (l₂:=[i,c,d]++(x++y))|>.trans ?_)
 ·exact .refl _
 ·show ([i,c,d]++(x++y)++[a,b]).Perm ([i,c,d]++([a,b]++(x++y)))
  exact aa (KS _ _ _) (Lu _ LW)
noncomputable def bn (us:List Yc) (code:Int):Int:=32768*((us.findIdx fun u=>decide (code∈u):Nat):Int)+code
noncomputable def bZ (us:List Yc):Yc:=us.flatMap fun u=>u.map (bn us)
theorem ui{us:List Yc}{code M:Int}(h1:M∈((List.range us.length).filter fun s=>decide (code∈us.getD s [])).map Int.ofNat)(h2:∀ x∈((List.range us.length).filter fun s=>decide (code∈us.getD s [])).map Int.ofNat,M<=x):M=((us.findIdx fun u=>decide (code∈u):Nat):Int):=by
 obtain⟨s,hs,rfl⟩:=KK.mp h1;obtain⟨VH,Rx⟩:=Lg.mp hs;have QO:=NX.mp VH;have Un:∀ i (h:i<us.length),us.getD i []=us[i]:=fun i h=>aa KU (aa (KL h) rfl);rw[Un s QO] at Rx;have hf:us.findIdx (fun u=>decide (code∈u))<=s:=by
  refine OE fun PW=>?_;have:=List.not_of_lt_findIdx PW;rw[Rx] at this;exact KR this.symm
 have Qk:us.findIdx (fun u=>decide (code∈u))<us.length:=EM hf QO;have hfm:=h2 (Int.ofNat (us.findIdx fun u=>decide (code∈u))) (KW (Lg.mpr ⟨NX.mpr Qk,by refine aa (Un _ Qk) ?_;exact List.findIdx_getElem (p:=fun u:Yc=>decide (code∈u)) (w:=Qk)⟩));have:s<=us.findIdx fun u=>decide (code∈u):=NK.mp hfm;have e:s=us.findIdx fun u=>decide (code∈u):=by lia
 exact ae e rfl
theorem BE:(a::([]++(b::i::c::d::((k::x)++y)))).Perm (i::c::d::((k::a::b::x)++y)):=by
 refine(uZ (x:=k::x)).trans (.cons _ (.cons _ (.cons _ ?_)));exact(((List.Perm.swap k b x).cons a).trans (List.Perm.swap k a (b::x))).append_right y
theorem jg(f:Nat->Bool)(q:Nat):((List.range (q+1)).filter f).map Int.ofNat=((List.range q).filter f).map Int.ofNat++if f q then[Int.ofNat q] else[]:=by
 refine aa List.range_succ (aa (MQ _ _) (aa KP (aa List.filter_cons ?_)))
 split<;>rfl
theorem o9{α:Type}{x a b c d e:α}{g n:List α}(h:x∈n):x∈a::b::c::(d::g++(e::n)):=cT (KB _ (.tail _ h))
theorem bj{α:Type}{l:List α}{i:Nat}{d:α}(h:i<l.length):l.getD i d∈l:=by
 exact aa KU (aa (KL h) (M8 h))
theorem pe{α:Type}{x a b c r a1 b1 c1 d e:α}{g n:List α}(h:x∈n):x∈a::b::c::([]++(r::a1::b1::c1::(d::g++(e::n)))):=cT (o9 h)
noncomputable def af (us:List Yc):Yc:=(aG (dd (bZ us))).map fun n=>n.fmod 32768
theorem jm:∀ (l PV:Yc),x∈l.foldl (fun PV x=>if x∈PV then PV else PV++[x]) PV↔x∈PV∨x∈l
 |[],PV=>by simp
 |y::l,PV=>by
  (refine aa L9 ?_;rw[jm l])
  split
  ·rename_i h
   constructor
   ·rintro(h|h)
    ·exact .inl h
    ·exact .inr (.tail _ h)
   ·rintro(h1|h1)
    ·exact .inl h1
    ·rcases KI.mp h1 with rfl|h1
     ·exact .inl h
     ·exact .inr h1
  ·simp only[KM,KI,LH,O1,or_assoc]
theorem zR:x∈dd l↔x∈l:=(jm l []).trans (by simp)
theorem jl:∀ (l PV:Yc),(l.foldl (fun PV x=>if x∈PV then PV else PV++[x]) PV).length<=PV.length+l.length
 |[],_=>K1 _
 |y::l,PV=>by
  refine aa L9 ?_;refine KH (jl l _) ?_;have:(if y∈PV then PV else PV++[y]).length<=PV.length+1:=by
   split
   ·exact MG _
   ·refine aa KJ ?_;exact K1 _
  exact aa Le (by exact L1 [_,_,_] (.a V0 V2) (.a V1 (.a V2 W1)) 1 V0 (.a V1 W1) rfl this)
theorem iD(l:Yc):(dd l).length<=l.length:=KH (jl l []) (Mf (Nn _))
theorem iK(hu:u∈us)(hc:c∈u)(h0:0<=c)(h1:c<32768):c∈af us:=by
 refine KK.mpr ⟨bn us c,(bp _).mem_iff.mpr (zR.mpr (M9.mpr ⟨u,hu,KW hc⟩)),?_⟩;unfold bn;exact aa (Mp _ (by decide)) (tW h0 h1)
theorem kK(h:∀ u∈us,u.length<=2):(bZ us).length<=2*us.length:=by
 unfold bZ
 induction us with
 |nil=>exact K1 0
 |cons u us ih=>
  have h1:=h u (.head _);have h2:(us.flatMap fun v=>v.map (bn (u::us))).length<=2*us.length:=by
   clear ih;generalize u::us=all;revert all;refine wrap ?_;intro all
   induction us with
   |nil=>exact K1 0
   |cons v us ih=>
    refine aa M1 (aa KJ (aa (KG _) (aa Le ?_)));have:=ih fun z hz=>h z (by rcases KI.mp hz with rfl|hz;exact .head _;exact dj hz);have:=h v aK
    lia
  exact aa M1 (aa KJ (aa (KG _) (aa Le (by exact L2 [_,_,_] (.a V0 V1) (.m 2 (.a V2 W1)) 1 V0 (.n 2) 1 V1 (.m 2 V2) rfl h1 h2))))
theorem sU(Yg means:Yc):∀ u∈aQ Yg means,u.length<=2:=fun u hu=>by
 obtain⟨s,_,rfl⟩:=KK.mp hu;exact Na _ _
def aL(QH:Yc)(code:Int):Str:=Ye "n"++Ye (toString ((QH.idxOf code:Nat):Int))
def cW(mark:Int):Int:=if-1-mark>mark then-1-mark else mark
noncomputable def cM (us:List Yc) (Yh:Yc) (s:Nat):Yc:=(aj Yh (Yh.getD s (-1))).flatMap fun o=>us.getD o.toNat []
noncomputable def aR (us:List Yc) (Yh:Yc) (s:Nat):Yc:=(aG (dd (us.getD s []))).filter fun c=>decide (c∉cM us Yh s)
def aA(QH fresh:Yc):List (Str×Int):=fresh.map fun c=>(aL QH c,c)
def aU(Yj:Str)(p:Str×Int):Str:=Yj++Ye " xmlns:"++p.1++Ye "=\""++ac p.2++Ye "\""
def eR(Yg means QH:Yc)(s:Nat):Str:=if 0<=means.getD s 0 then aL QH (means.getD s 0)++Txt.slice (aw (ac (Yg.getD s 0))) (some 4) none else aw (ac (Yg.getD s 0))
def bc(Yg QH:Yc)(s:Nat):Str:=aL QH (Yg.getD s 0)++Ye ":"++aq s
def bh(Yg Yh means:Yc)(us:List Yc)(QH:Yc)(Yj:Str)(mark:Int):Str:=
 if mark<0 then Yj++Ye "</"++bc Yg QH (cW mark).toNat++Ye ">"
 else(bv (aA QH (aR us Yh (cW mark).toNat))).foldl aU (Yj++Ye "<"++bc Yg QH (cW mark).toNat)++Ye ">"++eR Yg means QH (cW mark).toNat
def bP(Yg Yh means marks:Yc):Str:=marks.foldl (bh Yg Yh means (aQ Yg means) (af (aQ Yg means))) ⟨#[]⟩
structure oy(Yg Yh means marks:Yc)(us:List Yc)(L cl hl bR Yu:Nat)(Qr:X6)(D Dn:Nat)(PN Rg YB:Yb)(cD kn ka:Nat)(Z:X6):Prop where
 z:tJ Yg Yh means marks L cl hl bR Yu Z
 s:Qr.Sublist Z
 u:(D,lO PN cD)∈Z
 ls:c8 Z PN us
 nd:(Dn,lO Rg kn)∈Z
 ha:(Yu,lO YB ka)∈Z
theorem oy.more(h:oy Yg Yh means marks us L cl hl bR Yu Qr D Dn PN Rg YB cD kn ka Z)(g:X6):oy Yg Yh means marks us L cl hl bR Yu Qr D Dn PN Rg YB cD kn ka (g++Z):=
 ⟨h.z.mono fun _ hp=>KB _ hp,h.s.trans (Lz _ _),KB _ h.u,h.ls.mono fun _ hp=>KB _ hp,KB _ h.nd,KB _ h.ha⟩
structure dJ(hl Yu:Nat)(Yj:Str)(m:X7):Prop where
 h:m (Ye "homes")=some (.ref hl)
 a:m (Ye "marks")=some (.ref Yu)
 p:∃ t,m (Ye "page")=some (.str Yj t)
def mj(Yg marks:Yc):Prop:=marks.length<=60/\∀ k∈marks,-(Yg.length:Int)<=k/\k<Yg.length
theorem nv(h:∀ u∈us,u.length<=2):(af us).length<=2*us.length:=by
 unfold af;exact aa (KG _) (aa ((bp _).length_eq) (KH (iD _) (kK h)))
theorem lw(hl:QH.length<=60)(hc:c∈QH):(aL QH c).length<=1000:=(nR (QH.idxOf c) (by have:=Mw.mpr hc;exact L2 [_,_] (.a V1 W1) (.n 64) 1 V0 (.n 60) 1 (.a V1 W1) V0 rfl hl this)).1
theorem iJ(h:k<=1000):((k:Nat):Int).natAbs.log2<1920:=by
 refine aa (Int.natAbs_natCast _) ?_;exact Lx (Nat.log2_le_self k) (by exact L1 [_] (.a V0 W1) (.n 1920) 1 V0 (.n 1000) rfl h)
theorem gM{α:Type}{x a b c r:α}{n:List α}(h:x∈n):x∈a::b::c::([]++(r::n)):=cT h
theorem BC:([d,c,i]++a::b::e::Z).Perm (i::a::b::e::([d,c]++Z)):=by
 show ([d,c]++([i,a,b,e]++Z)).Perm ([i,a,b,e]++([d,c]++Z));exact ae (KS _ _ _) (ae (KS _ _ _) (Pg _ LW))
theorem BD:(d::([]++(r::q::i::a::b::e::Z))).Perm (i::a::b::e::([d,r,q]++Z)):=by
 show ([d,r,q]++([i,a,b,e]++Z)).Perm ([i,a,b,e]++([d,r,q]++Z));exact ae (KS _ _ _) (ae (KS _ _ _) (Pg _ LW))
theorem uP{α:Type}{x a b c r q:α}{n:List α}(h:x∈n):x∈a::b::c::([]++(r::q::n)):=xJ h
theorem ux(x:Str)(i:Int):(Txt.item x i).length=1:=rfl
theorem gY(code:Int):(ac code).length=10:=by
 unfold ac ey;simp only[KD,ux]
theorem ju(h:x.length=10):(aw x).length<=24:=by
 unfold aw;have h1:=L7 x none (some 1);have h2:=L7 x (some 1) none
 (refine aa (KD _ _) ?_;rw[KD,KD])
 show 3+_+1+_<=24;exact L3 [_,_,_] (.a (.a (.a (.n 3) V1) W1) V2) (.n 24) 2 V0 (.n 10) 1 V1 V0 1 V2 V0 rfl (eL h) h1 h2
theorem AG:(r::d::(g++(i::a::b::e::Z))).Perm (i::a::b::e::((r::d::g)++Z)):=by
 show ((r::d::g)++([i,a,b,e]++Z)).Perm ([i,a,b,e]++((r::d::g)++Z));exact ae (KS _ _ _) (ae (KS _ _ _) (Pg _ LW))
theorem AB:(t::i::c::d::(g++z)).Perm (i::c::d::((t::g)++z)):=(Lf (l₁:=[i,c,d])).symm
theorem nF(h:x∈bv l):x∈l:=by
 match l,h with
 |[],h=>exact h
 |[_],h=>exact h
 |[a,b],h=>
  change x∈(if b.1.cps.toList<a.1.cps.toList then[b,a] else[a,b]) at h
  split at h
  ·rcases KI.mp h with rfl|h
   ·exact aK
   ·refine aa (KF.mp h) ?_;exact .head _
  ·exact h
 |_::_::_::_,h=>exact h
theorem gW:∀ (l PV:Yc),PV.Nodup->(l.foldl (fun PV x=>if x∈PV then PV else PV++[x]) PV).Nodup
 |[],_,h=>h
 |y::l,PV,h=>by
  refine aa L9 ?_;refine gW l _ ?_
  split
  ·exact h
  ·rename_i hy
   exact Nq.mpr ⟨h,Ly.mpr ⟨LH, .nil⟩,fun a ha b hb e=>hy (by refine ae (KF.mp hb) (ae e ?_);exact ha)⟩
theorem wz(us:List Yc)(Yh:Yc)(s:Nat):(aR us Yh s).Nodup:=((bp _).nodup_iff.mpr (gW _ [] .nil)).filter _
theorem ur(h:x∈aR us Yh s):x∈us.getD s []:=zR.mp ((bp _).mem_iff.mp (Lg.mp h).1)
theorem uq(us:List Yc)(Yh:Yc)(s:Nat):(aR us Yh s).length<=(us.getD s []).length:=by
 refine KH (Na _ _) ?_;exact aa ((bp _).length_eq) (iD _)
theorem Aq(hl:QH.length<=60)(ha:a∈QH)(hb:b∈QH)(h:aL QH a=aL QH b):a=b:=by
 have h1:=Mw.mpr ha;have h2:=Mw.mpr hb;have:=rh _ (by exact L2 [_,_] (.a V1 W1) (.n 64) 1 V0 (.n 60) 1 (.a V1 W1) V0 rfl hl h1) _ (by exact L2 [_,_] (.a V1 W1) (.n 64) 1 V0 (.n 60) 1 (.a V1 W1) V0 rfl hl h2) (gC h);have e1:=List.getElem_idxOf h1;have e2:=List.getElem_idxOf h2;refine ae e1 (ae e2 ?_)
 congr 1
theorem lg:∀ {l:List α},l.Nodup->(∀ a∈l,∀ b∈l,f a=f b->a=b)->(l.map f).Nodup
 |[],_,_=> .nil
 |x::l,h,hf=>by
  obtain⟨h1,h2⟩:=Ly.mp h;refine Ly.mpr ⟨fun hm=>?_,lg h2 fun a ha b hb=>hf a (.tail _ ha) b (.tail _ hb)⟩;obtain⟨y,hy,e⟩:=KK.mp hm;exact h1 (hf y (.tail _ hy) x (.head _) e▸hy)
structure ox(Yg Yh means marks:Yc):Prop where
 hl:Yh.length=Yg.length
 ml:means.length=Yg.length
 z:Yg.length<=30
 hh:bQ Yh
 c0:∀ i,i<Yg.length->0<=Yg.getD i 0/\Yg.getD i 0<32768
 m0:∀ i,i<Yg.length->-1<=means.getD i 0/\means.getD i 0<32768
namespace TXk
def Q(Yg Yh means marks:Yc)(Yt Yz Yq YB:Yb)(cl hl bR Yu kc kh km ka:Nat):Prop:=∀ (Rj:IntsAre Yt Yg) (TL:IntsAre Yz Yh) (QS:IntsAre Yq means) (UL:IntsAre YB marks) (ok:ox Yg Yh means marks) (TP:mj Yg marks),bF 8 274 [.ref cl, .ref hl, .ref bR, .ref Yu] [(cl,lO Yt kc),(hl,lO Yz kh),(bR,lO Yq km),(Yu,lO YB ka)] (fun v n'=>fc (bP Yg Yh means marks) v/\n'=[(cl,lO Yt kc),(hl,lO Yz kh),(bR,lO Yq km),(Yu,lO YB ka)]) eT
def P_(y:(((Yc×Yc)×Yc×Yc)×(Yb×Yb)×Yb×Yb)×((Nat×Nat)×Nat×Nat)×(Nat×Nat)×Nat×Nat):Prop:=Q y.1.1.1.1 y.1.1.1.2 y.1.1.2.1 y.1.1.2.2 y.1.2.1.1 y.1.2.1.2 y.1.2.2.1 y.1.2.2.2 y.2.1.1.1 y.2.1.1.2 y.2.1.2.1 y.2.1.2.2 y.2.2.1.1 y.2.2.1.2 y.2.2.2.1 y.2.2.2.2
def y_:(((Yc×Yc)×Yc×Yc)×(Yb×Yb)×Yb×Yb)×((Nat×Nat)×Nat×Nat)×(Nat×Nat)×Nat×Nat:=pk (inferInstance) P_
def Yg:Yc:=y_.1.1.1.1
def Yh:Yc:=y_.1.1.1.2
def means:Yc:=y_.1.1.2.1
def marks:Yc:=y_.1.1.2.2
def Yt:Yb:=y_.1.2.1.1
def Yz:Yb:=y_.1.2.1.2
def Yq:Yb:=y_.1.2.2.1
def YB:Yb:=y_.1.2.2.2
def cl:Nat:=y_.2.1.1.1
def hl:Nat:=y_.2.1.1.2
def bR:Nat:=y_.2.1.2.1
def Yu:Nat:=y_.2.1.2.2
noncomputable def kc:Nat:=y_.2.2.1.1
def kh:Nat:=y_.2.2.1.2
def km:Nat:=y_.2.2.2.1
def ka:Nat:=y_.2.2.2.2
def B:{B:oq->Prop//(∀ i,B i)->bF 8 274 [.ref cl, .ref hl, .ref bR, .ref Yu] [(cl,lO Yt kc),(hl,lO Yz kh),(bR,lO Yq km),(Yu,lO YB ka)] (fun v n'=>fc (bP Yg Yh means marks) v/\n'=[(cl,lO Yt kc),(hl,lO Yz kh),(bR,lO Yq km),(Yu,lO YB ka)]) eT}:=⟨_,fun h=>by
 refine' HD (binds:=[(Ye "codes", .ref cl),(Ye "homes", .ref hl),(Ye "means", .ref bR),(Ye "marks", .ref Yu)]) (by k_is) (by k_is) (by exact fun s X=>LJ rfl) (by rfl) (by decide+kernel) (by rfl) (by rfl) (by rfl) ?k9 (by exact fun _ _ h=>h.elim) h
 case k9=>
  intro L cells Y;obtain⟨o1,o2,o3,o4,o5,rfl,-⟩:=kc_five Y;refine⟨?_,fun p hp=>?_⟩
  ·exact(rj L (l:=[5,4,3,2,1]) (by decide):([L+1+1+1+1+1,L+1+1+1+1,L+1+1+1,L+1+1,L+1]:List Nat).Nodup)
  ·exact ri (l:=[5,4,3,2,1]) (by decide) (KW (f:=(·.1)) hp)⟩
def i:oq:=pk xL B.1
abbrev L:Addr:=i.L
def E:X8:=i.E
def K:ad Flow:=i.K
def c:Fx:=i.fx 7 (Ye "_law_text") (ro At) 274 (.ref 273)
theorem zZ(Rj:IntsAre Yt Yg)(TL:IntsAre Yz Yh)(QS:IntsAre Yq means)(UL:IntsAre YB marks)(ok:ox Yg Yh means marks)(TP:mj Yg marks):B.1 i:=by
 intro cells hE QR hK Y;obtain⟨o1,o2,o3,o4,o5,rfl,d1,d2,d3,d4,d5⟩:=kc_five Y;clear Y;change o1.data=.cell none at d1;change o2.data=.cell none at d2;change o3.data=.cell none at d3;change o4.data=.cell (some (.ref bR)) at d4;change o5.data=.cell (some (.ref cl)) at d5;have hZ:tJ Yg Yh means marks L cl hl bR Yu ((L+2,o4)::(L+1,o5)::[(cl,lO Yt kc),(hl,lO Yz kh),(bR,lO Yq km),(Yu,lO YB ka)]):=
  ⟨⟨_,aK,d5⟩,⟨_, .head _,d4⟩,⟨_,_,cq,Rj⟩,⟨_,_,ir,TL⟩,⟨_,_,iu,QS⟩,⟨_,_,ra,UL⟩⟩
 have hS:[(cl,lO Yt kc),(hl,lO Yz kh),(bR,lO Yq km),(Yu,lO YB ka)].Sublist ((L+2,o4)::(L+1,o5)::[(cl,lO Yt kc),(hl,lO Yz kh),(bR,lO Yq km),(Yu,lO YB ka)]):= .cons _ (.cons _ (.refl _));clear d4 d5;show Tr c E _ ((L+5,o1)::(L+4,o2)::(L+3,o3)::((L+2,o4)::(L+1,o5)::[(cl,lO Yt kc),(hl,lO Yz kh),(bR,lO Yq km),(Yu,lO YB ka)])) _ K;generalize VD:[(cl,lO Yt kc),(hl,lO Yz kh),(bR,lO Yq km),(Yu,lO YB ka)]=Qr at hK hZ hS⊢;revert Qr;refine wrap ?_;intro Qr VD hK hZ hS;clear VD Rj TL QS UL;generalize P7:bindL _ _ _=m0;revert m0;refine wrap ?_;intro m0 P7;have mh:m0 (Ye "homes")=some (.ref hl):=ae P7 rfl;have ma:m0 (Ye "marks")=some (.ref Yu):=ae P7 rfl;clear P7;generalize (L+2,o4)::(L+1,o5)::Qr=Z at hZ hS⊢;revert Z;refine wrap ?_;intro Z hZ hS;obtain⟨⟨oc,Tm,doc⟩,⟨om,hom,dom⟩,⟨Yt,kc,US,Rj⟩,-,⟨Yq,km,hlm,QS⟩,-⟩:=id hZ;have SC:=Rj.length;have hz:=ok.z;refine G8 (GU (GT (by k_is) (by boot_fast) (by decide) (GN (by k_is) (by boot_fast) (by decide) (GJ (a:=L+1) rfl (cZ Tm) doc (G9 (cZ US) (by exact L3 [_,_] V0 (.n 100000) 3 V0 V1 2 V1 V0 1 V1 (.n 30) rfl (eL SC) (eG SC) hz) fun t=>Hr fun rg t u z=>?ask1)))))
 case ask1=>
  have hrg:bl ((Yt.length:Nat):Int) t u z=bl ((Yg.length:Nat):Int) t u z:=by exact aa SC rfl
  refine aa hrg ?_;refine⟨.range rg Yg.length t u z,fun j mC PN g=>c8 g PN ((List.range j).map (cK Yg means)),rfl, .inl (.head _),by show Yg.length<=1000;exact bd hz, .nil,?YK,?last1⟩
  case YK=>
   rintro E' j x PN g I D C oI oC mC cD Y N hj ⟨tj,rfl⟩ hP xC hY hN;have hj:j<Yg.length:=hj;obtain⟨t1,e1⟩:=dr Rj hj;obtain⟨t2,e2⟩:=dr QS (show j<means.length by refine aa ok.ml ?_;exact hj);have Rt:=QS.length;have RH:=ok.ml;refine GB (pre:=[_]) rfl xC fun Q9 Qz=>GI (GU (GA (F0 (Gg (GS (a:=L+1) (lj (cZ Tm)) doc (Gh aK Qz rfl (Gi (lj (cZ US)) rfl e1 (by exact L3 [_,_] V0 (.n 100000) 3 V0 V1 2 V1 V0 1 V1 (.n 30) rfl (eL SC) (eG SC) hz) (F0 (Gg (GS (a:=L+2) (lj (cZ hom)) dom (Gh aK Qz rfl (Gi (lj (cZ hlm)) rfl e2 (by exact L4 [_,_,_] V1 (.n 100000) 1 V0 (.n 30) 3 V1 V2 2 V2 V1 1 V2 V0 rfl hz (eL Rt) (eG Rt) (eL RH)) (FZ ⟨KC rfl,fun T=>?ask2⟩)))))))))))));refine⟨.YJ T [.int (Yg.getD j 0) t1, .int (means.getD j 0) t2] 0,fun i mC PN g=>g=[]/\IntsAre PN (([Yg.getD j 0,means.getD j 0].take i).filter fun c=>decide (0<=c)),rfl, .inl (.head _),KC rfl,⟨rfl, .nil⟩,?YI,?last2⟩
   case YI=>
    rintro E'' i x Ra g2 I2 D2 C2 SK Rz RM SW Y N hi hx ⟨rfl,hs⟩ xC2 hY hN;obtain⟨S1,ti,rfl⟩:=bX (.cons (Yg.getD j 0) t1 (.cons (means.getD j 0) t2 .nil)) hx;have Qo:=bD _ S1;generalize [Yg.getD j 0,means.getD j 0].getD i 0=ci at Qo⊢;revert ci;refine wrap ?_;intro ci Qo;refine GB (pre:=[_]) rfl xC2 fun oC3 Ve=>HS (Gb (Gh aK Ve rfl (F7 fun tb=>Jz (F9 ?_))))
    by_cases hc:0<=ci
    ·refine aa (KY (show ci≥0 from hc)) ?_
     refine Gh aK Ve rfl (hY _ _ _ ⟨rfl,oC3,_,[],Ve, .refl _,rfl,?_⟩);exact aa Qo (aa (MQ _ _) (aa (O7 (by simpa using hc)) (aI hs)))
    ·refine aa (K0 (show¬ci≥0 from hc)) ?_
     refine hN _ _ ⟨rfl,oC3,_,[],Ve, .refl _,rfl,?_⟩;exact aa Qo (aa (MQ _ _) (aa (O6 (by simpa using hc)) (aa List.filter_nil (aa (Lj _) hs))))
   case last2=>
    rintro D2 RM Ra g2 SW _ ⟨rfl,hs⟩;refine hY _ _ _ ⟨rfl,Q9,_,(D2,lO Ra SW)::(T,_)::g,Qz,uZ,?_⟩;show c8 _ _ ((List.range (j+1)).map (cK Yg means));exact aa (lK _ _) ((hP.mono fun p hp=>dj hp).snoc (.head _) hs)
  case last1=>
   intro D mC PN g cD _ hP;refine Gd ((List.Perm.of_eq (by rw[List.append_cons])).trans xM) (Hg (pre:=[_,_]) rfl rfl d3 (fun VP d3'=>?_) rfl);have hZ2:tJ Yg Yh means marks L cl hl bR Yu ((D,lO PN cD)::((g++[(rg,bl ((Yg.length:Nat):Int) t u z)])++Z)):=hZ.mono fun p hp=> .tail _ (KB _ hp);have QN:Qr.Sublist ((D,lO PN cD)::((g++[(rg,bl ((Yg.length:Nat):Int) t u z)])++Z)):= .cons _ (hS.trans (Lz _ _));have hU:(D,lO PN cD)∈(D,lO PN cD)::((g++[(rg,bl ((Yg.length:Nat):Int) t u z)])++Z):= .head _;have Ua:c8 ((D,lO PN cD)::((g++[(rg,bl ((Yg.length:Nat):Int) t u z)])++Z)) PN (aQ Yg means):=hP.mono fun p hp=> .tail _ (KA _ (KA _ hp));generalize (D,lO PN cD)::((g++[(rg,bl ((Yg.length:Nat):Int) t u z)])++Z)=Z2 at hZ2 QN hU Ua⊢;revert Z2;refine wrap ?_;intro Z2 hZ2 QN hU Ua;have RD:(aQ Yg means).length=Yg.length:=by unfold aQ;exact aa (KG _) (aa Op rfl)
   clear hP d3 hZ hS Tm doc hom dom US Rj hlm QS hrg SC;have R4:=Ua.len;generalize Ux:aQ Yg means=us at Ua RD R4;revert us;refine wrap ?_;intro us Ux Ua RD R4;have WS:∀ u∈us,u.length<=2:=Ux▸sU Yg means;have Qh:∀ j,(us.getD j []).length<=2:=fun j=>by
    rcases M6 j us.length with h|h
    ·exact WS _ (bj h)
    ·refine aa KU (aa (NP h) ?_);exact K6 _
   refine Jb (GJ (a:=L+3) rfl cq d3' ⟨.list D PN cD,fun k j mC PN g=>(gQ (fun(o:Obj) (xv:Option Value) (rest:X6)=>g=(k,o)::rest) (fun o xv _=>o.data=.cell xv))/\IntsAre PN ((us.take j).flatMap fun u=>u.map (bn us)),rfl, .inl (cZ hU),by show PN.length<=90;exact L3 [_,_,_] V2 (.n 90) 1 V0 (.n 30) 1 V1 V0 1 V2 V1 rfl hz (eL RD) (eL R4),fun k=>⟨⟨_,_,_,rfl,rfl⟩, .nil⟩,?turnF,?lastF⟩)
   case turnF=>
    rintro k E' j x TA g2 I D2 C oI oC RM SW hj hx ⟨⟨o,xv,rest,rfl,ho⟩,hs⟩ xC;have hj:j<us.length:=ae R4 hj;obtain⟨a,ws,kk,e1,UW,U6⟩:=Ua.at hj;have hx:PN[j]?=some x:=hx;rw[e1] at hx
    cases hx;have hwl:=U6.length;have hsj:=Qh j;refine GB (pre:=[_]) rfl xC fun Q9 Qz=>Gh aK Qz rfl ⟨rfl, .list a ws kk,fun i mC PN g=>(gQ (fun(o:Obj) (xv:Option Value) (rest:X6)=>g=(k,o)::rest) (fun o xv _=>o.data=.cell xv))/\IntsAre PN (((us.take j).flatMap fun u=>u.map (bn us))++((us.getD j []).take i).map (bn us)),Q9,_,(k,o)::rest,rfl,Qz, .refl _, .inl (cZ UW),by show ws.length<=1000;exact L3 [_,_] V0 (.n 1000) 3 V0 V1 2 V1 V0 1 V1 (.n 2) rfl (eL hwl) (eG hwl) hsj,⟨⟨o,xv,rest,rfl,ho⟩,by refine aa List.take_zero (aa OV (aa (Lj _) ?_));exact hs⟩,?turnG,?lastG⟩
    case lastG=>
     rintro mC Ra g ⟨hg,hi⟩;refine⟨hg,?_⟩;rw[show dv.N (.list a ws kk)=(us.getD j []).length from hwl,Lm] at hi;show IntsAre Ra ((us.take (j+1)).flatMap fun u=>u.map (bn us));refine aa Mn (aa (KL hj) (aa (NO _) (aa Oa ?_)));have e:us.getD j []=us[j]:=aa KU (aa (KL hj) rfl);rw[e] at hi;simpa using hi
    case turnG=>
     rintro E'' i x Ra g I2 D3 C2 SK Rz mC3 cD3 Y N hi hx ⟨⟨o,xv,rest,rfl,ho⟩,hs⟩ xC2 hY hN;obtain⟨S1,t,rfl⟩:=bX U6 hx;have Qo:=bD _ S1;have Rl:(us.getD j []).getD i 0∈us.getD j []:=bj S1;generalize (us.getD j []).getD i 0=code at Qo Rl⊢;revert code;refine wrap ?_;intro code Qo Rl;refine Ka (pre:=[_,_,_]) rfl ho fun o' Ru=>GI (F8 (F8 (F7 fun t1=>HZ (fun J h=>H1 (by k_is) (by boot_fast) (by decide) h) (GU (Iv (fun J h=>H1 (by k_is) (by boot_fast) (by decide) h) (HZ (fun J h=>H1 (by k_is) (by boot_fast) (by decide) h) (GS (a:=L+3) (o9 cq) d3' (G9 (o9 (cZ hU)) (by exact L3 [_,_,_] V2 (.n 100000) 1 V0 (.n 30) 1 V1 V0 1 V2 V1 rfl hz (eL RD) (eL R4)) fun t2=>Hr fun rg t u z=>?ask3))))))));refine aa (show bl ((PN.length:Nat):Int) t u z=bl ((us.length:Nat):Int) t u z by rw[R4]) ?_;refine⟨.range rg us.length t u z,fun q mC PN g=>g=[]/\IntsAre PN (((List.range q).filter fun s=>decide (code∈us.getD s [])).map Int.ofNat),rfl, .inl (.head _),by show us.length<=1000;exact L2 [_,_] V1 (.n 1000) 1 V0 (.n 30) 1 V1 V0 rfl hz (eL RD),⟨rfl, .nil⟩,?turn3,?last3⟩
     case turn3=>
      rintro E3 q x Vi g4 I4 D4 C4 oI4 oC4 mC4 cD4 Y N hq ⟨tq,rfl⟩ ⟨rfl,Tp⟩ xC4 hY hN;have hq:q<us.length:=hq;obtain⟨a5,ws5,kk5,e5,WJ,Wv⟩:=Ua.at hq;refine GB (pre:=[_]) rfl xC4 fun oC5 Tb=>HS (Gb (GS (a:=k) rb Ru (Gg (GS (a:=L+3) (pe cq) d3' (Gh aK Tb rfl (Gi (pe (cZ hU)) rfl e5 (by exact L3 [_,_,_] V2 (.n 100000) 1 V0 (.n 30) 1 V1 V0 1 V2 V1 rfl hz (eL RD) (eL R4)) (Kr (pe (cZ WJ)) Wv (F9 ?_))))))));have hr:=jg (fun s=>decide (code∈us.getD s [])) q
      by_cases hc:code∈us.getD q []
      ·refine aa (KY hc) ?_
       refine Gh aK Tb rfl (hY _ _ _ ⟨rfl,oC5,_,[],Tb, .refl _,rfl,?_⟩);exact aa hr (aa (KY hc) (aI Tp))
      ·refine aa (K0 hc) ?_
       refine hN _ _ ⟨rfl,oC5,_,[],Tb, .refl _,rfl,?_⟩;exact aa hr (aa (K0 hc) (aa (KO KR) (aa (Lj _) Tp)))
     case last3=>
      rintro D4 mC4 Vi g4 cD4 _ ⟨rfl,Tp⟩;have Tp:IntsAre Vi (((List.range us.length).filter fun s=>decide (code∈us.getD s [])).map Int.ofNat):=Tp;refine IZ (.head _) Tp (List.length_pos_of_mem (KW (Lg.mpr ⟨NX.mpr hj,KY Rl⟩))) fun M tM h1 h2=>Hx (by decide) fun t3=>GS (a:=k) ra Ru (Hd fun t4=>(hY _ _ _ ⟨rfl,Rz,_,_,xC2,BE,⟨_,_,_,rfl,Ru⟩,?_⟩));exact aa Qo (aa KP (ae (KS _ _ _) (aa (ui h1 h2) (aI hs))))
   case lastF=>
    rintro k Df mC TA gF cDf ⟨-,hsF⟩;rw[show dv.N (.list D PN cD)=us.length from R4,Lm] at hsF;have hsF:IntsAre TA (bZ us):=hsF;have Qk:=kK WS;have QA:=iD (bZ us);refine G8 (GU (GN (by k_is) (by boot_fast) (by decide) (GT (by k_is) (by boot_fast) (by decide) (FY rfl (I1 (.head _) hsF (by exact L3 [_,_,_] V2 (.n 1000) 2 V0 (.n 30) 2 V1 V0 1 V2 (.m 2 V1) rfl hz (eL RD) Qk) fun S oS hS=>Ig (.head _) hS (by exact L4 [_,_,_,_] V3 (.n 60) 2 V0 (.n 30) 2 V1 V0 1 V2 (.m 2 V1) 1 V3 V2 rfl hz (eL RD) Qk QA) fun R Rh kR Up=>⟨.list R Rh kR,fun j mC PN g=>g=[]/\IntsAre PN (((aG (dd (bZ us))).take j).map fun n=>n.fmod 32768),rfl, .inl (.head _),?szR,⟨rfl, .nil⟩,?turnN,?lastN⟩)))))
    case szR=>
     have:=Up.length;have:=(bp (dd (bZ us))).length_eq;show Rh.length<=1000
     lia
    case turnN=>
     rintro E' j x Ra g2 I D2 C oI oC RM SW Y N hj hx ⟨rfl,hs⟩ xC hY hN;obtain⟨SF,t,rfl⟩:=bX Up hx;have Qo:=bD _ SF;generalize (aG (dd (bZ us))).getD j 0=num at Qo⊢;revert num;refine wrap ?_;intro num Qo;refine GB (pre:=[_]) rfl xC fun Q9 Qz=>GI (F8 (Gh aK Qz rfl (F7 fun t1=>GO (by decide) fun t2=>(hY _ _ _ ⟨rfl,Q9,_,[],Qz, .refl _,rfl,?_⟩))));exact aa Qo (aa KP (aI hs))
    case lastN=>
     rintro Dn RM Rg g2 kn _ ⟨rfl,hnv⟩;rw[show dv.N (.list R Rh kR)=(aG (dd (bZ us))).length from Up.length,Lm] at hnv;have hnv:IntsAre Rg (af us):=hnv;refine Gd (xM (g:=(R,lO Rh kR)::(S,oS)::(Df,lO TA cDf)::gF)) (Hg (pre:=[_]) rfl rfl d2 (fun UB d2'=>?_) rfl);refine Gf (Gc fun tp=>?_);obtain⟨YB,ka,hla,UL⟩:=hZ2.la;have hW:oy Yg Yh means marks us L cl hl bR Yu Qr D Dn PN Rg YB cD kn ka ((Dn,lO Rg kn)::(((R,lO Rh kR)::(S,oS)::(Df,lO TA cDf)::gF)++Z2)):=by
      have h2:∀ p∈Z2,p∈(Dn,lO Rg kn)::(((R,lO Rh kR)::(S,oS)::(Df,lO TA cDf)::gF)++Z2):=fun _ hp=> .tail _ (KB _ hp);exact⟨hZ2.mono h2, .cons _ (QN.trans (Lz _ _)),h2 _ hU,Ua.mono h2, .head _,h2 _ hla⟩
     generalize (Dn,lO Rg kn)::(((R,lO Rh kR)::(S,oS)::(Df,lO TA cDf)::gF)++Z2)=Z at hW⊢;revert Z;refine wrap ?_;intro Z hW;show Tr _ _ _ _ _ _;generalize UT:(fun y=>if y=Ye "page" then some (Value.str (Ye "") tp) else _)=m1;revert m1;refine wrap ?_;intro m1 UT;have lk:dJ hl Yu ⟨#[]⟩ m1:=ae UT ⟨mh,ma,tp,rfl⟩;have TV:bP Yg Yh means marks=marks.foldl (bh Yg Yh means us (af us)) ⟨#[]⟩:=by unfold bP;exact aa Ux rfl
     rw[TV] at hK;clear UT mh ma hZ2 QN hU Ua d2 hsF Up hS hla m0;refine Gu (GH (K₁:=fun fl m n=>fl=.next/\gR (fun o1 xv Z=>n=(L+5,o1)::(L+4,UB)::(L+3,VP)::Z) (fun o1 xv _=>o1.data=.cell xv) (fun _ _ Z=>oy Yg Yh means marks us L cl hl bR Yu Qr D Dn PN Rg YB cD kn ka Z) (fun _ _ _=>dJ hl Yu (marks.foldl (bh Yg Yh means us (af us)) ⟨#[]⟩) m)) ?sF ?sR)
     case sR=>
      rintro _ m n ⟨rfl,o1,xv,Z,rfl,-,hW,lk⟩;obtain⟨t,hp⟩:=lk.p;exact GM (FY hp (hK _ _ _ _ (.cons _ (.cons _ (.cons _ hW.s))) ⟨⟨t,rfl⟩,rfl⟩))
     case sF=>
      intro K2 hK2;have han:=UL.length;have RH:=TP.1;refine Hw (fun Sx j m n=>Sx=.list Yu YB ka/\vI (fun o1 xv Z=>n=(L+5,o1)::(L+4,UB)::(L+3,VP)::Z) (fun o1 xv _=>o1.data=.cell xv) (fun _ _ Z=>oy Yg Yh means marks us L cl hl bR Yu Qr D Dn PN Rg YB cD kn ka Z) (fun _ _ _=>dJ hl Yu ((marks.take j).foldl (bh Yg Yh means us (af us)) ⟨#[]⟩) m) (fun _ _ _=>((marks.take j).foldl (bh Yg Yh means us (af us)) ⟨#[]⟩).length<=10000*j)) QR
       (FY lk.a ⟨.list Yu YB ka,rfl,by show YB.length<=1000;exact L3 [_,_] V0 (.n 1000) 3 V0 V1 2 V1 V0 1 V1 (.n 60) rfl (eL han) (eG han) RH,⟨rfl,o1,none,Z,rfl,d1,hW,lk,K6 _⟩,?heldM,?turnM,?lastM⟩)
      case heldM=>
       rintro j m n ⟨-,o1,xv,Z,rfl,-,hW,-⟩;exact .inl (cZ hW.ha)
      case lastM=>
       rintro m n ⟨-,o1,xv,Z,rfl,hd,hW,lk,-⟩;rw[show dv.N (.list Yu YB ka)=marks.length from han,Lm] at lk;exact F6 (hK2 _ _ _ ⟨rfl,o1,xv,Z,rfl,hd,hW,lk⟩)
      case turnM=>
       rintro j x I oI m n KT hj hx ⟨-,o1,xv,Z,rfl,hd1,hW,lk,Qy⟩ RX;obtain⟨SF,t,rfl⟩:=bX UL hx;have Q0:(marks.take (j+1)).foldl (bh Yg Yh means us (af us)) ⟨#[]⟩=bh Yg Yh means us (af us) ((marks.take j).foldl (bh Yg Yh means us (af us)) ⟨#[]⟩) (marks.getD j 0):=aa (bD _ SF) (aa NT rfl);have SI:=TP.2 (marks.getD j 0) (bj SF);generalize marks.getD j 0=mark at Q0 SI⊢;revert mark;refine wrap ?_;intro mark Q0 SI;generalize (marks.take j).foldl (bh Yg Yh means us (af us)) ⟨#[]⟩=Yj at lk Qy Q0;revert Yj;refine wrap ?_;intro Yj lk Qy Q0;obtain⟨s,hs⟩:∃ s:Nat,cW mark=(s:Int):=⟨(cW mark).toNat,by unfold cW;split<;>lia⟩;have QO:s<Yg.length:=by unfold cW at hs;split at hs<;>lia
       have Rn:cW mark=if-1-mark>mark then-1-mark else mark:=rfl
       have Qu:(af us).length<=60:=by have:=nv WS;exact L3 [_,_,_] V2 (.n 60) 2 V0 (.n 30) 2 V1 V0 1 V2 (.m 2 V1) rfl hz (eL RD) this
       have Un:us.getD s []=cK Yg means s:=by
        refine ae Ux ?_;unfold aQ;exact aa KU (aa LX (aa (List.getElem?_range QO) rfl))
       have hum:cK Yg means s∈us:=ae Un (bj (q1 QO RD));have Tg:=ok.c0 s QO;have hcN:Yg.getD s 0∈af us:=iK hum (Lg.mpr ⟨.head _,KY Tg.1⟩) Tg.1 Tg.2;have QT:=lw Qu hcN;refine Go ?_;obtain⟨R8,Qp⟩:=lk.p;show Tr _ _ _ _ _ _;generalize PU:(fun y=>if y=Ye "mark" then some (Value.int mark t) else m y)=m1;revert m1;refine wrap ?_;intro m1 PU;have QQ:dJ hl Yu Yj m1:=ae PU ⟨lk.h,lk.a,R8,Qp⟩;have mk1:m1 (Ye "mark")=some (.int mark t):=ae PU rfl;clear PU lk Qp;refine Gf (HW (by k_is) (by boot_fast) (by decide) (FY mk1 (F8 (G6 fun t1=>FY mk1 (Hm fun t2=>Km fun t3=>?_)))));refine ae Rn (aa hs ?_);obtain⟨R8,Qp⟩:=QQ.p;show Tr _ _ _ _ _ _;generalize PU:(fun y=>if y=Ye "spot" then some (Value.int (s:Int) t3) else m1 y)=m2;revert m2;refine wrap ?_;intro m2 PU;have Rd:dJ hl Yu Yj m2:=ae PU ⟨QQ.h,QQ.a,R8,Qp⟩;have mk2:m2 (Ye "mark")=some (.int mark t):=ae PU mk1;have sp2:m2 (Ye "spot")=some (.int (s:Int) t3):=ae PU rfl;clear PU QQ Qp mk1;obtain⟨oc,Tm,doc⟩:=hW.z.cc;obtain⟨Yt,kc,US,Rj⟩:=hW.z.lc;have SC:=Rj.length;obtain⟨tc,ec⟩:=dr Rj QO;refine Gf (F8 (F8 (F8 (Gc fun t4=>GT (by k_is) (by boot_fast) (by decide) (Ga (GJ (a:=L+4) rfl cq d2' (Gj (cT hW.nd) Od O8 (Gq (F0 (Gg (GJ (a:=L+1) rfl (cT Tm) doc (FY sp2 (Gi (cT US) rfl ec (by exact L2 [_,_] V1 (.n 100000) 1 V0 (.n 30) 1 V1 V0 rfl hz (eL SC)) (FZ (Ip (cT hW.nd) hnv (bd Qu) hcN fun t5=>It (iJ (by have:=Mw.mpr hcN;exact L2 [_,_] V1 (.n 1000) 1 V0 (.n 60) 1 (.a V1 W1) V0 rfl Qu this)) fun t6=>Gm (KC rfl) ?a1 fun t7=>Gc fun t8=>Gm ?a2 (KC rfl) fun t9=>Gg (Gc fun ta=>HW (by k_is) (by boot_fast) (by decide) (FY sp2 (F7 fun tb=>IY fun tc=>G5 ?a3 ?a4 (KC rfl) fun td=>Gm ?a5 (KC rfl) fun te=>?_))))))))))))))))))
       case a1=>unfold aL at QT;rw[KD] at QT;exact L1 [_,_] V1 (.n 1000000) 1 (.a V0 V1) (.n 1000) rfl QT
       case a2=>exact KH QT (by decide)
       case a3=>split<;>lia
       case a4=>refine aa (show (Ye "rt").length=2 from rfl) ?_;split<;>lia
       case a5=>refine aa (KD _ _) ?_;show (aL (af us) (Yg.getD s 0)).length+1<=_;exact L1 [_] (.a V0 W1) (.n 1000000) 1 V0 (.n 1000) rfl QT
       show Tr c E (fun y=>if y=Ye "name" then some (Value.str (bc Yg (af us) s) te) else m2 y) _ _ _;have hnml:(bc Yg (af us) s).length<=1002:=by unfold bc;(refine aa (KD _ _) ?_;rw[KD]);show _+1+1<=_;exact L1 [_] (.a (.a V0 W1) W1) (.n 1002) 1 V0 (.n 1000) rfl QT
       obtain⟨R8,Qp⟩:=Rd.p;show Tr _ _ _ _ _ _;generalize PU:(fun y=>if y=Ye "name" then some (Value.str (bc Yg (af us) s) te) else m2 y)=m3;revert m3;refine wrap ?_;intro m3 PU;have Qf:dJ hl Yu Yj m3:=ae PU ⟨Rd.h,Rd.a,R8,Qp⟩;have mk3:m3 (Ye "mark")=some (.int mark t):=ae PU mk2;have sp3:m3 (Ye "spot")=some (.int (s:Int) t3):=ae PU sp2;have nm3:m3 (Ye "name")=some (.str (bc Yg (af us) s) te):=ae PU rfl;clear PU Rd Qp mk2 sp2;have hst:bh Yg Yh means us (af us) Yj mark=if mark<0 then Yj++Ye "</"++bc Yg (af us) s++Ye ">" else(bv (aA (af us) (aR us Yh s))).foldl aU (Yj++Ye "<"++bc Yg (af us) s)++Ye ">"++eR Yg means (af us) s:=by unfold bh;exact aa hs (aa (La _) rfl)
       replace Q0:=Q0.trans hst;clear hst;have hmz:=TP.1;refine Gk (Gb (FY mk3 (F7 fun u1=>Ku (F9 ?_))));obtain⟨R8,Qp⟩:=Qf.p
       by_cases Wl:mark<0
       ·refine aa (KY Wl) ?_
        rw[KZ Wl] at Q0;refine Gf (F8 (F8 (F8 (FY Qp (Gc fun u2=>Gm ?b1 (KC rfl) fun u3=>FY nm3 (Gm ?b2 ?b3 fun u4=>Gc fun u5=>Gm ?b4 (KC rfl) fun u6=>F6 (F6 (RX _ _ _ ⟨_,rfl,rfl,o1,xv,Z,rfl,hd1,hW,?b5,?b6⟩))))))))
        case b1=>exact L3 [_,_,_] V2 (.n 1000000) 10000 V0 (.n 60) 10000 (.a V1 W1) V0 1 V2 (.m 10000 V1) rfl RH SF Qy
        case b2=>refine aa (KD _ _) ?_;show Yj.length+2<=_;exact L3 [_,_,_] (.a V2 (.n 2)) (.n 1000000) 10000 V0 (.n 60) 10000 (.a V1 W1) V0 1 V2 (.m 10000 V1) rfl RH SF Qy
        case b3=>exact bd hnml
        case b4=>(refine aa (KD _ _) ?_;rw[KD]);show Yj.length+2+_<=_;lia
        case b5=>refine aa Q0 ?_;exact⟨Qf.h,Qf.a,u6,rfl⟩
        case b6=>(refine aa Q0 (aa (KD _ _) ?_);rw[KD,KD]);show Yj.length+2+_+1<=_;lia
       ·refine aa (K0 Wl) ?_
        rw[KO Wl] at Q0;have Uo:=ok.hl;obtain⟨Yz,kh,hlh,TL⟩:=hW.z.lh;have hhn:=TL.length;obtain⟨th,eh⟩:=fQ TL (show s<Yh.length from q1 QO Uo) (-1);obtain⟨g0,g1⟩:=ok.hh s (q1 QO Uo);have SS:=dF ok.hh (Yh.length+1) (Yh.getD s (-1)) g0 (A3 g1 QO Uo);have hchi:=fN ok.hh (Yh.length+1) (Yh.getD s (-1)) g0 (A3 g1 QO Uo);have QF:=qL Yh Yz hl kh TL ok.hh (by exact L2 [_,_] V1 (.n 1000) 1 V0 (.n 30) 1 V1 V0 rfl hz (eL Uo)) (Yh.getD s (-1)) th g0 (A3 g1 QO Uo);have QF:=QF.post (P':=fun v n'=>aO (fun x=>(eg (fun(C:Nat) (Yt:Yb) (kc:Nat)=>v=.ref C) (fun _ Yt _=>IntsAre Yt (aj Yh (Yh.getD s (-1)))) (fun C Yt kc=>x=[(C,lO Yt kc)]))) (fun x=>n'=x++[(hl,lO Yz kh)])) fun v n' hv=>by
         obtain⟨C,Yt,kc,rfl,hc,rfl⟩:=hv;exact⟨_,⟨C,Yt,kc,rfl,hc,rfl⟩,rfl⟩
        obtain⟨Z5,hpz⟩:=jA (show (hl,lO Yz kh)∈(I,oI)::(L+5,o1)::(L+4,UB)::(L+3,VP)::Z from cT hlh);refine G8 (Jx (G2 (f:=269) (fun J h=>Gz (by k_is) h) (by k_is) (F0 (FY Qf.h (F0 (Gg (FY Qf.h (FY sp3 (Gi (cT hlh) rfl eh (by exact L3 [_,_,_] V2 (.n 100000) 1 V0 (.n 30) 1 V1 V0 1 V2 V1 rfl hz (eL Uo) (eL hhn)) (FZ (Hz QF hpz (by show 3<=7;decide) fun v x hv=>?_)))))))))));obtain⟨C,Sb,kC,rfl,Vr,rfl⟩:=hv;clear QF hpz;have Wf:=Vr.length;have SS:(aj Yh (Yh.getD s (-1))).length<=30:=by show (bx Yh (Yh.length+1) (Yh.getD s (-1))).length<=30;exact L4 [_,_,_,_] V3 (.n 30) 1 V0 (.n 30) 1 (.a V1 W1) V0 1 V2 V1 1 V3 V2 rfl hz QO (tM g1) SS
        refine⟨.list C Sb kC,fun j mC PN g=>g=[]/\IntsAre PN (((aj Yh (Yh.getD s (-1))).take j).flatMap fun o=>us.getD o.toNat []),rfl, .inl (.head _),by show Sb.length<=90;exact L3 [_,_] V0 (.n 90) 3 V0 V1 2 V1 V0 1 V1 (.n 30) rfl (eL Wf) (eG Wf) SS,⟨rfl, .nil⟩,?turnA,?lastA⟩
        case turnA=>
         rintro E' j2 x Ra g2 I2 D2 C2 SK Rz RM SW hj3 hx ⟨rfl,Rx⟩ xC;obtain⟨S3,to,rfl⟩:=bX Vr hx;have Qo:=bD _ S3;obtain⟨q0,q1⟩:=hchi _ (bj (d:=0) S3);have Tn:((aj Yh (Yh.getD s (-1))).take (j2+1)).flatMap (fun o=>us.getD o.toNat [])=((aj Yh (Yh.getD s (-1))).take j2).flatMap (fun o=>us.getD o.toNat [])++us.getD ((aj Yh (Yh.getD s (-1))).getD j2 0).toNat []:=by refine aa Qo (aa Oa ?_);simp
         have q0:0<=(aj Yh (Yh.getD s (-1))).getD j2 0:=q0;have q1:(aj Yh (Yh.getD s (-1))).getD j2 0<Yh.length:=q1;generalize (aj Yh (Yh.getD s (-1))).getD j2 0=o at q0 q1 Tn⊢;revert o;refine wrap ?_;intro o q0 q1 Tn;obtain⟨i,rfl⟩:∃ i:Nat,o=(i:Int):=⟨o.toNat,tE q0⟩;rw[La] at Tn;obtain⟨a5,ws5,kk5,e5,WJ,Wv⟩:=hW.ls.at (show i<us.length by lia);have WU:=Wv.length;have hs5:=Qh i;refine GB (pre:=[_]) rfl xC fun Q9 Qz=>Gg (GS (a:=L+3) (gM ir) d3' (Gh aK Qz rfl (Gi (gM (cT hW.u)) rfl e5 (by exact L3 [_,_,_] V2 (.n 100000) 1 V0 (.n 30) 1 V1 V0 1 V2 V1 rfl hz (eL RD) (eL R4)) ⟨rfl, .list a5 ws5 kk5,fun q mC PN g=>g=[]/\IntsAre PN (((aj Yh (Yh.getD s (-1))).take j2).flatMap (fun o=>us.getD o.toNat [])++(us.getD i []).take q),Q9,_,[],rfl,Qz, .refl _, .inl (xJ WJ),by show ws5.length<=1000;exact L3 [_,_] V0 (.n 1000) 3 V0 V1 2 V1 V0 1 V1 (.n 2) rfl (eL WU) (eG WU) hs5,⟨rfl,by refine aa List.take_zero (aa (Lj _) ?_);exact Rx⟩,?turnB,?lastB⟩)))
         case lastB=>
          rintro mC Wx g ⟨rfl,hi⟩;rw[show dv.N (.list a5 ws5 kk5)=(us.getD i []).length from WU,Lm] at hi;refine⟨rfl,?_⟩;exact aa Tn hi
         case turnB=>
          rintro E3 q x Wx g3 I3 D3 C3 oI3 oC3 mC3 cD3 Y N hq hx ⟨rfl,TS⟩ Ve hY hN;obtain⟨TR,tq,rfl⟩:=bX Wv hx;have Qo:=bD _ TR;refine GB (pre:=[_]) rfl Ve fun oC4 xC4=>GI (Gh aK xC4 rfl (hY _ _ _ ⟨rfl,oC4,_,[],xC4, .refl _,rfl,?_⟩));exact aa Qo (ae (KS _ _ _) (aI TS))
        case lastA=>
         rintro Da mC SV gA cDa ⟨rfl,VI⟩;rw[show dv.N (.list C Sb kC)=(aj Yh (Yh.getD s (-1))).length from Wf,Lm] at VI;have VI:IntsAre SV (cM us Yh s):=VI;refine Hg (pre:=[_,_,_]) rfl rfl hd1 (fun Vb hd1'=>?_) rfl;refine Gd BC ?_;have UK:=hW.more [(Da,lO SV cDa),(C,lO Sb kC)];have Uh:(Da,lO SV cDa)∈[(Da,lO SV cDa),(C,lO Sb kC)]++Z:= .head _;generalize [(Da,lO SV cDa),(C,lO Sb kC)]++Z=Z6 at UK Uh⊢;revert Z6;refine wrap ?_;intro Z6 UK Uh;clear hd1 Vr Wf SS hchi hlh TL hhn eh g0 g1 Tm doc US Rj SC ec hW;obtain⟨au,wu,ku,eu,hmu,hwu⟩:=UK.ls.at (show s<us.length from q1 QO RD);have hwl:=hwu.length;have hsu:=Qh s;have hddl:=iD (us.getD s []);refine IF (GN (by k_is) (by boot_fast) (by decide) (GT (by k_is) (by boot_fast) (by decide) (Gg (GJ (a:=L+3) rfl ir d3' (FY sp3 (Gi (cT UK.u) rfl eu (by exact L3 [_,_,_] V2 (.n 100000) 1 V0 (.n 30) 1 V1 V0 1 V2 V1 rfl hz (eL RD) (eL R4)) (I1 (cT hmu) hwu (bd hsu) fun S oS hS=>Ig (.head _) hS (by exact L2 [_,_] V1 (.n 60) 1 V0 (.n 2) 1 V1 V0 rfl hsu hddl) fun R Rh kR Up=>⟨.list R Rh kR,fun j mC PN g=>g=[]/\IntsAre PN (((aG (dd (us.getD s []))).take j).filter fun c=>decide (c∉cM us Yh s)),rfl, .inl (.head _),?szH,⟨rfl, .nil⟩,?turnH,?lastH⟩)))))))
         case szH=>
          have:=Up.length;have:=(bp (dd (us.getD s []))).length_eq;show Rh.length<=1000
          lia
         case turnH=>
          rintro E' j2 x Ra g2 I2 D2 C2 SK Rz RM SW Y N hj3 hx ⟨rfl,Rx⟩ xC hY hN;obtain⟨S3,to,rfl⟩:=bX Up hx;have Qo:=bD _ S3;generalize (aG (dd (us.getD s []))).getD j2 0=o at Qo⊢;revert o;refine wrap ?_;intro o Qo;refine GB (pre:=[_]) rfl xC fun Q9 Qz=>HS (Gb (Gh aK Qz rfl (GS (a:=L+5) (uP aK) hd1' (JE (uP (cT Uh)) VI (F9 ?_)))))
          by_cases hc:o∉cM us Yh s
          ·refine aa (KY hc) ?_
           refine Gh aK Qz rfl (hY _ _ _ ⟨rfl,Q9,_,[],Qz, .refl _,rfl,?_⟩);exact aa Qo (aa (MQ _ _) (aa (O7 (by simpa using hc)) (aI Rx)))
          ·refine aa (K0 hc) ?_
           refine hN _ _ ⟨rfl,Q9,_,[],Qz, .refl _,rfl,?_⟩;exact aa Qo (aa (MQ _ _) (aa (O6 (by simpa using hc)) (aa List.filter_nil (aa (Lj _) Rx))))
         case lastH=>
          rintro Dh mC Sy gH cDh _ ⟨rfl,Uv⟩;rw[show dv.N (.list R Rh kR)=(aG (dd (us.getD s []))).length from Up.length,Lm] at Uv;have Uv:IntsAre Sy (aR us Yh s):=Uv;refine Gd BD ?_;have hW3:=UK.more [(Dh,lO Sy cDh),(R,lO Rh kR),(S,oS)];have hdh:(Dh,lO Sy cDh)∈[(Dh,lO Sy cDh),(R,lO Rh kR),(S,oS)]++Z6:= .head _;generalize [(Dh,lO Sy cDh),(R,lO Rh kR),(S,oS)]++Z6=Z7 at hW3 hdh⊢;revert Z7;refine wrap ?_;intro Z7 hW3 hdh;clear Up hS Uh UK hmu hwu eu;obtain⟨R8,Qp⟩:=Qf.p;generalize PU:(fun z=>if z=Ye "fresh" then some (Value.ref Dh) else m3 z)=m4;revert m4;refine wrap ?_;intro m4 PU;have Ta:dJ hl Yu Yj m4:=ae PU ⟨Qf.h,Qf.a,R8,Qp⟩;have sp4:m4 (Ye "spot")=some (.int (s:Int) t3):=ae PU sp3;have nm4:m4 (Ye "name")=some (.str (bc Yg (af us) s) te):=ae PU nm3;have fr4:m4 (Ye "fresh")=some (.ref Dh):=ae PU rfl;clear PU Qf Qp sp3 nm3 mk3;obtain⟨R8,Qp⟩:=Ta.p;refine Gf (F8 (F8 (FY Qp (Gc fun u2=>Gm ?e1 (KC rfl) fun u3=>FY nm4 (Gm ?e2 ?e3 fun u4=>?_)))))
          case e1=>exact L3 [_,_,_] V2 (.n 1000000) 10000 V0 (.n 60) 10000 (.a V1 W1) V0 1 V2 (.m 10000 V1) rfl RH SF Qy
          case e2=>refine aa (KD _ _) ?_;show Yj.length+1<=_;exact L3 [_,_,_] (.a V2 W1) (.n 1000000) 10000 V0 (.n 60) 10000 (.a V1 W1) V0 1 V2 (.m 10000 V1) rfl RH SF Qy
          case e3=>exact bd hnml
          have Rw:(Yj++Ye "<"++bc Yg (af us) s).length<=10000*j+1003:=by(refine aa (KD _ _) ?_;rw[KD]);show Yj.length+1+_<=_;lia
          generalize Yj++Ye "<"++bc Yg (af us) s=Ro at Rw Q0⊢;revert Ro;refine wrap ?_;intro Ro Rw Q0;show Tr _ _ _ _ _ _;generalize PU:(fun y=>if y=Ye "page" then some (Value.str Ro u4) else m4 y)=m5;revert m5;refine wrap ?_;intro m5 PU;have VO:dJ hl Yu Ro m5:=ae PU ⟨Ta.h,Ta.a,_,rfl⟩;have sp5:m5 (Ye "spot")=some (.int (s:Int) t3):=ae PU sp4;have fr5:m5 (Ye "fresh")=some (.ref Dh):=ae PU fr4;clear PU Ta Qp sp4 nm4 fr4;have Vs:∀ x∈aR us Yh s,x∈af us/\0<=x/\x<32768:=fun x hx=>by
           have hx:=ur hx;rw[Un] at hx;have h0:(0:Int)<=x:=Nu (Lg.mp hx).2;have h1:x<32768:=by
            rcases KI.mp (Lg.mp hx).1 with rfl|h
            ·exact Tg.2
            ·refine aa (KF.mp h) ?_;exact(ok.m0 s QO).2
           exact⟨iK hum hx h0 h1,h0,h1⟩
          have Qk:=KH (uq us Yh s) (Qh s);have hfd:=wz us Yh s;refine Gu (GH (K₁:=fun fl m n=>fl=.next/\yX (fun Z=>n=(I,oI)::(L+5,Vb)::(L+4,UB)::(L+3,VP)::Z) (fun Z=>oy Yg Yh means marks us L cl hl bR Yu Qr D Dn PN Rg YB cD kn ka Z) (fun _=>dJ hl Yu ((bv (aA (af us) (aR us Yh s))).foldl aU Ro) m) (fun _=>m (Ye "spot")=some (.int (s:Int) t3)) (fun _=>((bv (aA (af us) (aR us Yh s))).foldl aU Ro).length<=10000*j+4003)) ?sP ?sT)
          case sT=>
           rintro _ m n ⟨rfl,Z,rfl,Tf,RK,Vd,UR⟩;generalize (bv (aA (af us) (aR us Yh s))).foldl aU Ro=Q4 at RK UR Q0;revert Q4;refine wrap ?_;intro Q4 RK UR Q0;clear VO sp5 fr5 Qk hfd Vs Uv hdh hW3;obtain⟨oc,Tm,doc⟩:=Tf.z.cc;obtain⟨Yt,kc,US,Rj⟩:=Tf.z.lc;obtain⟨om,hom,dom⟩:=Tf.z.mc;obtain⟨Yq,km,hlm,QS⟩:=Tf.z.lm;have SC:=Rj.length;have Rt:=QS.length;have RH:=ok.ml;obtain⟨tc,ec⟩:=dr Rj QO;obtain⟨tm,em⟩:=dr QS (show s<means.length from q1 QO RH);have hr:=gY (Yg.getD s 0);refine Gf (GE (f:=236) (fun J h=>Gz (by k_is) h) (by k_is) (GE (f:=262) (fun J h=>Gz (by k_is) h) (by k_is) (Gg (GJ (a:=L+1) rfl (cT Tm) doc (FY Vd (Gi (cT US) rfl ec (by exact L2 [_,_] V1 (.n 100000) 1 V0 (.n 30) 1 V1 V0 rfl hz (eL SC)) ((oH _ tc Tg.1 Tg.2).to (by show 3<=7;decide) fun v hv=>?_)))))));obtain⟨v6,rfl⟩:=hv;refine(oF (ac (Yg.getD s 0)) v6 (bd (eL hr))).to (by show 2<=7;decide) fun v hv=>?_;obtain⟨v7,rfl⟩:=hv;have RI:=ju hr;have TV:eR Yg means (af us) s=if 0<=means.getD s 0 then aL (af us) (means.getD s 0)++Txt.slice (aw (ac (Yg.getD s 0))) (some 4) none else aw (ac (Yg.getD s 0)):=rfl
           generalize aw (ac (Yg.getD s 0))=Uz at RI TV⊢;revert Uz;refine wrap ?_;intro Uz RI TV;obtain⟨R8,Qp⟩:=RK.p;show Tr _ _ _ _ _ _;generalize PU:(fun y=>if y=Ye "text" then some (Value.str Uz v7) else m y)=m7;revert m7;refine wrap ?_;intro m7 PU;have Va:dJ hl Yu Q4 m7:=ae PU ⟨RK.h,RK.a,R8,Qp⟩;have sp7:m7 (Ye "spot")=some (.int (s:Int) t3):=ae PU Vd;have tx7:m7 (Ye "text")=some (.str Uz v7):=ae PU rfl;clear PU RK Vd Qp;refine Gu (GH (K₁:=fun fl m n=>fl=.next/\n=(I,oI)::(L+5,Vb)::(L+4,UB)::(L+3,VP)::Z/\dJ hl Yu Q4 m/\(∃ tt,m (Ye "text")=some (.str (eR Yg means (af us) s) tt))/\(eR Yg means (af us) s).length<=1100) ?sI ?sE)
           case sE=>
            rintro _ m n ⟨rfl,rfl,lk8,⟨tt,tx8⟩,TU⟩;obtain⟨R8,Qp⟩:=lk8.p;refine Gf (F8 (F8 (FY Qp (Gc fun w1=>Gm ?f1 (KC rfl) fun w2=>FY tx8 (Gm ?f2 ?f3 fun w3=>F6 (F6 (RX _ _ _ ⟨_,rfl,rfl,Vb,_,Z,rfl,hd1',Tf,?f4,?f5⟩)))))))
            case f1=>lia
            case f2=>refine aa (KD _ _) ?_;show Q4.length+1<=_;lia
            case f3=>exact bd TU
            case f4=>refine aa Q0 ?_;exact⟨lk8.h,lk8.a,w3,rfl⟩
            case f5=>refine aa Q0 (aa (KD _ _) (aa (KD _ _) ?_));show Q4.length+1+_<=_;exact L2 [_,_,_] (.a (.a V0 W1) V2) (.m 10000 (.a V1 W1)) 1 V0 (.a (.m 10000 V1) (.n 4003)) 1 V2 (.n 1100) rfl UR TU
           case sI=>
            intro K4 hK4;refine GV (Gb (Gg (GJ (a:=L+2) rfl (cT hom) dom (FY sp7 (Gi (cT hlm) rfl em (by exact L4 [_,_,_] V1 (.n 100000) 1 V0 (.n 30) 3 V1 V2 2 V2 V1 1 V2 V0 rfl hz (eL Rt) (eG Rt) (eL RH)) (F7 fun w1=>Jz (F9 ?_)))))))
            by_cases P7:0<=means.getD s 0
            ·refine aa (KY (show means.getD s 0≥0 from P7)) ?_
             rw[KZ P7] at TV;have Vz:means.getD s 0∈af us:=iK hum (Lg.mpr ⟨aK,KY P7⟩) P7 (ok.m0 s QO).2;have VA:=lw Qu Vz;have hix:=Mw.mpr Vz;have hsl4:=L7 Uz (some 4) none;refine Gf (F8 (F8 (Gc fun w2=>GT (by k_is) (by boot_fast) (by decide) (Ga (GJ (a:=L+4) rfl cq d2' (Gj (cT Tf.nd) Od O8 (Gq (F0 (Gg (GJ (a:=L+2) rfl (cT hom) dom (FY sp7 (Gi (cT hlm) rfl em (by exact L4 [_,_,_] V1 (.n 100000) 1 V0 (.n 30) 3 V1 V2 2 V2 V1 1 V2 V0 rfl hz (eL Rt) (eG Rt) (eL RH)) (FZ (Ip (cT Tf.nd) hnv (bd Qu) Vz fun w3=>It (iJ (by exact L2 [_,_] V1 (.n 1000) 1 V0 (.n 60) 1 (.a V1 W1) V0 rfl Qu hix)) fun w4=>Gm (KC rfl) ?g1 fun w5=>HH (FY tx7 ⟨_,_,rfl,bd RI,fun w6=>Gm ?g2 ?g3 fun w7=>F6 (hK4 _ _ _ ⟨rfl,rfl,?g4,⟨w7,?g5⟩,?g6⟩)⟩)))))))))))))))
             case g1=>unfold aL at VA;rw[KD] at VA;exact L1 [_,_] V1 (.n 1000000) 1 (.a V0 V1) (.n 1000) rfl VA
             case g2=>exact KH VA (by decide)
             case g3=>exact L2 [_,_] V1 (.n 1000000) 1 V0 (.n 24) 1 V1 V0 rfl RI hsl4
             case g4=>obtain⟨R8,Qp⟩:=Va.p;exact⟨Va.h,Va.a,R8,Qp⟩
             case g5=>refine aa TV ?_;rfl
             case g6=>refine aa TV (aa (KD _ _) ?_);exact L3 [_,_,_] (.a V1 V2) (.n 1100) 1 V0 (.n 24) 1 V1 (.n 1000) 1 V2 V0 rfl RI VA hsl4
            ·refine aa (K0 (show¬means.getD s 0≥0 from P7)) ?_
             rw[KO P7] at TV;rw[←TV] at tx7;exact F6 (hK4 _ _ _ ⟨rfl,rfl,Va,⟨v7,tx7⟩,by refine aa TV ?_;exact bd RI⟩)
          case sP=>
           clear Q0;intro K3 RW;generalize aR us Yh s=fresh at Uv Vs Qk hfd RW;revert fresh;refine wrap ?_;intro fresh Uv Vs Qk hfd RW;have hsl2:=nE (aA (af us) fresh);have hpl2:(aA (af us) fresh).length=fresh.length:=KG _;refine Hw (fun Sx q m n=>md (fun R vs k Z=>Sx=.list R vs k) (fun _ _ _ Z=>n.Perm ((I,oI)::(L+5,Vb)::(L+4,UB)::(L+3,VP)::Z)) (fun R vs k Z=>(R,lO vs k)∈Z) (fun _ vs _ Z=>ce ((I,oI)::(L+5,Vb)::(L+4,UB)::(L+3,VP)::Z) vs (bv (aA (af us) fresh))) (fun _ _ _ Z=>oy Yg Yh means marks us L cl hl bR Yu Qr D Dn PN Rg YB cD kn ka Z) (fun _ _ _ _=>dJ hl Yu (((bv (aA (af us) fresh)).take q).foldl aU Ro) m) (fun _ _ _ _=>m (Ye "spot")=some (.int (s:Int) t3)) (fun _ _ _ _=>(((bv (aA (af us) fresh)).take q).foldl aU Ro).length<=Ro.length+1500*q)) QR
            (GN (by k_is) (by boot_fast) (by decide) (GU (FY fr5 ⟨.list Dh Sy cDh,fun q mC PN g=>ce g PN ((aA (af us) fresh).take q),rfl, .inl (cT hdh),by show Sy.length<=1000;have:=Uv.length;exact L2 [_,_] V1 (.n 1000) 1 V0 (.n 2) 1 V1 V0 rfl Qk (eL this), .nil,?turnQ,?lastQ⟩)))
           case turnQ=>
            rintro E' q x Ra g2 I2 D2 C2 SK Rz RM SW Y N hq hx Rx xC hY hN;obtain⟨TR,tq,rfl⟩:=bX Uv hx;have Qo:(aA (af us) fresh).take (q+1)=(aA (af us) fresh).take q++[(aL (af us) (fresh.getD q 0),fresh.getD q 0)]:=by
             unfold aA;exact ae List.map_take (aa (bD _ TR) (aa KP (aa List.map_take rfl)))
            have SY:=Vs (fresh.getD q 0) (bj TR);generalize fresh.getD q 0=code at Qo SY⊢;revert code;refine wrap ?_;intro code Qo SY;have QW:=lw Qu SY.1;have hix:=Mw.mpr SY.1;refine GB (pre:=[_]) rfl xC fun Q9 Qz=>GI (GA (F0 (F8 (Gc fun t4=>Iv (fun J h=>H1 (by k_is) (by boot_fast) (by decide) h) (Ga (GS (a:=L+4) (cZ (KB _ (.tail _ (.tail _ (.head _))))) d2' (Gj (cZ (KB _ (.tail _ (.tail _ (.tail _ (.tail _ hW3.nd)))))) Od O8 (Gq (F0 (Gh aK Qz rfl (FZ (Ip (cZ (KB _ (.tail _ (.tail _ (.tail _ (.tail _ hW3.nd)))))) hnv (bd Qu) SY.1 fun t5=>It (iJ (by exact L2 [_,_] V1 (.n 1000) 1 V0 (.n 60) 1 (.a V1 W1) V0 rfl Qu hix)) fun t6=>Gm (KC rfl) ?q1 fun t7=>F0 (Gh aK Qz rfl (FZ ⟨KC rfl,fun T=>(hY _ _ _ ⟨rfl,Q9,_,(T,_)::g2,Qz,AB,?q2⟩)⟩))))))))))))))
            case q1=>unfold aL at QW;rw[KD] at QW;exact L1 [_,_] V1 (.n 1000000) 1 (.a V0 V1) (.n 1000) rfl QW
            case q2=>
             show ce _ _ ((aA (af us) fresh).take (q+1));exact aa Qo ((Rx.mono fun _ hp=> .tail _ hp).snoc (.head _))
           case lastQ=>
            intro Dp mC outsP gP cDp _ hP;rw[show dv.N (.list Dh Sy cDh)=fresh.length from Uv.length,←hpl2,Lm] at hP;refine Ir (.head _) (hP.mono fun _ hp=> .tail _ (KA _ hp)) (q7 Qk hpl2) ?ndP fun R RO k' TK=>⟨.list R RO k',rfl,by show RO.length<=1000;have:=TK.len;lia,?invP,?heldP,?turnP,?endP⟩
            case ndP=>
             unfold aA;exact aa M4 (lg hfd fun a ha b hb e=>Aq Qu (Vs a ha).1 (Vs b hb).1 e)
            case invP=>exact⟨R,RO,k',((R,_)::(Dp,_)::gP)++Z7,rfl,AG, .head _,TK.mono fun p hp=>AG.mem_iff.mp (.tail _ hp),hW3.more ((R,_)::(Dp,_)::gP),VO,sp5,K1 _⟩
            case heldP=>
             rintro q m n ⟨R2,vs2,k2,Z,e,hp,hR,-⟩
             cases e;exact .inl (hp.mem_iff.mpr (cT hR))
            case endP=>
             rintro m n ⟨R2,vs2,k2,Z,e,hp,hR,hPs,Tf,RK,Vd,UR⟩
             cases e;rw[show dv.N (.list R RO k')=(bv (aA (af us) fresh)).length from TK.len,Lm] at RK UR;exact Gd hp (F6 (RW _ _ _ ⟨rfl,Z,rfl,Tf,RK,Vd,by lia⟩))
            case turnP=>
             rintro q x I2 SK m n KT hq hx ⟨R2,vs2,k2,Z,e,hp,hR,hPs,Tf,RK,Vd,UR⟩ RX
             cases e;obtain⟨a,px,code,t8,t9,rfl,UW,S7⟩:=hPs.at hx;obtain⟨y,hy,e⟩:=KK.mp (nF (LL S7))
             cases e;have SY:=Vs code hy;have QW:=lw Qu SY.1;have Qo:((bv (aA (af us) fresh)).take (q+1)).foldl aU Ro=aU (((bv (aA (af us) fresh)).take q).foldl aU Ro) (aL (af us) code,code):=aa Mn (aa S7 (aa (NO _) (aa NT rfl)));have hq:q<(bv (aA (af us) fresh)).length:=TK.len▸hq;generalize ((bv (aA (af us) fresh)).take q).foldl aU Ro=Q4 at RK UR Qo;revert Q4;refine wrap ?_;intro Q4 RK UR Qo;refine Gd (hp.cons _) (Hp (.inl (.tail _ UW)) (Go (Go ?_)));obtain⟨R8,Qp⟩:=RK.p;show Tr _ _ _ _ _ _;generalize PU:(fun y=>if y=Ye "code" then some (Value.int code t9) else _)=m6;revert m6;refine wrap ?_;intro m6 PU;have Va:dJ hl Yu Q4 m6:=ae PU ⟨RK.h,RK.a,R8,Qp⟩;have sp7:m6 (Ye "spot")=some (.int (s:Int) t3):=ae PU Vd;have px7:m6 (Ye "prefix")=some (.str (aL (af us) code) t8):=ae PU rfl;have cd7:m6 (Ye "code")=some (.int code t9):=ae PU rfl;clear PU RK Vd Qp;obtain⟨R8,Qp⟩:=Va.p;refine Gf (F8 (F8 (F8 (F8 (F8 (FY Qp (Gc fun v1=>Gm ?d1 (KC rfl) fun v2=>FY px7 (Gm ?d2 ?d3 fun v3=>Gc fun v4=>Gm ?d4 (KC rfl) fun v5=>GE (f:=262) (fun J h=>Gz (by k_is) h) (by k_is) (FY cd7 ((oH code t9 SY.2.1 SY.2.2).to (by show 3<=7;decide) fun v hv=>?_))))))))))
             case d1=>lia
             case d2=>refine aa (KD _ _) ?_;show Q4.length+7<=_;lia
             case d3=>exact bd QW
             case d4=>(refine aa (KD _ _) ?_;rw[KD]);show Q4.length+7+_<=_;lia
             obtain⟨v6,rfl⟩:=hv;have hr:=gY code;refine Gm ?d5 ?d6 fun v7=>Gc fun v8=>Gm ?d7 (KC rfl) fun v9=>F6 (RX _ _ _ ⟨_,rfl,R,RO,k',Z,rfl, .refl _,hR,hPs,Tf,?d8,sp7,?d9⟩)
             case d5=>(refine aa (KD _ _) ?_;rw[KD,KD]);show Q4.length+7+_+2<=_;lia
             case d6=>exact bd (eL hr)
             case d7=>rw[KD,KD,KD,KD];show Q4.length+7+_+2+_<=_;lia
             case d8=>rw[Qo];exact⟨Va.h,Va.a,v9,rfl⟩
             case d9=>rw[Qo];show (Q4++_++_++_++_++_:Str).length<=_;rw[KD,KD,KD,KD,KD];show Q4.length+7+(aL (af us) code).length+2+(ac code).length+1<=_;lia
theorem go:Q Yg Yh means marks Yt Yz Yq YB cl hl bR Yu kc kh km ka:=fun Rj TL QS UL ok TP=>B.2 (cU (P:=B.1) (zZ Rj TL QS UL ok TP))
end TXk
theorem zN(Yg Yh means marks:Yc)(Yt Yz Yq YB:Yb)(cl hl bR Yu kc kh km ka:Nat):TXk.Q Yg Yh means marks Yt Yz Yq YB cl hl bR Yu kc kh km ka:=cU (P:=TXk.P_) TXk.go ((((Yg,Yh),(means,marks)),((Yt,Yz),(Yq,YB))),(((cl,hl),(bR,Yu)),((kc,kh),(km,ka))))
section
variable{c:Fx}{E:X8}{m:X7}{n:X6}{J:ad Value}{env:Env}
theorem ay.units(l:ay c s m n):c.A.units<cLine:=by
 have h:=l.hu;show c.un<cLine;exact iS h
theorem Kw(h:Tr c E m n (eval e env) fun v m n=>bE (fun(i:Int) (t:Tok)=>v=.int i t) (fun i _=>∀ t',J (.int (-i) t') m n)):Tr c E m n (eval (.UnaryOp .USub e p) env) J:= .mk fun s l=>
 wpAny_UnaryOp (am (h s l) fun v s1 _ _ l1 hv=>by
  obtain⟨i,t,rfl,q⟩:=hv;exact P.neg_int ⟨_,_,l1.tok,q _⟩)
theorem JV{a b:Addr}{vs:Yb}{k:Nat}(ha:(a,lO vs k)∈n)(hb:(b,listOf #[] 0)∈n)(h:J (.bool vs.isEmpty) m n):Tr c E m n (compareOp .Eq (.ref a) (.ref b)) J:= .mk fun s l=>by
 have h1:s.heap.IsList a vs.toArray:=⟨_,(l.N _ ha).1,rfl,k,rfl⟩;have h2:s.heap.IsList b #[]:=⟨_,(l.N _ hb).1,rfl,0,rfl⟩
 cases vs with
 |nil=>exact PySem.SeqAt.eq_listAt (e:=fun _=>false) h1 h2 rfl l.units (fun j h1=>absurd h1 (LM _)) ⟨_,_,l,h⟩
 |cons v vs=>exact PySem.SeqAt.eq_list_lengthsAt h1 h2 (by simp) l.units ⟨_,_,l,h⟩
theorem Jd(ha:(a,bm (.str x t) (.str y u) 0)∈n)(hb:(b,bm (.str x' t') (.str y' u') 0)∈n)(h:J (.bool (x==x'&&y==y')) m n):Tr c E m n (compareOp .Eq (.ref a) (.ref b)) J:= .mk fun s l=>by
 have h1:s.heap.IsTuple a #[.str x t, .str y u]:=⟨_,(l.N _ ha).1,rfl,0,rfl⟩;have h2:s.heap.IsTuple b #[.str x' t', .str y' u']:=⟨_,(l.N _ hb).1,rfl,0,rfl⟩;refine PySem.SeqAt.eq_tupleAt (e:=fun j=>if j=0 then x==x' else y==y') h1 h2 l.units (fun j h1 _=>?_) ⟨_,_,l,?_⟩
 ·rcases j with _|_|j
  ·exact(PySem.SeqAt.EqAt.str_str x t x' t':PySem.SeqAt.EqAt c.A.in1 s (.str x t) (.str x' t') (x==x'))
  ·exact(PySem.SeqAt.EqAt.str_str y u y' u':PySem.SeqAt.EqAt c.A.in1 s (.str y u) (.str y' u') (y==y'))
  ·exact absurd (show j+2<2 from h1) (MZ.mpr (MN 2 j))
 ·have e:(List.range (min (#[Value.str x t, .str y u]:Array Value).size (#[Value.str x' t', .str y' u']:Array Value).size)).all (fun j=>if j=0 then x==x' else y==y')=(x==x'&&y==y'):=by
   show ([0,1]:List Nat).all _=_;simp
  refine aa e ?_;simpa using h
structure DS where
 Yg:Yc
 Yh:Yc
 means:Yc
 marks:Yc
 YA:List (Int×Int)
 Yn:Int
def DS.init:DS:=⟨[],[],[],[],[],-1⟩
noncomputable def eM (code:Int):Bool:=(List.range 3).all fun p=>decide (12<(code.fdiv (16^p)).fmod 16)
noncomputable def bB (YA:List (Int×Int)) (spot code:Int):Yc:=(YA.filter fun p=>p.1==spot&&p.2.fdiv 4096==code.fdiv 4096).map (·.2)
noncomputable def DS.meant (d:DS) (place:Nat) (code:Int):Yc:=if 0<place/\8191<code/\eM code=true then(aj d.Yh d.Yn).flatMap fun s=>bB d.YA s code else[-1]
noncomputable def DS.tell (d:DS) (code:Int):DS:=⟨d.Yg,d.Yh,d.means,d.marks,d.YA++[(d.Yn,code)],d.Yn⟩
noncomputable def DS.close (d:DS):DS:=⟨d.Yg,d.Yh,d.means,d.marks++[-1-d.Yn],d.YA,d.Yh.getD d.Yn.toNat (-1)⟩
noncomputable def DS.add (d:DS) (code Qv:Int):DS:=⟨d.Yg++[code],d.Yh++[d.Yn],d.means++[Qv],(d.marks++[(d.Yg.length:Int)])++(if code.fdiv 4096=4 then[] else[-((d.Yg.length+1:Nat):Int)]),d.YA,if code.fdiv 4096=4 then(d.Yg.length:Int) else d.Yn⟩
noncomputable def DS.step(d:DS)(place:Nat)(Yx code:Int):Option DS:=if Yx=0 then some (d.tell code) else if Yx=1/\0<d.Yn then some d.close else(d.meant place code).head?.map (d.add code)
def bU(code:Int):Str:=Ye "Prefix "++Txt.slice (aw (ac code)) none (some 4)++Ye " of QName \""++aw (ac code)++Ye "\" is not declared in scope"
def DS.text(d:DS):Str:=bP d.Yg d.Yh d.means d.marks
noncomputable def DS.fin (d:DS):DS:=⟨d.Yg,d.Yh,d.means,d.marks++(aj d.Yh d.Yn).map fun s=>-1-s,d.YA,d.Yn⟩
def eJ:DS->Nat->List (Int×Int)->Str×Str
 |d,_,[]=>(d.fin.text,Ye "none")
 |d,p,x::r=>match d.step p x.1 x.2 with
  |none=>(d.text,bU x.2)
  |some d'=>eJ d' (p+1) r
theorem jn(d:DS)(p:Nat)(x:Int×Int)(r:List (Int×Int)):eJ d p (x::r)=(match d.step p x.1 x.2 with|none=>(d.text,bU x.2)|some d'=>eJ d' (p+1) r):=rfl
noncomputable def bA (Yk ag:Yc):List (Int×Int):=(List.range ag.length).map fun j=>(Yk.getD j 0,bg (ag.getD j 0))
def dZ(Yk ag:Yc):Str×Str:=eJ DS.init 0 (bA Yk ag)
theorem jC(h:j<ag.length):(bA Yk ag).drop j=(Yk.getD j 0,bg (ag.getD j 0))::(bA Yk ag).drop (j+1):=by
 have hl:(bA Yk ag).length=ag.length:=by unfold bA;exact aa (KG _) (aa Op rfl)
 refine aa (List.drop_eq_getElem_cons (q1 h hl)) ?_
 congr 1
 unfold bA;exact aa (N7 _) (aa (List.getElem_range _) rfl)
theorem lD:(bA Yk ag).drop ag.length=[]:=List.drop_eq_nil_of_le (by unfold bA;refine aa (KG _) (aa Op ?_);exact K1 _)
end
theorem gU(h0:0<=c):0<=cj mode c p/\cj mode c p<=c*16+15:=by
 have hf:=di (mode.fdiv (8^p.toNat)) (b:=8) (by decide);have ha:=di (mode.fdiv (2^(9+p).toNat)) (b:=2) (by decide);unfold cj;generalize (mode.fdiv (8^p.toNat)).fmod 8=f at hf⊢;generalize (mode.fdiv (2^(9+p).toNat)).fmod 2=ab at ha⊢;have hg:=di f (b:=2) (by decide);have hd:=gJ hf.1 (b:=2) (c:=4) (by decide) (BW hf.2);have h2:f.fmod 2=0∨f.fmod 2=1:=BP hg.1 hg.2;have h3:ab=0∨ab=1:=BP ha.1 ha.2;rcases h2 with h2|h2<;>rcases h3 with rfl|rfl<;>refine aa h2 ?_<;>lia
theorem iH(h0:0<=mode)(h1:mode<65536):0<=bg mode/\bg mode<32768:=by
 have hq:=gJ (b:=4096) (c:=16) h0 (by decide) (BV h1);have h:∀ k:Nat,k<16->0<=([1,6,3,1,4,1,2,1,0,1,5,1,7,1,1,1]:Yc).getD k 0/\([1,6,3,1,4,1,2,1,0,1,5,1,7,1,1,1]:Yc).getD k 0<=7:=by decide
 have hk:=h (mode.fdiv 4096).toNat (by lia);unfold bg;generalize ([1,6,3,1,4,1,2,1,0,1,5,1,7,1,1,1]:Yc).getD (mode.fdiv 4096).toNat 0=c0 at hk⊢;have a:=gU (mode:=mode) (p:=2) hk.1;have b:=gU (mode:=mode) (p:=1) a.1;have d:=gU (mode:=mode) (p:=0) b.1;exact FN hk.1 hk.2 a.2 b.2 d.1 d.2
structure c7(d:DS)(j:Nat):Prop where
 hl:d.Yh.length=d.Yg.length
 ml:d.means.length=d.Yg.length
 cz:d.Yg.length<=j
 tz:d.YA.length<=j
 kz:d.marks.length<=2*j
 hh:bQ d.Yh
 c0:∀ x∈d.Yg,0<=x/\x<32768
 m0:∀ x∈d.means,-1<=x/\x<32768
 t0:∀ p∈d.YA,0<=p.2/\p.2<32768
 mr:∀ k∈d.marks,-(d.Yg.length:Int)<=k/\k<d.Yg.length
 h0:-1<=d.Yn
 h1:d.Yn<d.Yg.length
theorem c7.init:c7 DS.init 0:=⟨rfl,rfl,K1 _,K1 _,K1 _,fun i h=>absurd h (LM i),(fun _ h=>nomatch h),(fun _ h=>nomatch h),(fun _ h=>nomatch h),(fun _ h=>nomatch h),by decide,by decide⟩
theorem iG(h:i<=l.length):(l++[x]).getD i d=if i=l.length then x else l.getD i d:=by
 refine aa KU (aa KU ?_)
 split
 ·rename_i e;subst e;refine aa (LU (K1 _)) (aa (OZ _) ?_);rfl
 ·exact aa (Mu (by lia)) rfl
theorem c7.tell{d:DS}{j:Nat}{code:Int}(h:c7 d j)(hc:0<=code/\code<32768):c7 (d.tell code) (j+1):=
 ⟨h.hl,h.ml,MI h.cz,by show (d.YA++_).length<=_;refine aa KJ ?_;exact Mt h.tz,KH h.kz (by exact L0 [_] (.m 2 V0) (.m 2 (.a V0 W1)) rfl),h.hh,h.c0,h.m0,fun p hp=>by
  rcases KM.mp hp with hp|hp
  ·exact h.t0 p hp
  ·refine aa (KF.mp hp) ?_;exact hc,h.mr,h.h0,h.h1⟩
theorem c7.close(h:c7 d j)(hp:0<d.Yn):c7 d.close (j+1):=by
 have h1:=h.h1;have hl:=h.hl;have hg:=h.hh d.Yn.toNat (AT hp h1 hl);refine⟨h.hl,h.ml,MI h.cz,MI h.tz,?_,h.hh,h.c0,h.m0,h.t0,fun k hk=>?_,hg.1,?_⟩
 ·show (d.marks++_).length<=_
  refine aa KJ ?_;have:=h.kz;show _+1<=_;exact L1 [_,_] (.a V0 W1) (.m 2 (.a V1 W1)) 1 V0 (.m 2 V1) rfl this
 ·rcases KM.mp hk with hk|hk
  ·exact h.mr k hk
  ·refine aa (KF.mp hk) ?_
   show-(d.Yg.length:Int)<=_/\_<(d.Yg.length:Int);exact Fj hp h1
 ·show d.Yh.getD d.Yn.toNat (-1)<(d.Yg.length:Int)
  exact Fd hp h1 hg.2
theorem c7.add{d:DS}{j:Nat}{code Qv:Int}(h:c7 d j)(hc:0<=code/\code<32768)(hm:-1<=Qv/\Qv<32768):c7 (d.add code Qv) (j+1):=by
 have hl:=h.hl;have ml:=h.ml;have cz:=h.cz;have kz:=h.kz;have h0:=h.h0;have h1:=h.h1;have hz:(d.Yg++[code]).length=d.Yg.length+1:=aa KJ rfl;refine⟨?_,?_,?_,MI h.tz,?_,fun i hi=>?_,fun x hx=>?_,fun x hx=>?_,h.t0,fun k hk=>?_,?_,?_⟩
 ·show (d.Yh++_).length=(d.Yg++_).length
  refine aa KJ (aa hz (aa hl ?_));rfl
 ·show (d.means++_).length=(d.Yg++_).length
  refine aa KJ (aa hz (aa ml ?_));rfl
 ·show (d.Yg++_).length<=_
  exact L2 [_,_,_] V2 (.a V1 W1) 1 V0 V1 1 V2 (.a V0 W1) rfl cz (eL hz)
 ·show ((d.marks++_)++_).length<=_
  refine aa KJ (aa KJ ?_);show _+1+_<=_
  split
  ·show _+1+0<=_;exact L1 [_,_] (.a (.a V0 W1) W0) (.m 2 (.a V1 W1)) 1 V0 (.m 2 V1) rfl kz
  ·show _+1+1<=_;exact L1 [_,_] (.a (.a V0 W1) W1) (.m 2 (.a V1 W1)) 1 V0 (.m 2 V1) rfl kz
 ·have S0:i<d.Yh.length+1:=by
   have e:(d.add code Qv).Yh.length=d.Yh.length+1:=by show (d.Yh++_).length=_;refine aa KJ ?_;rfl
   exact q2 hi e
  show-1<=(d.Yh++[d.Yn]).getD i (-1)/\(d.Yh++[d.Yn]).getD i (-1)<i;refine aa (iG (by exact L1 [_,_] V1 V0 1 (.a V1 W1) (.a V0 W1) rfl S0)) ?_
  split
  ·lia
  ·exact h.hh i (by lia)
 ·rcases KM.mp hx with hx|hx
  ·exact h.c0 x hx
  ·refine aa (KF.mp hx) ?_;exact hc
 ·rcases KM.mp hx with hx|hx
  ·exact h.m0 x hx
  ·refine aa (KF.mp hx) ?_;exact hm
 ·show-((d.Yg++[code]).length:Int)<=k/\k<((d.Yg++[code]).length:Int)
  refine aa hz ?_;have hb:∀ k,-(d.Yg.length:Int)<=k/\k<d.Yg.length->-((d.Yg.length+1:Nat):Int)<=k/\k<((d.Yg.length+1:Nat):Int):=fun k h=>FO h.1 h.2;rcases KM.mp hk with hk|hk
  ·rcases KM.mp hk with hk|hk
   ·exact hb k (h.mr k hk)
   ·refine aa (KF.mp hk) ?_;exact FP
  ·split at hk
   ·cases hk
   ·refine aa (KF.mp hk) ?_;exact FQ
 ·show-1<=if code.fdiv 4096=4 then(d.Yg.length:Int) else d.Yn
  split<;>lia
 ·show (if code.fdiv 4096=4 then(d.Yg.length:Int) else d.Yn)<((d.Yg++[code]).length:Int)
  refine aa hz ?_
  split<;>lia
theorem xg{d:DS}{j:Nat}(h:c7 d j){s code x:Int}(hx:x∈bB d.YA s code):-1<=x/\x<32768:=by
 obtain⟨p,hp,rfl⟩:=KK.mp hx;have:=h.t0 p (Lg.mp hp).1;exact FS this.1 this.2
theorem yt{d:DS}{j place:Nat}(h:c7 d j){code x:Int}(hx:x∈d.meant place code):-1<=x/\x<32768:=by
 unfold DS.meant at hx
 split at hx
 ·obtain⟨s,_,hs⟩:=M9.mp hx
  exact xg h hs
 ·refine aa (KF.mp hx) ?_;decide
theorem c7.fin(h:c7 d 15):c7 d.fin 30:=by
 have h0:=h.h0;have h1:=h.h1;have hl:=h.hl;have cz:=h.cz;have kz:=h.kz;have hn:=dF h.hh (d.Yh.length+1) d.Yn h0 (qa h1 hl);refine⟨h.hl,h.ml,by show d.Yg.length<=30;exact bd cz,KH h.tz (by decide),?_,h.hh,h.c0,h.m0,h.t0,fun k hk=>?_,h0,h1⟩
 ·show (d.marks++_).length<=_
  refine aa KJ (aa (KG _) ?_);show _+(bx d.Yh (d.Yh.length+1) d.Yn).length<=_;exact L4 [_,_,_,_] (.a V2 V3) (.m 2 (.n 30)) 1 V0 V1 1 V1 (.n 15) 1 V2 (.m 2 (.n 15)) 1 V3 V0 rfl (tM h1) cz kz hn
 ·rcases KM.mp hk with hk|hk
  ·exact h.mr k hk
  ·obtain⟨s,hs,rfl⟩:=KK.mp hk
   have:=fN h.hh (d.Yh.length+1) d.Yn h0 (qa h1 hl) s hs;show-(d.Yg.length:Int)<=_/\_<(d.Yg.length:Int);exact Fk hl this.1 this.2
theorem c7.text2(h:c7 d 30):ox d.Yg d.Yh d.means d.marks/\mj d.Yg d.marks:=by
 have cz:=h.cz;have kz:=h.kz;exact⟨⟨h.hl,h.ml,bd cz,h.hh,fun i hi=>h.c0 _ (bj hi),fun i hi=>h.m0 _ (bj (by refine aa h.ml ?_;exact hi))⟩,by exact L1 [_] V0 (.n 60) 1 V0 (.m 2 (.n 30)) rfl kz,h.mr⟩
theorem z8(x:CellsAre cm [(PY,WE),(n₂,c₂)] cells):bW (fun XZ X0=>cells=[(WE,XZ),(c₂,X0)]) (fun XZ _=>XZ.data=.cell (cm PY)) (fun _ X0=>X0.data=.cell (cm n₂)):=by
 cases x with
 |cons h r=>
  cases r with
  |cons h' r=>
   cases r;exact⟨_,_,rfl,h,h'⟩
structure rv where
 (L TO CL HL ME MA dl ml:Nat)
structure yU where
 (Yt Yz Yq YB YO:Yb)
 (c1 c2 c3 c4 c5:Nat)
 (oc ot:Obj)
noncomputable def dY (a:rv) (v:yU) (Z:X6):X6:=(a.L+2,v.oc)::(a.L+1,v.ot)::(a.CL,lO v.Yt v.c1)::(a.HL,lO v.Yz v.c2)::(a.ME,lO v.Yq v.c3)::(a.MA,lO v.YB v.c4)::(a.TO,lO v.YO v.c5)::Z
inductive tI(g:X6):Value->Int×Int->Prop
 |mk (a:Nat) (i j:Int) (t u:Tok):(a,bm (.int i t) (.int j u) 0)∈g->tI g (.ref a) (i,j)
abbrev fz(g:X6):Yb->List (Int×Int)->Prop:=eC (tI g)
theorem fz.snoc(h:(a,bm (.int i t) (.int j u) 0)∈g)(y:fz g vs ps):fz g (vs++[.ref a]) (ps++[(i,j)]):=eC.snoc (.mk a i j t u h) y
theorem fz.mono(h:∀ p∈g,p∈g')(y:fz g vs ps):fz g' vs ps:=eC.mono (fun _ _ ⟨a,i,j,t,u,m⟩=> .mk a i j t u (h _ m)) y
theorem fz.at{g:X6}{vs:Yb}{ps:List (Int×Int)}{j:Nat}{v:Value}(y:fz g vs ps)(h:vs[j]?=some v):mf (fun(a:Nat) (x y:Int) (t u:Tok)=>v=.ref a) (fun a x y t u=>(a,bm (.int x t) (.int y u) 0)∈g) (fun _ x y _ _=>ps[j]?=some (x,y)):=by
 obtain⟨p,e,a,x,i,t,u,m⟩:=eC.at y h;exact⟨a,x,i,t,u,rfl,m,e⟩
structure qH(d:DS)(a:rv)(v:yU)(Qr Z:X6):Prop where
 c:IntsAre v.Yt d.Yg
 h:IntsAre v.Yz d.Yh
 m:IntsAre v.Yq d.means
 k:IntsAre v.YB d.marks
 t:fz Z v.YO d.YA
 oc:∃ x,v.oc.data=.cell x
 ot:v.ot.data=.cell (some (.ref a.TO))
 s:Qr.Sublist Z
structure i0(a:rv)(Yn:Int)(m:X7):Prop where
 de:m (Ye "deeds")=some (.ref a.dl)
 mo:m (Ye "modes")=some (.ref a.ml)
 c:m (Ye "codes")=some (.ref a.CL)
 h:m (Ye "homes")=some (.ref a.HL)
 e:m (Ye "means")=some (.ref a.ME)
 k:m (Ye "marks")=some (.ref a.MA)
 r:∃ t,m (Ye "here")=some (.int Yn t)
def lZ(Qr:X6)(r:Str×Str)(v:Value)(n':X6):Prop:=gQ (fun(T:Nat) (t u:Tok)=>v=.ref T) (fun T t u=>n'=(T,bm (.str r.1 t) (.str r.2 u) 0)::Qr)
def yV(Yk ag:Yc)(a:rv)(Qr:X6)(S:dv)(j:Nat)(m:X7)(n:X6):Prop:=
 (vK (fun r t u z=>S=.range r ag.length t u z))/\vJ (fun d v Z=>n.Perm (dY a v Z)) (fun _ _ Z=>S.ent∈Z) (fun d v Z=>qH d a v Qr Z) (fun d _ _=>i0 a d.Yn m) (fun d _ _=>c7 d j) (fun d _ _=>dZ Yk ag=eJ d j ((bA Yk ag).drop j))
theorem c7.mono(h:c7 d j)(hk:j<=k):c7 d k:=⟨h.hl,h.ml,KH h.cz hk,KH h.tz hk,KH h.kz (Mk 2 hk),h.hh,h.c0,h.m0,h.t0,h.mr,h.h0,h.h1⟩
theorem AH:([x,y]++(c++t::Z)).Perm (c++([x,y]++t::Z)):=Ld _ _ _
section
variable{c:Fx}{E:X8}{m:X7}{n pre Z Qr:X6}{J:ad Value}
theorem H5(hp:n.Perm (pre++dY a v Z))(hS:qH d a v Qr Z)(ok:c7 d j)(hj:j<=30)(hk:8<=c.k)(h:∀ t,J (.str d.text t) m n):Tr c E m n (call (.ref 274) [.ref a.CL, .ref a.HL, .ref a.ME, .ref a.MA]) J:=by
 obtain⟨h1,h2⟩:=(ok.mono hj).text2;have ht:=zN d.Yg d.Yh d.means d.marks v.Yt v.Yz v.Yq v.YB a.CL a.HL a.ME a.MA v.c1 v.c2 v.c3 v.c4 hS.c hS.h hS.m hS.k h1 h2;have ht:=ht.post (P':=fun v' n'=>aO (fun x=>(fc d.text v'/\x=[])) (fun x=>n'=x++[(a.CL,lO v.Yt v.c1),(a.HL,lO v.Yz v.c2),(a.ME,lO v.Yq v.c3),(a.MA,lO v.YB v.c4)])) fun v' n' hv=>⟨[],⟨hv.1,rfl⟩,hv.2⟩;have h0:(dY a v Z).Perm ([(a.CL,lO v.Yt v.c1),(a.HL,lO v.Yz v.c2),(a.ME,lO v.Yq v.c3),(a.MA,lO v.YB v.c4)]++([(a.L+2,v.oc),(a.L+1,v.ot)]++(a.TO,lO v.YO v.c5)::Z)):=AH (c:=[(a.CL,lO v.Yt v.c1),(a.HL,lO v.Yz v.c2),(a.ME,lO v.Yq v.c3),(a.MA,lO v.YB v.c4)]);have hq:=hp.trans ((h0.append_left pre).trans (Ld _ _ _));exact Hz ht hq hk fun v' x hv=>by
  obtain⟨⟨t,rfl⟩,rfl⟩:=hv;exact h t
theorem HX{Yh:Yc}{Yz:Yb}{hl kh:Nat}(hm:(hl,lO Yz kh)∈n)(hh:IntsAre Yz Yh)(Qe:bQ Yh)(hz:Yh.length<=1000){s:Int}{ts:Tok}(h0:-1<=s)(h1:s<Yh.length)(hk:3<=c.k)
  (h:∀ (C:Nat) (Yt:Yb) (kc:Nat),IntsAre Yt (aj Yh s)->J (.ref C) m ((C,lO Yt kc)::n)):Tr c E m n (call (.ref 269) [.ref hl, .int s ts]) J:=by
 have QF:=qL Yh Yz hl kh hh Qe hz s ts h0 h1;have QF:=QF.post (P':=fun v n'=>aO (fun x=>(eg (fun(C:Nat) (Yt:Yb) (kc:Nat)=>v=.ref C) (fun _ Yt _=>IntsAre Yt (aj Yh s)) (fun C Yt kc=>x=[(C,lO Yt kc)]))) (fun x=>n'=x++[(hl,lO Yz kh)])) fun v n' hv=>by
  obtain⟨C,Yt,kc,rfl,hc,rfl⟩:=hv;exact⟨_,⟨C,Yt,kc,rfl,hc,rfl⟩,rfl⟩
 obtain⟨r,hpz⟩:=jA hm;exact Hz QF hpz hk fun v x hv=>by
  obtain⟨C,Sb,kC,rfl,Vr,rfl⟩:=hv;exact h C Sb kC Vr
end
theorem DZ(h:pre=[a1,a2,a3,a4,a5]:=by rfl):(r::(pre++x::y::Z)).Perm (x::y::a5::a4::a3::a2::a1::r::Z):=by
 subst h;have h1:([r,a1,a2,a3,a4,a5]++([x,y]++Z)).Perm ([x,y]++([r,a1,a2,a3,a4,a5]++Z)):=Ld _ _ _;refine h1.trans (.cons _ (.cons _ ?_));exact(List.reverse_perm [r,a1,a2,a3,a4,a5]).symm.append_right Z
theorem wU:(g++(i::dY a v Z)).Perm (i::dY a v (g++Z)):=Ld g (i::dY a v []) Z
theorem uO(h:x∈Z):x∈dY a v Z:=xK h
theorem qD{l:List (Int×Int)}{q:Nat}{x y s code:Int}(h:l[q]?=some (x,y)):bB (l.take (q+1)) s code=bB (l.take q) s code++if (x==s&&y.fdiv 4096==code.fdiv 4096)=true then[y] else[]:=by
 unfold bB;refine aa Mn (aa h (aa (NO _) (aa (MQ _ _) (aa KP (aa List.filter_cons ?_)))))
 split<;>rfl
theorem oV{f:Int->Yc}{b:Nat}:∀ {l:Yc},(∀ x∈l,(f x).length<=b)->(l.flatMap f).length<=b*l.length
 |[],_=>K6 _
 |x::l,h=>by
  exact aa M1 (aa KJ (aa Le (aa (Nat.mul_add _ _ _) (aa (Nat.mul_one _) (aa (Nat.add_comm _ _) (NB (oV fun y hy=>h y (.tail _ hy)) (h x (.head _))))))))
theorem uN{d:DS}{j:Nat}(ok:c7 d j)(hj:j<=15)(place:Nat)(code:Int):(d.meant place code).length<=1000:=by
 have h0:=ok.h0;have h1:=ok.h1;have hl:=ok.hl;have cz:=ok.cz;have tz:=ok.tz;unfold DS.meant
 split
 ·have h:=dF ok.hh (d.Yh.length+1) d.Yn h0 (qa h1 hl)
  have h2:=oV (f:=fun s=>bB d.YA s code) (b:=15) (l:=aj d.Yh d.Yn) fun x _=>by
   unfold bB;refine aa (KG _) ?_;exact KH (Na _ _) (BR tz hj)
  have h3:(aj d.Yh d.Yn).length<=16:=by show (bx d.Yh (d.Yh.length+1) d.Yn).length<=16;exact L4 [_,_,_,_] V3 (.n 16) 1 V0 (.n 15) 1 V1 V2 1 V2 V0 1 V3 V1 rfl hj (tM h1) cz h
  exact KH h2 (KH (Mk 15 h3) (by decide))
 ·exact KC rfl
namespace DUk
def Q(Yk ag:Yc)(aT Yq:Yb)(dl ml kd km:Nat):Prop:=∀ (RQ:IntsAre aT Yk) (QS:IntsAre Yq ag) (hln:ag.length<=Yk.length) (hz:ag.length<=15) (hdz:Yk.length<=100) (hb:∀ y∈ag,0<=y/\y<65536),bF 10 279 [.ref dl, .ref ml] [(dl,lO aT kd),(ml,lO Yq km)] (lZ [(dl,lO aT kd),(ml,lO Yq km)] (dZ Yk ag)) eT
def P_(y:((Yc×Yc)×Yb×Yb)×(Nat×Nat)×Nat×Nat):Prop:=Q y.1.1.1 y.1.1.2 y.1.2.1 y.1.2.2 y.2.1.1 y.2.1.2 y.2.2.1 y.2.2.2
def y_:((Yc×Yc)×Yb×Yb)×(Nat×Nat)×Nat×Nat:=pk (inferInstance) P_
def Yk:Yc:=y_.1.1.1
def ag:Yc:=y_.1.1.2
def aT:Yb:=y_.1.2.1
def Yq:Yb:=y_.1.2.2
def dl:Nat:=y_.2.1.1
def ml:Nat:=y_.2.1.2
def kd:Nat:=y_.2.2.1
def km:Nat:=y_.2.2.2
def B:{B:oq->Prop//(∀ i,B i)->bF 10 279 [.ref dl, .ref ml] [(dl,lO aT kd),(ml,lO Yq km)] (lZ [(dl,lO aT kd),(ml,lO Yq km)] (dZ Yk ag)) eT}:=⟨_,fun h=>by
 refine' HD (binds:=[(Ye "deeds", .ref dl),(Ye "modes", .ref ml)]) (by k_is) (by k_is) (by exact fun s X=>LJ rfl) (by rfl) (by decide+kernel) (by rfl) (by rfl) (by rfl) ?k9 (by exact fun _ _ h=>h.elim) h
 case k9=>
  intro L cells Y;obtain⟨o1,o2,rfl,-⟩:=z8 Y;refine⟨?_,fun p hp=>?_⟩
  ·exact(rj L (l:=[2,1]) (by decide):([L+1+1,L+1]:List Nat).Nodup)
  ·exact ri (l:=[2,1]) (by decide) (KW (f:=(·.1)) hp)⟩
def i:oq:=pk xL B.1
abbrev L:Addr:=i.L
def E:X8:=i.E
def K:ad Flow:=i.K
def c:Fx:=i.fx 9 (Ye "_law_due") (ro Au) 279 (.ref 278)
theorem zZ(RQ:IntsAre aT Yk)(QS:IntsAre Yq ag)(hln:ag.length<=Yk.length)(hz:ag.length<=15)(hdz:Yk.length<=100)(hb:∀ y∈ag,0<=y/\y<65536):B.1 i:=by
 intro cells hE QR hK Y;obtain⟨o1,o2,rfl,d1,d2⟩:=z8 Y;clear Y;change o1.data=.cell none at d1;change o2.data=.cell none at d2;show Tr c E _ ((L+2,o1)::(L+1,o2)::[(dl,lO aT kd),(ml,lO Yq km)]) _ K;have QA:(dl,lO aT kd)∈[(dl,lO aT kd),(ml,lO Yq km)]:= .head _;have RH:(ml,lO Yq km)∈[(dl,lO aT kd),(ml,lO Yq km)]:=aK;generalize [(dl,lO aT kd),(ml,lO Yq km)]=Qr at hK QA RH⊢;revert Qr;refine wrap ?_;intro Qr hK QA RH;generalize P7:bindL _ _ _=m0;revert m0;refine wrap ?_;intro m0 P7;have me0:m0 (Ye "deeds")=some (.ref dl):=ae P7 rfl;have mo0:m0 (Ye "modes")=some (.ref ml):=ae P7 rfl;clear P7;have SZ:=RQ.length;have Rt:=QS.length;refine Gf (Gx (FZ ⟨K6 _,fun CL=>Gf (Gx (FZ ⟨K6 _,fun HL=>Gf (Gx (FZ ⟨K6 _,fun ME=>Gf (Gx (FZ ⟨K6 _,fun MA=>G8 (Gx (FZ ⟨K6 _,fun TO=>Hg (pre:=[_,_,_,_,_,_]) rfl rfl d2 (fun UB d2'=>Gf (G6 fun th=>?_)) rfl⟩))⟩))⟩))⟩))⟩));show Tr _ _ _ _ _ _;generalize PU:(fun y=>if y=Ye "here" then some (Value.int (-1) th) else _)=m1;revert m1;refine wrap ?_;intro m1 PU;have lk:i0 ⟨L,TO,CL,HL,ME,MA,dl,ml⟩ DS.init.Yn m1:=ae PU ⟨me0,mo0,rfl,rfl,rfl,rfl,th,rfl⟩;clear PU me0 mo0 d2;refine Gu (GH (K₁:=fun fl m n=>match fl with
  | .next=>vI (fun d v Z=>n.Perm (dY ⟨L,TO,CL,HL,ME,MA,dl,ml⟩ v Z)) (fun d v Z=>qH d ⟨L,TO,CL,HL,ME,MA,dl,ml⟩ v Qr Z) (fun d _ _=>i0 ⟨L,TO,CL,HL,ME,MA,dl,ml⟩ d.Yn m) (fun d _ _=>c7 d 15) (fun d _ _=>dZ Yk ag=(d.fin.text,Ye "none"))
  | .ret v=>aO (fun PS=>PS.Sublist n) (fun PS=>lZ Qr (dZ Yk ag) v PS)
  |_=>False) ?sF ?sR)
 case sR=>
  rintro fl m n h
  cases fl with
  |ret v=>
   obtain⟨PS,hs,hq⟩:=h;exact hK _ _ _ PS hs hq
  |brk=>exact h.elim
  |cont=>exact h.elim
  |next=>
   obtain⟨d,v,Z,hp,hS,lk,ok,he⟩:=h;refine Gd hp ?_;obtain⟨th,mh⟩:=lk.r;have ok0:=ok.h0;have VQ:=ok.h1;have Vc:=ok.hl;have okc:=ok.cz;have okk:=ok.kz;have Vv:=hS.k.length;have SS:=dF ok.hh (d.Yh.length+1) d.Yn ok0 (qa VQ Vc);change (aj d.Yh d.Yn).length<=_ at SS;refine Ge (Ga (FY lk.k (Gj ra PySem.F.slot_list_extend PySem.F.type_list_extend (Gq (F0 (GU (G2 (f:=269) (fun J h=>Gz (by k_is) h) (by k_is) (F0 (FY lk.h (F0 (FY mh (FZ (HX ir hS.h ok.hh (by exact L3 [_,_] V0 (.n 1000) 3 V0 V1 2 V1 V0 1 V1 (.n 15) rfl (eL Vc) (eG Vc) okc) ok0 (qa VQ Vc) (by show 3<=9;decide) fun C Sb kC hC=>⟨.list C Sb kC,fun q mC PN g=>g=[]/\IntsAre PN (((aj d.Yh d.Yn).take q).map fun s=>-1-s),rfl, .inl (.head _),?szE,⟨rfl, .nil⟩,?turnE,?lastE⟩)))))))))))))
   case szE=>
    have:=hC.length;show Sb.length<=1000;exact L4 [_,_,_,_] V3 (.n 1000) 1 V0 V1 1 V1 (.n 15) 1 V2 V0 1 V3 V2 rfl (tM VQ) okc SS (eL this)
   case turnE=>
    rintro E' q x Ra g2 I2 D2 C2 SK Rz RM SW Y N hq hx ⟨rfl,Rx⟩ xC hY hN;obtain⟨S3,to,rfl⟩:=bX hC hx;have Qo:=bD _ S3;generalize (aj d.Yh d.Yn).getD q 0=o at Qo⊢;revert o;refine wrap ?_;intro o Qo;refine GB (pre:=[_]) rfl xC fun Q9 Qz=>GI (F8 (G6 fun w1=>Gh aK Qz rfl (Hm fun w2=>(hY _ _ _ ⟨rfl,Q9,_,[],Qz, .refl _,rfl,?_⟩))));exact aa Qo (aa KP (aI Rx))
   case lastE=>
    rintro Dd mC PN g cD _ ⟨rfl,hs⟩;have hCn:=hC.length;rw[show dv.N (.list C Sb kC)=(aj d.Yh d.Yn).length from hCn,Lm] at hs;have Tq:=hs.length;rw[KG] at Tq;refine FZ (Gd (Lf (l₁:=[_,_,_,_,_,_,_])) (Je rfl aK (by lia) fun k'=>Gd (Lf (l₁:=[_,_,_,_,_,_,_])).symm ?_));have RY:qH d.fin ⟨L,TO,CL,HL,ME,MA,dl,ml⟩ ⟨v.Yt,v.Yz,v.Yq,v.YB++PN,v.YO,v.c1,v.c2,v.c3,k',v.c5,v.oc,v.ot⟩ Qr Z:=⟨hS.c,hS.h,hS.m,hS.k.append hs,hS.t,hS.oc,hS.ot,hS.s⟩;exact GM (GA (F0 (G2 (f:=274) (fun J h=>Gz (by k_is) h) (by k_is) (F0 (FY lk.c (F0 (FY lk.h (F0 (FY lk.e (F0 (FY lk.k (FZ (H5 (pre:=[_,_]) (.refl _) RY ok.fin (by decide) (by show 8<=9;decide) fun tt=>F0 (Gc fun tw=>FZ ⟨KC rfl,fun T=>hK _ _ _ _ (.cons₂ _ (.cons _ (.cons _ (.cons _ (.cons _ (.cons _ (.cons _ (.cons _ (.cons _ (.cons _ RY.s)))))))))) ⟨T,tt,tw,rfl,by exact aa he rfl⟩⟩))))))))))))))
 case sF=>
  intro K2 hK2;refine Hw (yV Yk ag ⟨L,TO,CL,HL,ME,MA,dl,ml⟩ Qr) QR
   (GT (by k_is) (by boot_fast) (by decide) (GN (by k_is) (by boot_fast) (by decide) (FY lk.mo (G9 (xK RH) (by exact L2 [_,_] V1 (.n 100000) 1 V0 (.n 15) 1 V1 V0 rfl hz (eL Rt)) fun t=>Hr fun rg t u z=>?ask))))
  case ask=>
   refine aa (show bl ((Yq.length:Nat):Int) t u z=bl ((ag.length:Nat):Int) t u z by rw[Rt]) ?_;refine⟨.range rg ag.length t u z,rfl,by show ag.length<=1000;exact bd hz,⟨⟨_,_,_,_,rfl⟩,DS.init,⟨[],[],[],[],[],0,0,0,0,0,o1,UB⟩,(rg,_)::Qr,?pm, .head _,⟨.nil, .nil, .nil, .nil, .nil,⟨_,d1⟩,d2', .cons _ (.refl _)⟩,lk, .init,rfl⟩,?held,?turn,?last⟩
   case pm=>exact(DZ (pre:=[(TO,_),(MA,_),(ME,_),(HL,_),(CL,_)]))
   case held=>
    rintro j m n ⟨-,d,v,Z,hp,hs,-⟩;exact .inl (hp.mem_iff.mpr (xK hs))
   case last=>
    rintro m n ⟨-,d,v,Z,hp,-,hS,lk,ok,he⟩;change c7 d ag.length at ok;change _=eJ d ag.length ((bA Yk ag).drop ag.length) at he;rw[lD] at he;exact F6 (hK2 _ _ _ ⟨d,v,Z,hp,hS,lk,ok.mono hz,he⟩)
   case turn=>
    rintro j x I oI m n KT hj hx ⟨-,d,v,Z,hp,Wi,hS,lk,ok,he⟩ RX;obtain⟨tj,rfl⟩:=hx;change j<ag.length at hj;rw[jC hj,jn] at he;have SI:=hb (ag.getD j 0) (bj hj);have Vp:=iH SI.1 SI.2;obtain⟨x,Tm⟩:=hS.oc;obtain⟨tm,em⟩:=fQ QS hj 0;obtain⟨td,ed⟩:=fQ RQ (show j<Yk.length from xN hj hln) 0;refine Gd (hp.cons _) (Go ?_);clear hp;obtain⟨th,mh⟩:=lk.r;show Tr _ _ _ _ _ _;generalize PU:(fun y=>if y=Ye "place" then some (Value.int (j:Nat) tj) else m y)=m1;revert m1;refine wrap ?_;intro m1 PU;have QQ:i0 ⟨L,TO,CL,HL,ME,MA,dl,ml⟩ d.Yn m1:=ae PU ⟨lk.de,lk.mo,lk.c,lk.h,lk.e,lk.k,th,mh⟩;have pl1:m1 (Ye "place")=some (.int (j:Nat) tj):=ae PU rfl;clear PU lk mh;refine G8 (GE (f:=255) (fun J h=>Gz (by k_is) h) (by k_is) (Gg (FY QQ.mo (FY pl1 (Gi (uR (hS.s.subset RH)) rfl em (by exact L2 [_,_] V1 (.n 100000) 1 V0 (.n 15) 1 V1 V0 rfl hz (eL Rt)) ((xY _ tm SI.1 SI.2).to (by show 3<=9;decide) fun v' hv=>?_))))));obtain⟨tc,rfl⟩:=hv;refine Hg (pre:=[_]) rfl rfl Tm (fun oc' WL=>?_) rfl;have QD:qH d ⟨L,TO,CL,HL,ME,MA,dl,ml⟩ ⟨v.Yt,v.Yz,v.Yq,v.YB,v.YO,v.c1,v.c2,v.c3,v.c4,v.c5,oc',v.ot⟩ Qr Z:=⟨hS.c,hS.h,hS.m,hS.k,hS.t,⟨_,WL⟩,hS.ot,hS.s⟩;show Tr c E m1 ((I,oI)::dY ⟨L,TO,CL,HL,ME,MA,dl,ml⟩ ⟨v.Yt,v.Yz,v.Yq,v.YB,v.YO,v.c1,v.c2,v.c3,v.c4,v.c5,oc',v.ot⟩ Z) _ _;obtain⟨v1,hv1,RV⟩:aO (fun(v1:yU)=>v1=⟨v.Yt,v.Yz,v.Yq,v.YB,v.YO,v.c1,v.c2,v.c3,v.c4,v.c5,oc',v.ot⟩) (fun v1=>v1.oc.data=.cell (some (.int (bg (ag.getD j 0)) tc))):=⟨_,rfl,WL⟩;rw[←hv1] at QD⊢;clear hv1 hS Tm WL;generalize bg (ag.getD j 0)=code at he Vp RV;revert code;refine wrap ?_;intro code he Vp RV;clear SI em;obtain⟨th,mh⟩:=QQ.r;have SC:=QD.c.length;have hhn:=QD.h.length;have hen:=QD.m.length;have Vv:=QD.k.length;have htn:=QD.t.len;have Vc:=ok.hl;have okm:=ok.ml;have okc:=ok.cz;have okt:=ok.tz;have okk:=ok.kz;have ok0:=ok.h0;have VQ:=ok.h1;refine Gk (Gb (Gg (FY QQ.de (FY pl1 (Gi (uR (QD.s.subset QA)) rfl ed (by exact L2 [_,_] V1 (.n 100000) 1 V0 (.n 100) 1 V1 V0 rfl hdz (eL SZ)) (F7 fun u1=>GY (F9 ?_)))))));unfold DS.step at he
    by_cases h0:Yk.getD j 0=0
    ·refine aa (show (Yk.getD j 0==0)=true from by rw[h0];rfl) ?_
     rw[KZ h0] at he;refine Ge (Ga (GJ (a:=L+1) rfl cq QD.ot (Gj rb NE NF (Gq (F0 (GA (F0 (FY mh (F0 (GJ (a:=L+2) rfl aK RV (FZ ⟨KC rfl,fun T=>FZ (Gs (pre:=[_,_,_,_,_,_,_,_]) rfl (by lia) (Gd (List.Perm.swap _ _ _) (F6 (F6 (RX _ _ _ ⟨_,rfl,⟨_,_,_,_,rfl⟩,d.tell code,⟨v1.Yt,v1.Yz,v1.Yq,v1.YB,v1.YO++[.ref T],v1.c1,v1.c2,v1.c3,v1.c4,v1.c5+1,v1.oc,v1.ot⟩,(T,_)::Z,(Lf (l₁:=[_,_,_,_,_,_,_])).symm, .tail _ Wi,⟨QD.c,QD.h,QD.m,QD.k,(QD.t.mono fun _ hp=> .tail _ hp).snoc (.head _),⟨_,RV⟩,QD.ot, .cons _ QD.s⟩,QQ,ok.tell Vp,he⟩)))))⟩)))))))))))
    refine aa (show (Yk.getD j 0==0)=false from LN.mpr h0) ?_;rw[KO h0] at he;refine Gk (Tr.mono (K:=fun b m n=>b=decide (Yk.getD j 0=1/\0<d.Yn)/\m1=m/\n=(I,oI)::dY ⟨L,TO,CL,HL,ME,MA,dl,ml⟩ v1 Z) ?tst ?brs)
    case tst=>
     refine GR (Gy (Gb (Gg (FY QQ.de (FY pl1 (Gi (uR (QD.s.subset QA)) rfl ed (by exact L2 [_,_] V1 (.n 100000) 1 V0 (.n 100) 1 V1 V0 rfl hdz (eL SZ)) (F7 fun u2=>GY (F9 ?_))))))))
     by_cases h1:Yk.getD j 0=1
     ·refine aa (show (Yk.getD j 0==1)=true from by rw[h1];rfl) ?_
      refine Gy (Gb (FY mh (F7 fun u3=>HC (F9 ?_))))
      by_cases h2:0<d.Yn
      ·exact aa (KY h2) (He ⟨(KY ⟨h1,h2⟩).symm,rfl,rfl⟩)
      ·exact aa (K0 h2) ⟨(K0 fun h=>h2 h.2).symm,rfl,rfl⟩
     ·exact aa (show (Yk.getD j 0==1)=false from LN.mpr h1) ⟨(K0 fun h=>h1 h.1).symm,rfl,rfl⟩
    case brs=>
    rintro _ _ _ ⟨rfl,rfl,rfl⟩
    by_cases TH:Yk.getD j 0=1/\0<d.Yn
    ·refine aa (KY TH) ?_
     rw[KZ TH] at he;obtain⟨tho,eho⟩:=fQ QD.h (show d.Yn.toNat<d.Yh.length by have:=TH.2;exact AT TH.2 VQ Vc) (-1);refine Ge (Ga (FY QQ.k (Gj uQ NE NF (Gq (F0 (F8 (G6 fun u4=>FY mh (Hm fun u5=>FZ (Gs (pre:=[_,_,_,_,_,_]) rfl (by lia) (Gf (Gg (FY QQ.h (FY mh (Gi iu (by have:=TH.2;exact Ff TH.2) eho (by lia) (F6 (F6 (F6 (RX _ _ _ ⟨_,rfl,⟨_,_,_,_,rfl⟩,d.close,⟨v1.Yt,v1.Yz,v1.Yq,v1.YB++[.int (-1-d.Yn) u5],v1.YO,v1.c1,v1.c2,v1.c3,v1.c4+1,v1.c5,v1.oc,v1.ot⟩,Z, .refl _,Wi,⟨QD.c,QD.h,QD.m,aI QD.k,QD.t,⟨_,RV⟩,QD.ot,QD.s⟩,⟨QQ.de,QQ.mo,QQ.c,QQ.h,QQ.e,QQ.k,_,rfl⟩,ok.close TH.2,he⟩))))))))))))))))))
    ·refine aa (K0 TH) ?_
     rw[KO TH] at he;clear h0 TH ed u1 td;refine Gf (Gx (F0 (G6 fun u3=>FZ ⟨KC rfl,fun M0=>?_⟩)));show Tr _ _ _ _ _ _;generalize PU:(fun y=>if y=Ye "meant" then some (Value.ref M0) else m1 y)=m2;revert m2;refine wrap ?_;intro m2 PU;have Rd:i0 ⟨L,TO,CL,HL,ME,MA,dl,ml⟩ d.Yn m2:=ae PU ⟨QQ.de,QQ.mo,QQ.c,QQ.h,QQ.e,QQ.k,th,mh⟩;have pl2:m2 (Ye "place")=some (.int (j:Nat) tj):=ae PU pl1;have me2:m2 (Ye "meant")=some (.ref M0):=ae PU rfl;clear PU QQ pl1 mh;obtain⟨th,mh⟩:=Rd.r;refine Gu (GH (K₁:=fun fl m n=>fl=.next/\y9 (fun Z1 M ws k=>n.Perm ((I,oI)::dY ⟨L,TO,CL,HL,ME,MA,dl,ml⟩ v1 Z1)) (fun Z1 _ _ _=>(∀ p∈Z,p∈Z1)) (fun Z1 _ _ _=>Qr.Sublist Z1) (fun Z1 M ws k=>(M,lO ws k)∈Z1) (fun _ _ ws _=>IntsAre ws (d.meant j code)) (fun _ M _ _=>m (Ye "meant")=some (.ref M)) (fun _ _ _ _=>i0 ⟨L,TO,CL,HL,ME,MA,dl,ml⟩ d.Yn m)) ?sM ?sN)
     case sM=>
      intro K3 RW;refine GV (Tr.mono (K:=fun b m n=>b=decide (0<j/\8191<code/\eM code=true)/\m2=m/\aO (fun g=>n=g++((I,oI)::dY ⟨L,TO,CL,HL,ME,MA,dl,ml⟩ v1 Z)) (fun g=>(M0,listOf [.int (-1) u3].toArray 0)∈g)) ?tst ?brs)
      case tst=>
       refine GR (Gy (Gb (FY pl2 (F7 fun u4=>HC (F9 ?_)))))
       by_cases hp:(0:Int)<(j:Nat)
       ·refine aa (KY hp) ?_
        refine Gy (Gb (GJ (a:=L+2) rfl cq RV (F7 fun u5=>HC (F9 ?_))))
        by_cases hc:8191<code
        ·refine aa (KY hc) ?_
         refine Gy (Gb (GN (by k_is) (by boot_fast) (by decide) (GU (GT (by k_is) (by boot_fast) (by decide) (F7 fun u6=>Hr fun rg2 ta ub zc=>⟨.range rg2 3 ta ub zc,fun q mC PN g=>g=[]/\IntsAre PN ((List.range q).map fun p=>(code.fdiv (16^p)).fmod 16),rfl, .inl (.head _),KC rfl,⟨rfl, .nil⟩,?turnP,?lastP⟩)))))
         case turnP=>
          rintro E' q x Ra g2 I2 D2 C2 SK Rz RM SW Y N hq ⟨tq,rfl⟩ ⟨rfl,Rx⟩ xC hY hN;change q<3 at hq;have e8:(16:Int)^(q:Int).toNat≠0/\((16:Int)^(q:Int).toNat).natAbs<1073741824:=sq (P:=fun p=>(16:Int)^p.toNat≠0/\((16:Int)^p.toNat).natAbs<1073741824) (iX) (by lia) (by decide) (by decide) (by decide);refine GB (pre:=[_]) rfl xC fun Q9 Qz=>GI (F8 (F8 (GS (a:=L+2) (gM cq) RV (F8 (F7 fun w1=>Gh aK Qz rfl (H3 (iX) (by lia) (by decide) fun w2=>GF e8.1 e8.2 fun w3=>F7 fun w4=>GO (by decide) fun w5=>(hY _ _ _ ⟨rfl,Q9,_,[],Qz, .refl _,rfl,?_⟩)))))));exact aa (lK _ _) (aI Rx)
         case lastP=>
          rintro D4 mC4 Vi g4 cD4 _ ⟨rfl,Tp⟩;change IntsAre Vi ((List.range 3).map _) at Tp;refine IZ (.head _) Tp (by show 0<3;decide) fun M tM h1 h2=>F7 fun u7=>HC (F9 ?_);have ho:decide (12<M)=eM code:=by
           unfold eM;rw[M2];simp only[List.all_eq_true,MJ]
           constructor
           ·exact fun h p hp=>LT h (h2 _ (KW hp))
           ·intro h
            obtain⟨p,hp,rfl⟩:=KK.mp h1;exact h p hp
          refine aa ho ?_
          by_cases ho2:eM code=true
          ·refine aa ho2 ?_
           exact He ⟨(KY ⟨by lia,hc,rfl⟩).symm,rfl,[_,_,_],rfl,cq⟩
          ·exact aa (Bool.not_eq_true _|>.mp ho2) ⟨(K0 fun h=>KR h.2.2).symm,rfl,[_,_,_],rfl,cq⟩
        ·exact aa (K0 hc) ⟨(K0 fun h=>hc h.2.1).symm,rfl,[_],rfl, .head _⟩
       ·refine aa (K0 hp) ?_
        exact⟨(K0 fun h=>hp (xR h.1)).symm,rfl,[_],rfl, .head _⟩
      case brs=>
       rintro _ _ _ ⟨rfl,rfl,g,rfl,hg⟩
       by_cases hc:0<j/\8191<code/\eM code=true
       ·refine aa (KY hc) ?_
        have VB:d.meant j code=(aj d.Yh d.Yn).flatMap fun s=>bB d.YA s code:=KZ hc;rw[VB] at RW;clear VB hc he;refine Gd wU ?_;have SS:=dF ok.hh (d.Yh.length+1) d.Yn ok0 (qa VQ Vc);refine Gf (G2 (f:=269) (fun J h=>Gz (by k_is) h) (by k_is) (F0 (FY Rd.h (F0 (FY mh (FZ (HX iu QD.h ok.hh (by lia) ok0 (qa VQ Vc) (by show 3<=9;decide) fun C Sb kC hC=>?_)))))));change (aj d.Yh d.Yn).length<=_ at SS;have hCn:=hC.length;refine Jv (FY rfl ⟨.list C Sb kC,fun q mC PN g=>g=[]/\IntsAre PN (((aj d.Yh d.Yn).take q).flatMap fun s=>bB d.YA s code),rfl, .inl (.head _),by show Sb.length<=90;lia,⟨rfl, .nil⟩,?turnA,?lastA⟩)
        case lastA=>
         rintro Da mC SV gA cDa ⟨rfl,VI⟩;rw[show dv.N (.list C Sb kC)=(aj d.Yh d.Yn).length from hCn,Lm] at VI;exact F6 (RW _ _ _ ⟨rfl,[(Da,_),(C,_)]++(g++Z),Da,SV,cDa,wU (g:=[(Da,_),(C,_)]),fun p hp=>KB _ (KB _ hp),(QD.s.trans (Lz _ _)).trans (Lz _ _), .head _,VI,rfl,⟨Rd.de,Rd.mo,Rd.c,Rd.h,Rd.e,Rd.k,th,mh⟩⟩)
        case turnA=>
         rintro E' j2 x Ra g2 I2 D2 C2 SK Rz RM SW hj3 hx ⟨rfl,Rx⟩ xC;obtain⟨S3,to,rfl⟩:=bX hC hx;have Qo:=bD _ S3;have Tn:((aj d.Yh d.Yn).take (j2+1)).flatMap (fun s=>bB d.YA s code)=((aj d.Yh d.Yn).take j2).flatMap (fun s=>bB d.YA s code)++bB d.YA ((aj d.Yh d.Yn).getD j2 0) code:=by refine aa Qo (aa Oa ?_);simp
         generalize (aj d.Yh d.Yn).getD j2 0=o at Tn⊢;revert o;refine wrap ?_;intro o Tn;refine GB (pre:=[_]) rfl xC fun Q9 Qz=>GS (a:=L+1) (gM cq) QD.ot ⟨rfl, .list TO v1.YO v1.c5,fun q mC PN g=>(g=[]/\mC (Ye "spot")=some (.int o to))/\IntsAre PN (((aj d.Yh d.Yn).take j2).flatMap (fun s=>bB d.YA s code)++bB (d.YA.take q) o code),Q9,_,[],rfl,Qz, .refl _, .inl Am,by show v1.YO.length<=1000;lia,⟨⟨rfl,rfl⟩,by refine aa List.take_zero ?_;show IntsAre Ra (_++[]);refine aa (Lj _) ?_;exact Rx⟩,?turnB,?lastB⟩
         case lastB=>
          rintro mC Wx g ⟨⟨rfl,-⟩,hi⟩;rw[show dv.N (.list TO v1.YO v1.c5)=d.YA.length from htn,Lm] at hi;refine⟨rfl,?_⟩;exact aa Tn hi
         case turnB=>
          rintro E3 q x Wx g3 I3 D3 C3 oI3 oC3 mC3 cD3 Y N hq hx ⟨⟨rfl,hsp⟩,TS⟩ Ve hY hN;obtain⟨ta,x1,y1,tx,ty,rfl,hta,S7⟩:=QD.t.at hx;have Tq:=qD (s:=o) (code:=code) S7;refine Hp (.inl (gM (dj (uO (KB _ hta))))) (GB (pre:=[_]) rfl Ve fun oC4 xC4=>GB (pre:=[_]) rfl xC4 fun oC5 Tb=>HS (GR (Gy (Gb (Gh aK Tb rfl (Gh aK Tb hsp (GY (F9 ?tb))))))))
          case tb=>
           by_cases h1:x1=o
           ·refine aa (Mz.mpr h1) ?_
            refine Gy (Gb (F8 (Gh aK Tb rfl (F7 fun w1=>GF (by decide) (by decide) fun w2=>F8 (GS (a:=L+2) (gM cq) RV (F7 fun w3=>GF (by decide) (by decide) fun w4=>GY (F9 ?_)))))))
            by_cases h2:y1.fdiv 4096=code.fdiv 4096
            ·refine aa (Mz.mpr h2) ?_
             refine He (Gh aK Tb rfl (hY _ _ _ ⟨rfl,oC5,_,[],Tb, .refl _,⟨rfl,hsp⟩,?_⟩));refine aa Tq (aa (KZ (by rw[Mz.mpr h1,Mz.mpr h2];rfl)) (ae (KS _ _ _) ?_));exact aI TS
            ·refine aa (LN.mpr h2) ?_
             refine hN _ _ ⟨rfl,oC5,_,[],Tb, .refl _,⟨rfl,hsp⟩,?_⟩;refine aa Tq (aa (KO (by rw[LN.mpr h2,Bool.and_false];exact KR)) (aa (Lj _) ?_));exact TS
           ·refine aa (LN.mpr h1) ?_
            refine hN _ _ ⟨rfl,oC5,_,[],Tb, .refl _,⟨rfl,hsp⟩,?_⟩;refine aa Tq (aa (KO (by rw[LN.mpr h1];exact KR)) (aa (Lj _) ?_));exact TS
       ·refine aa (K0 hc) ?_
        exact F6 (RW _ _ _ ⟨rfl,g++Z,M0,[.int (-1) u3],0,wU,fun p hp=>KB _ hp,QD.s.trans (Lz _ _),KA _ hg,by refine aa (show d.meant j code=[-1] from KO hc) ?_;exact .cons _ _ .nil,me2,Rd⟩)
     case sN=>
      rintro _ m n ⟨rfl,Z1,M,ws,k,hp,hZ1,VH,hM,U6,me,Qf⟩;refine Gd hp ?_;have QN:qH d ⟨L,TO,CL,HL,ME,MA,dl,ml⟩ v1 Qr Z1:=⟨QD.c,QD.h,QD.m,QD.k,QD.t.mono hZ1,QD.oc,QD.ot,VH⟩;have W6:=hZ1 _ Wi;have SI:∀ x∈d.meant j code,-1<=x/\x<32768:=fun x=>yt ok;have hme:=uN ok (by exact L2 [_,_] V1 (.n 15) 1 V0 (.n 15) 1 (.a V1 W1) V0 rfl hz hj) j code;clear hp hZ1 VH QD Wi me2 pl2 Rd mh;obtain⟨th,mh⟩:=Qf.r;refine Gk (Gb (FY me (Gx (FZ ⟨K6 _,fun N=>JV (dj (uO hM)) (.head _) (F9 ?_)⟩))));generalize d.meant j code=mt at U6 he SI hme;revert mt;refine wrap ?_;intro mt U6 he SI hme;have hwn:=U6.length
      cases U6 with
      |nil=>
       change dZ Yk ag=(d.text,bU code) at he;have hr:=gY code;have hn:=ju hr;refine Gf (GE (f:=236) (fun J h=>Gz (by k_is) h) (by k_is) (GE (f:=262) (fun J h=>Gz (by k_is) h) (by k_is) (GJ (a:=L+2) rfl cq RV ((oH code tc Vp.1 Vp.2).to (by show 3<=9;decide) fun v hv=>?_))));obtain⟨v6,rfl⟩:=hv;refine(oF (ac code) v6 (bd (eL hr))).to (by show 2<=9;decide) fun v hv=>?_;obtain⟨v7,rfl⟩:=hv;have hw:bU code=Ye "Prefix "++Txt.slice (aw (ac code)) none (some 4)++Ye " of QName \""++aw (ac code)++Ye "\" is not declared in scope":=rfl;generalize aw (ac code)=Uz at hn hw⊢;revert Uz;refine wrap ?_;intro Uz hn hw;have QO:=L7 Uz none (some 4);refine Gf (F8 (F8 (F8 (F8 (Gc fun w1=>HO (FY rfl ⟨_,_,rfl,bd hn,fun w2=>Gm (KC rfl) ?n1 fun w3=>Gc fun w4=>Gm ?n2 (KC rfl) fun w5=>FY rfl (Gm ?n3 ?n4 fun w6=>Gc fun w7=>Gm ?n5 (KC rfl) fun w8=>?n6)⟩))))))
       case n1=>exact L2 [_,_] V1 (.n 1000000) 1 V0 (.n 24) 1 V1 V0 rfl hn QO
       case n2=>refine aa (KD _ _) ?_;show 7+_<=_;exact L2 [_,_] (.a (.n 7) V1) (.n 1000000) 1 V0 (.n 24) 1 V1 V0 rfl hn QO
       case n3=>(refine aa (KD _ _) ?_;rw[KD]);show 7+_+11<=_;exact L2 [_,_] (.a (.a (.n 7) V1) (.n 11)) (.n 1000000) 1 V0 (.n 24) 1 V1 V0 rfl hn QO
       case n4=>exact bd hn
       case n5=>(refine aa (KD _ _) ?_;rw[KD,KD]);show 7+_+11+_<=_;exact L2 [_,_] (.a (.a (.a (.n 7) V1) (.n 11)) V0) (.n 1000000) 2 V0 (.n 24) 1 V1 V0 rfl hn QO
       case n6=>
        refine ae hw ?_;refine GM (GA (F0 (G2 (f:=274) (fun J h=>Gz (by k_is) h) (by k_is) (F0 (FY Qf.c (F0 (FY Qf.h (F0 (FY Qf.e (F0 (FY Qf.k (FZ (H5 (pre:=[_,_]) (.refl _) QN ok (by exact L2 [_,_] V1 (.n 30) 1 V0 (.n 15) 1 (.a V1 W1) V0 rfl hz hj) (by show 8<=9;decide) fun tt=>F0 (FY rfl (FZ ⟨KC rfl,fun T=>RX _ _ _<|hK2 _ _ _ ⟨_, .cons₂ _ (.cons _ (.cons _ (.cons _ (.cons _ (.cons _ (.cons _ (.cons _ (.cons _ (.cons _ QN.s))))))))),T,tt,w8,rfl,by exact aa he rfl⟩⟩)))))))))))))))
      |cons i ti U6=>
       change dZ Yk ag=eJ (d.add code i) (j+1) ((bA Yk ag).drop (j+1)) at he;have hib:=SI i (.head _);clear SI;have lc:∀ (vs:Yb) (x:Value),vs.length<=100->(vs++[x]).length<=100000:=fun vs x h=>aa KJ (KH (Mt h) (by decide));refine F6 (Ge (Ga (FY Qf.c (Gj iu NE NF (Gq (F0 (GJ (a:=L+2) rfl cq RV (FZ (Gs (pre:=[_,_,_,_]) rfl (by lia) ?_)))))))));refine Ge (Ga (FY Qf.h (Gj ra NE NF (Gq (F0 (FY mh (FZ (Gs (pre:=[_,_,_,_,_]) rfl (by lia) ?_))))))));refine Ge (Ga (FY Qf.e (Gj uQ NE NF (Gq (F0 (Gg (FY me (F7 fun w1=>Gi (j:=0) (Ep hM) rfl rfl (KH (Mf hwn) (KH hme (by decide))) (FZ (Gs (pre:=[_,_,_,_,_,_]) rfl (by lia) ?_))))))))));have e2:(v1.Yt++[Value.int code tc]).length=d.Yg.length+1:=aa KJ (aa SC rfl);have e1:(((v1.Yt++[Value.int code tc]).length:Nat):Int)-1=(d.Yg.length:Int):=by refine aa e2 ?_;exact tY
       refine Ge (Ga (FY Qf.k (Gj rb NE NF (Gq (F0 (F8 (GN (by k_is) (by boot_fast) (by decide) (FY Qf.c (G9 iu (lc _ _ (by lia)) fun w2=>F7 fun w3=>Hm fun w4=>FZ (Gs (pre:=[_,_,_,_,_,_,_]) rfl (by lia) ?_))))))))));refine aa e1 ?_;refine Gk (Gb (F8 (GJ (a:=L+2) rfl cq RV (F7 fun w5=>GF (by decide) (by decide) fun w6=>F7 fun w7=>GY (F9 ?_)))))
       by_cases h4:code.fdiv 4096=4
       ·refine aa (Mz.mpr h4) ?_
        have hk4:(d.add code i).marks=d.marks++[(d.Yg.length:Int)]:=by show _++(if _ then _ else _)=_;exact aa (KZ h4) (aa (Lj _) rfl)
        have hh4:(d.add code i).Yn=(d.Yg.length:Int):=KZ h4;refine Gf (F8 (GN (by k_is) (by boot_fast) (by decide) (FY Qf.c (G9 iu (lc _ _ (by lia)) fun w8=>F7 fun w9=>Hm fun wa=>?_))));refine aa e1 ?_;exact Gd (List.Perm.swap _ _ _) (F6 (F6 (F6 (F6 (RX _ _ _ ⟨_,rfl,⟨_,_,_,_,rfl⟩,d.add code i,⟨v1.Yt++[.int code tc],v1.Yz++[.int d.Yn th],v1.Yq++[.int i ti],v1.YB++[.int d.Yg.length w4],v1.YO,v1.c1+1,v1.c2+1,v1.c3+1,v1.c4+1,v1.c5,v1.oc,v1.ot⟩,(N,_)::Z1,(Lf (l₁:=[_,_,_,_,_,_,_])).symm, .tail _ W6,⟨aI QN.c,aI QN.h,aI QN.m,by refine aa hk4 ?_;exact aI QN.k,QN.t.mono fun _ hp=> .tail _ hp,⟨_,RV⟩,QN.ot, .cons _ QN.s⟩,by refine aa hh4 ?_;exact⟨Qf.de,Qf.mo,Qf.c,Qf.h,Qf.e,Qf.k,wa,rfl⟩,ok.add Vp hib,he⟩)))))
       ·refine aa (LN.mpr h4) ?_
        have hk4:(d.add code i).marks=(d.marks++[(d.Yg.length:Int)])++[-((d.Yg.length+1:Nat):Int)]:=by show _++(if _ then _ else _)=_;exact aa (KO h4) rfl
        have hh4:(d.add code i).Yn=d.Yn:=KO h4;refine Ge (Ga (FY Qf.k (Gj rb NE NF (Gq (F0 (Kw (GN (by k_is) (by boot_fast) (by decide) (FY Qf.c (G9 iu (lc _ _ (by lia)) fun w8=>⟨_,_,rfl,fun w9=>FZ (Gs (pre:=[_,_,_,_,_,_,_]) rfl (lc _ _ (by lia)) ?_)⟩)))))))));refine aa e2 ?_;exact Gd (List.Perm.swap _ _ _) (F6 (F6 (F6 (F6 (RX _ _ _ ⟨_,rfl,⟨_,_,_,_,rfl⟩,d.add code i,⟨v1.Yt++[.int code tc],v1.Yz++[.int d.Yn th],v1.Yq++[.int i ti],(v1.YB++[.int d.Yg.length w4])++[.int (-((d.Yg.length+1:Nat):Int)) w9],v1.YO,v1.c1+1,v1.c2+1,v1.c3+1,v1.c4+1+1,v1.c5,v1.oc,v1.ot⟩,(N,_)::Z1,(Lf (l₁:=[_,_,_,_,_,_,_])).symm, .tail _ W6,⟨aI QN.c,aI QN.h,aI QN.m,by refine aa hk4 ?_;exact aI (aI QN.k),QN.t.mono fun _ hp=> .tail _ hp,⟨_,RV⟩,QN.ot, .cons _ QN.s⟩,by refine aa hh4 ?_;exact⟨Qf.de,Qf.mo,Qf.c,Qf.h,Qf.e,Qf.k,th,mh⟩,ok.add Vp hib,he⟩)))))
theorem go:Q Yk ag aT Yq dl ml kd km:=fun RQ QS hln hz hdz hb=>B.2 (cU (P:=B.1) (zZ RQ QS hln hz hdz hb))
end DUk
theorem A9(Yk ag:Yc)(aT Yq:Yb)(dl ml kd km:Nat):DUk.Q Yk ag aT Yq dl ml kd km:=cU (P:=DUk.P_) DUk.go (((Yk,ag),(aT,Yq)),((dl,ml),(kd,km)))
section
variable{c:Fx}{E:X8}{m:X7}{n:X6}{J:ad Value}{env:Env}
theorem ay.list{s:Shared}(l:ay c s m n){a:Addr}{its:Array Value}(hm:c.h₀.IsList a its):s.heap.IsList a its:=by
 obtain⟨o,e,r⟩:=hm;exact⟨o,l.F.keep _ _ e,r⟩
theorem Kk{o:X9}{j:Nat}{kk:Nat}{pc ps p:Pos}(h:Tr c E m n (eval o env) fun v m' n'=>rx (fun(l:Nat) (vs:Yb)=>v=.ref l) (fun l vs=>c.h₀.IsList l vs.toArray) (fun _ vs=>vs.length<=1000) (fun _ vs=>∀ D:Nat,J (.ref D) m' ((D,lO (vs.take j) 0)::n')))
  (hs:∀ l r,subscripted (.Slice none (some (.Constant (.int (j:Int)) kk pc)) none ps) false (.ref l) (.ref r)=operate [.ref r, .ref l] (getItem (.ref l) (.ref r)):=by intro l r;with_unfolding_all rfl) (ht:∀ l r,letTemporaryGo o (.ref l) r=Pure.pure ():=by intro _ _;with_unfolding_all rfl):
  Tr c E m n (eval (.Subscript o (.Slice none (some (.Constant (.int (j:Int)) kk pc)) none ps) p) env) J:= .mk fun s l=>
 Oc (up (h s l) fun v s1 hv=>wpAny_Slice (by
  obtain⟨m',n',l1,a,vs,e,hm,hz,q⟩:=hv;subst e;refine KE (Nh (k:=kk) (pos:=pc) (KE ?_));refine slice_list (s:={s1 with toks:=_}) l1.F l1.N (l1.list hm) .none (.int _ _) (fun h' F' N'=>?_) (hs a _) (ht a) (by refine aa Lh (aa Lw ?_);exact bd hz);rw[slicePick_upto'] at N';exact⟨m',_,l1.to F' N' (l1.D.fresh fun p hp=>LI (KQ (l1.N p hp).1)) l1.G rfl,q _⟩))
theorem Kp{a:Addr}{vs:Yb}{ns:Yc}(hm:c.h₀.IsList a vs.toArray)(hi:IntsAre vs ns)(h:∀ t,J (.int ns.sum t) m n):Tr c E m n (call (.builtin "sum") [.ref a]) J:= .mk fun s l=>
 LSm.sum_ints l.F l.N rfl (l.list hm) hi fun h' tk t F N=>⟨m,n,l.to F N l.D l.G rfl,h t⟩
inductive j4:List X9->Yc->Prop
 |nil:j4 [] []
 |cons {i:Int} {k:Nat} {p:Pos} {r:List X9} {is:Yc} (h:j4 r is):j4 (.Constant (.int i) k p::r) (i::is)
theorem JM{c:Fx}{E:X8}{m:X7}{n:X6}{env:Env}{p:Pos}{es:List X9}{is:Yc}(h:j4 es is):∀ {K:ad Yb},(∀ vs,IntsAre vs is->K vs m n)->Tr c E m n (spliced (backTo p (starEach es env))) K:=by
 induction h with
 |nil=>intro K k;exact FZ (k [] .nil)
 |cons h ih=>intro K k;exact F0 (F7 fun t=>ih fun vs hv=>k (.int _ t::vs) (.cons _ _ hv))
theorem JY{c:Fx}{E:X8}{m:X7}{n:X6}{K:ad Flow}{es:List X9}{is:Yc}{vs:Yb}{j:Nat}{r:Yd}{x y:Str}{p' pl py pc ps psb pb pa:Pos}{kk:Nat}{l:Addr}{p0:Sem Flow}
  (hp:p0=execs (.Assign [.Name x p'] (.BinOp (.List es pl) .Add (.Subscript (.Name y py) (.Slice none (some (.Constant (.int (j:Int)) kk pc)) none ps) psb) pb) pa::r) c.env)
  (he:j4 es is) (hi:is.length<=100) (hy:m y=some (.ref l)) (hl:c.h₀.IsList l vs.toArray) (hz:vs.length<=1000)
  (h:∀ (D1 D2 D3:Nat) ws k1,IntsAre ws is->Tr c E (fun y=>if y=x then some (.ref D3) else m y) ((D3,lO (ws++vs.take j) 0)::(D2,lO (vs.take j) 0)::(D1,lO ws k1)::n) (execs r c.env) K)
  (Ry:swapsWith (.BinOp (.List es pl) .Add (.Subscript (.Name y py) (.Slice none (some (.Constant (.int (j:Int)) kk pc)) none ps) psb) pb) (some (.Name x p')) pa.line c.env=Pure.pure false:=by rfl)
  (hx:c.env.kindOf x=some .local:=by rfl) (hyk:c.env.kindOf y=some .local:=by rfl) (hd:(y==("__debug__":Str))=false:=by decide):Tr c E m n p0 K:=by
 subst hp;refine Gf (F8 (Gx (JM he fun ws hw=>⟨?_,fun D1=>Kk (FY hy ⟨l,vs,rfl,hl,hz,fun D2=>H7 aK (.head _) ?_ fun D3=>h D1 D2 D3 ws 0 hw⟩ hyk hd)⟩))) hx Ry
 ·exact KH (Mf hw.length) (KH hi (by decide))
 ·refine KH (NB (KH (Mf hw.length) hi) (KH (List.length_take_le' _ _) hz)) (by decide:100+1000<=100000)
noncomputable def Ck:Yc:=[43024,39940,147379,49074,35056,49075,49104,386930,47527]
def bi(ns:Yc):Yc:=Ck++ns.take 5
end
def cv(ns:Yc):Yc:=2::(bi ns).map fun n=>n.fmod 4
def aW(ns:Yc):Yc:=(16384+(1023+ns.sum).fmod 4096)::(bi ns).map fun n=>eY (n.fdiv 4)
theorem jz(ns:Yc):9<=(bi ns).length/\(bi ns).length<=14:=by
 unfold bi;refine aa KJ (aa Ms ?_);show 9<=9+_/\9+_<=14
 lia
theorem Ac{p0:Sem Flow}{h₀:Heap}{L a l:Nat}{ccd:Value}{os:OsState}{E:X8}{vs:Yb}{ns:Yc}(hl:h₀.IsList l vs.toArray)(hv:IntsAre vs ns)(hn:ns.length<=63)
  (hb:∀ y∈aW ns,0<=y/\y<65536) (Ss:∀ y∈aW ns,(aP y).length<=100) (hT:kg ((aW ns).map aP) (cv ns) (aW ns)) (Vx:dB ((aW ns).map aP) (cv ns) (aW ns)=dZ (cv ns) (aW ns)):
  let c:Fx:=⟨callerA,h₀,16,2+claimMargin,7,some [],fm.1.1.name,fm.1.1.scope,L,a,ccd,[],[],h₀,os,#[]⟩
  p0=execs fm.1.1.body c.env->Tr c E (fun x=>[(Ye "script",Value.ref l)].reverse.lookup x) [(123,tabObj #[])] p0 fun fl m n=>fl=.ret (.bool true)/\∃ tb,(123,tabObj tb)∈n:=by
 intro c hp;have hvn:=hv.length;refine JY hp (.cons (.cons (.cons (.cons (.cons (.cons (.cons (.cons (.cons .nil))))))))) (by decide) rfl hl (by exact L2 [_,_] V1 (.n 1000) 1 V0 (.n 63) 1 V1 V0 rfl hn (eL hvn)) fun D1 D2 D3 ws k1 hw=>?_;have VC:IntsAre (ws++vs.take 5) (bi ns):=hw.append (hv.take 5);generalize ws++vs.take 5=Rg at VC⊢;revert Rg;refine wrap ?_;intro Rg VC;show Tr _ _ _ _ _ _;generalize PU:(fun y=>if y=Ye "numbers" then some (Value.ref D3) else _)=m1;revert m1;refine wrap ?_;intro m1 PU;have sc1:m1 (Ye "script")=some (.ref l):=ae PU rfl;have nu1:m1 (Ye "numbers")=some (.ref D3):=ae PU rfl;clear PU;refine IJ [0,3] (by decide) ?_;show Tr c E m1 [(D3,lO Rg 0),(123,tabObj #[])] _ _;have Qu:=VC.length;have S6:=jz ns;refine Gf (F8 (Gx (F0 (F7 fun u1=>FZ ⟨KC rfl,fun D4=>GU (FY nu1 ⟨.list D3 Rg 0,fun q mC PN g=>g=[]/\IntsAre PN (((bi ns).take q).map fun n=>n.fmod 4),rfl, .inl aK,by show Rg.length<=1000;exact L3 [_,_] V0 (.n 1000) 3 V0 V1 2 V1 V0 1 V1 (.n 14) rfl (eL Qu) (eG Qu) S6.2,⟨rfl, .nil⟩,?YK,?last1⟩)⟩))))
 case YK=>
  rintro E' q x Ra g2 I2 D2 C2 SK Rz RM SW Y N hq hx ⟨rfl,Rx⟩ xC hY hN;obtain⟨S3,to,rfl⟩:=bX VC hx;have Qo:=bD _ S3;generalize (bi ns).getD q 0=o at Qo⊢;revert o;refine wrap ?_;intro o Qo;refine GB (pre:=[_]) rfl xC fun Q9 Qz=>GI (F8 (Gh aK Qz rfl (F7 fun w1=>GO (by decide) fun w2=>(hY _ _ _ ⟨rfl,Q9,_,[],Qz, .refl _,rfl,?_⟩))));exact aa Qo (aa KP (aI Rx))
 case last1=>
  rintro D5 mC PN g cD _ ⟨rfl,hs⟩;rw[show dv.N (.list D3 Rg 0)=(bi ns).length from Qu,Lm] at hs;have Tq:=hs.length;rw[KG] at Tq;refine H7 aK (.head _) (by show 1+PN.length<=100000;exact L2 [_,_] (.a W1 V1) (.n 100000) 1 V0 (.n 14) 1 V1 V0 rfl S6.2 (eL Tq)) fun dl=>?_;have RQ:IntsAre ([Value.int 2 u1]++PN) (cv ns):= .cons _ _ hs;generalize [Value.int 2 u1]++PN=aT at RQ⊢;revert aT;refine wrap ?_;intro aT RQ;show Tr _ _ _ _ _ _;generalize PU:(fun y=>if y=Ye "deeds" then some (Value.ref dl) else m1 y)=m2;revert m2;refine wrap ?_;intro m2 PU;have sc2:m2 (Ye "script")=some (.ref l):=ae PU sc1;have nu2:m2 (Ye "numbers")=some (.ref D3):=ae PU nu1;have de2:m2 (Ye "deeds")=some (.ref dl):=ae PU rfl;clear PU sc1 nu1;refine IJ [0,3,4] (by decide) ?_;show Tr c E m2 [(dl,lO aT 0),(D3,lO Rg 0),(123,tabObj #[])] _ _;refine Gf (F8 (Gx (F0 (F8 (F7 fun v1=>F8 (F8 (F7 fun v2=>GN (by k_is) (by boot_fast) (by decide) (FY sc2 (Kp hl hv fun v3=>Hd fun v4=>F7 fun v5=>GO (by decide) fun v6=>Hd fun v7=>FZ ⟨KC rfl,fun D6=>GU (FY nu2 ⟨.list D3 Rg 0,fun q mC PN g=>g=[]/\IntsAre PN (((bi ns).take q).map fun n=>eY (n.fdiv 4)),rfl, .inl cq,by show Rg.length<=1000;exact L3 [_,_] V0 (.n 1000) 3 V0 V1 2 V1 V0 1 V1 (.n 14) rfl (eL Qu) (eG Qu) S6.2,⟨rfl, .nil⟩,?YI,?last2⟩)⟩)))))))))
  case YI=>
   rintro E' q x Ra g2 I2 D2 C2 SK Rz RM SW Y N hq hx ⟨rfl,Rx⟩ xC hY hN;obtain⟨S3,to,rfl⟩:=bX VC hx;have Qo:=bD _ S3;generalize (bi ns).getD q 0=o at Qo⊢;revert o;refine wrap ?_;intro o Qo;refine GB (pre:=[_]) rfl xC fun Q9 Qz=>GI (GE (f:=229) (fun J h=>H9 (by k_is) h) (by k_is) (F8 (Gh aK Qz rfl (F7 fun w1=>GF (by decide) (by decide) fun w2=>(zK _ w2).to (by show 3<=16;decide) fun v hv=>?_))));obtain⟨w3,rfl⟩:=hv;refine hY _ _ _ ⟨rfl,Q9,_,[],Qz, .refl _,rfl,?_⟩;exact aa Qo (aa KP (aI Rx))
  case last2=>
   rintro D7 mC PN g cD _ ⟨rfl,hs⟩;rw[show dv.N (.list D3 Rg 0)=(bi ns).length from Qu,Lm] at hs;have Tq:=hs.length;rw[KG] at Tq;refine H7 aK (.head _) (by show 1+PN.length<=100000;exact L2 [_,_] (.a W1 V1) (.n 100000) 1 V0 (.n 14) 1 V1 V0 rfl S6.2 (eL Tq)) fun ml=>?_;have QS:IntsAre ([Value.int (16384+(1023+ns.sum).fmod 4096) v7]++PN) (aW ns):= .cons _ _ hs;generalize [Value.int (16384+(1023+ns.sum).fmod 4096) v7]++PN=Yq at QS⊢;revert Yq;refine wrap ?_;intro Yq QS;show Tr _ _ _ _ _ _;generalize PU:(fun y=>if y=Ye "modes" then some (Value.ref ml) else m2 y)=m3;revert m3;refine wrap ?_;intro m3 PU;have de3:m3 (Ye "deeds")=some (.ref dl):=ae PU de2;have mo3:m3 (Ye "modes")=some (.ref ml):=ae PU rfl;clear PU de2 sc2 nu2;have SZ:(cv ns).length=(bi ns).length+1:=by unfold cv;exact aa Le (aa (KG _) rfl)
   have Rt:(aW ns).length=(bi ns).length+1:=by unfold aW;exact aa Le (aa (KG _) rfl)
   refine GM (ID (G2 (f:=248) (fun J h=>Gz (by k_is) h) (by k_is) (F0 (FY de3 (F0 (FY mo3 (FZ ?YA)))))))
   case YA=>
    refine IJ [3,0,5] (by decide) ?_;refine zO callerA h₀ 15 (2+claimMargin) 7 (some []) fm.1.1.name fm.1.1.scope L a ccd os E m3 _ (cv ns) (aW ns) aT Yq 0 0 dl ml (by decide) RQ QS (by lia) (by exact L3 [_,_] (.n 2) V1 2 (.n 9) V0 1 V0 (.n 14) 1 (.a V0 W1) V1 rfl S6.1 S6.2 (eG Rt)) Ss hT fun T t1 t2 tb=>?_;refine G2 (f:=279) (fun J h=>Gz (by k_is) h) (by k_is) (F0 (FY de3 (F0 (FY mo3 (FZ ?due)))));refine Gd (n':=[(dl,lO aT 0),(ml,lO Yq 0)]++[_,_]) (LW (l₁:=[_,_]) (l₂:=[(dl,lO aT 0),(ml,lO Yq 0)])) ((A9 (cv ns) (aW ns) aT Yq dl ml 0 0 RQ QS (by exact L2 [_,_,_] V2 V0 1 (.a V1 W1) V0 1 V2 (.a V1 W1) rfl (eG SZ) (eL Rt)) (by exact L2 [_,_] V1 (.n 15) 1 V0 (.n 14) 1 V1 (.a V0 W1) rfl S6.2 (eL Rt)) (by exact L2 [_,_] V1 (.n 100) 1 V0 (.n 14) 1 V1 (.a V0 W1) rfl S6.2 (eL SZ)) hb).to c E m3 _ _ (by show 10<=16;decide) ?_ dC.no);rintro v n' ⟨T2,t3,t4,rfl,rfl⟩;refine Jd ir (.head _) ⟨?_,tb,iu⟩;refine aa Vx ?_;simp
theorem yB{VX:List (Addr×Addr)}{h₁ h':Heap}(hT:TabsAt VX h₁)(keep:∀ b o,(ghostOf h₁ VX).get? b=some o->h'.get? b=some o)(hg:∀ q∈VX,∃ ps,h'.get? q.2=some (tabObj ps)):OldK h₁ h':=by
 constructor
 ·intro b o e
  by_cases hb:b∈VX.map (·.2)
  ·obtain⟨q,hq,rfl⟩:=KK.mp hb
   obtain⟨ps,hp⟩:=hg q hq;have e2:=(hT q hq).2;rw[e] at e2
   cases e2;exact .inr (.inl ⟨((hT q hq).1.tab (hT q hq).2).isCodeTable,rfl,#[],ps,rfl,by refine aa Array.empty_append ?_;exact hp⟩)
  ·exact .inl (keep b o (ghost_ne e hb))
 ·intro b o e
  by_cases hb:b∈VX.map (·.2)
  ·obtain⟨q,hq,rfl⟩:=KK.mp hb
   obtain⟨ps,hp⟩:=hg q hq;exact⟨_,hp⟩
  ·exact⟨o,keep b o (ghost_ne e hb)⟩
structure rF(ns:Yc):Prop where
 b:∀ y∈aW ns,0<=y/\y<65536
 r:∀ y∈aW ns,(aP y).length<=100
 t:kg ((aW ns).map aP) (cv ns) (aW ns)
 e:dB ((aW ns).map aP) (cv ns) (aW ns)=dZ (cv ns) (aW ns)
theorem A8{α:Type}{M:Model}{A:Around}{p:Sem α}{Q:α->Shared->Prop}{E:X8}{s:Shared}(h:∀ p0,p0=p->wpAny M A p0 Q E s):wpAny M A p Q E s:=h p rfl
theorem Bc(Vx:∀ ns:Yc,rF ns):qw.1 w:=by
 intro Qs P1 mg mb G Y fa o pm cd doc dV kV ho hd Q1 hD hmg hg args Q6 as QY hlay hrd hwl Qt;have KX:(ao w.params).In P1.heap:=Y.1;have hT:TabsAt [(125,123)] P1.heap:=KV.mpr ⟨⟨codeHd_of_K (c:=125) (P:=123) KX (by kernel_rfl),Y.2 123 (.head _)⟩,fun _ h=>nomatch h⟩;refine Ground.open G ?_;intro T B D TE TW;clear D TE TW hmg G
 wrow_args QY hlay hrd hwl Qt
 rename List Int=>ns;rename IntsAre _ _=>hv;rename Heap.IsList _ _ _=>hL;rename¬_<_=>QK;refine enter_call ?_
 w_top on
 w_call any ho hd Q1 hD T F
 rename Fr _ _ _ _=>F;rename News _ _ _ _=>N0;have X':=ghost_K hT KX (by kernel_rfl);have T':=ghost_top hT T;have N':=ghost_news hT F N0;have F':=ghost_fr hT F;have hL':=ghost_list hT hL;have ok:=Vx ns;apply A8;intro p0 To;refine K9 (Ac hL' hv (by omega) ok.b ok.r ok.t ok.e To _ ⟨ghost_below hT,X',⟨_,_,_,T'⟩,rfl,by show 2+claimMargin+16<recursionLimit;decide,by show 7+20*16<cLine;decide,F',N',?hD,⟨by refine aa hg ?_;exact .of_eq rfl,fun h=>by cases h⟩,rfl⟩) ?_ fun _ _ e=>e
 case hD=>exact Ly.mpr ⟨LH, .nil⟩
 rintro fl s' ⟨m',n',l',rfl,tb,htb⟩;refine⟨.inl ⟨.bool true, .bool true,[],rfl,fun _=>rfl, .bool true,?post,fun _=>⟨.nil,fun _ h=>nomatch h⟩⟩,yB hT l'.F.keep fun q hq=>?gr,l'.O,l'.G.1⟩
 case gr=>
  exact aa (KF.mp hq) ⟨tb,(l'.N _ htb).1⟩
 case post=>wrow_post
theorem law_call(Vx:∀ ns:Yc,rF ns):WalkO cu loose (XL cu []) Eb.says RR fm.1.1 fm.1.2 fun f vs=>PySem.call f vs:=qw.2 (cU (Bc Vx))
noncomputable def kc (k:Nat):Nat:=[45,63,98,99,100,108,112,115].getD k 0
noncomputable def d3(f:Nat):List Nat:=[if 8<=f then 114 else 45,if f/4%2=1 then 119 else 45,[45,83,115,120].getD (f%4) 0]
noncomputable def iq(f:Nat):List Nat:=[if 8<=f then 114 else 45,if f/4%2=1 then 119 else 45,[45,84,116,120].getD (f%4) 0]
def dw(c:Nat):List Nat:=kc (c/4096)::(d3 (c/256%16)++(d3 (c/16%16)++iq (c%16)))
theorem Ch:∀ k,k<8->Txt.item (Ye "-?bcdlps") ((k:Nat):Int)=⟨#[kc k]⟩:=by decide+kernel
theorem wB:∀ f,f<16->Txt.item (Ye "-r") (((f:Nat):Int).fdiv 8)=⟨#[if 8<=f then 114 else 45]⟩:=by decide+kernel
theorem wC:∀ f,f<16->Txt.item (Ye "-w") ((((f:Nat):Int).fdiv 4).fmod 2)=⟨#[if f/4%2=1 then 119 else 45]⟩:=by decide+kernel
theorem z7:∀ f,f<16->Txt.item (Ye "-Ssx") (((f:Nat):Int).fmod 4)=⟨#[[45,83,115,120].getD (f%4) 0]⟩:=by decide+kernel
theorem Ci:∀ f,f<16->Txt.item (Ye "-Ttx") (((f:Nat):Int).fmod 4)=⟨#[[45,84,116,120].getD (f%4) 0]⟩:=by decide+kernel
theorem b8(n:Nat):n%16<16:=Ma _ (by decide)
theorem uI(h:n<32768):n/4096<8:=Mq h
theorem fX(c:Nat)(h:c<32768):ac (c:Int)=⟨(dw c).toArray⟩:=by
 have d:∀ x:Nat,x/16*16+x%16=x:=fun x=>Nat.div_add_mod' x 16;have h2:=kY (c/4096) (c/256%16) (c/16%16) (c%16) (b8 _) (b8 _) (b8 _);have e:((c/4096*16+c/256%16)*16+c/16%16)*16+c%16=c:=by(refine aa (show c/4096=c/256/16 from(M5 c 256 16).symm) ?_;rw[d];refine aa (show c/256=c/16/16 from(M5 c 16 16).symm) ?_;rw[d];exact aa (d _) rfl)
 rw[e] at h2;refine aa h2 ?_;unfold dw d3 iq;exact aa (Ch _ (uI h)) (aa (wB _ (b8 _)) (aa (wC _ (b8 _)) (aa (z7 _ (b8 _)) (aa (wB _ (b8 _)) (aa (wC _ (b8 _)) (aa (z7 _ (b8 _)) (aa (wB _ (b8 _)) (aa (wC _ (b8 _)) (aa (Ci _ (b8 _)) rfl)))))))))
theorem Bb:∀ j,j<8->∀ k,k<8->j<k->kc j<kc k:=by decide+kernel
theorem xG:∀ f,f<16->∀ g,g<16->f<g->d3 f<d3 g:=by decide+kernel
theorem zQ:∀ f,f<16->∀ g,g<16->f<g->iq f<iq g:=by decide+kernel
theorem o7:∀ {a b x y:List Nat},a.length=b.length->a<b->a++x<b++y
 |[],[],_,_,_,h=>absurd h (List.lt_irrefl _)
 |p::a,q::b,x,y,hl,h=>by
  rcases Ml.mp h with h|⟨e,h⟩
  ·exact Ml.mpr (.inl h)
  ·exact Ml.mpr (.inr ⟨e,o7 (Nat.succ.inj hl) h⟩)
theorem oB:∀ {a x y:List Nat},x<y->a++x<a++y
 |[],_,_,h=>h
 |_::_,_,_,h=>Ml.mpr (.inr ⟨rfl,oB h⟩)
theorem zS(h:x<=y)(e:x/16=y/16):x%16<=y%16:=by
 have h1:=Nm x 16;have h2:=Nm y 16;rw[e] at h1;exact Nat.le_of_add_le_add_left (KH (Mf h1) (KH h (Mf h2.symm)))
theorem rn(hd:d<32768)(h:c<d):dw c<dw d:=by
 have hc:=Mh h hd;have h':=LF h;have g:∀ x k:Nat,x/(k*16)=x/k/16:=fun x k=>(M5 x k 16).symm;unfold dw;rcases Nat.lt_or_eq_of_le (Nat.div_le_div_right (c:=4096) h') with h1|h1
 ·exact Ml.mpr (.inl (Bb _ (uI hc) _ (uI hd) h1))
 refine aa h1 ?_;refine Ml.mpr (.inr ⟨rfl,?_⟩);have e2:c/256/16=d/256/16:=ae (g _ _) (ae (g _ _) h1);rcases Nat.lt_or_eq_of_le (zS (Nat.div_le_div_right (c:=256) h') e2) with h2|h2
 ·exact o7 rfl (xG _ (b8 _) _ (b8 _) h2)
 refine aa h2 ?_;refine oB ?_;have j2:c/256=d/256:=by exact ae (Nm (c/256) 16) (ae (Nm (d/256) 16) (aa e2 (aa h2 rfl)))
 have e3:c/16/16=d/16/16:=ae (g _ _) (ae (g _ _) j2);rcases Nat.lt_or_eq_of_le (zS (Nat.div_le_div_right (c:=16) h') e3) with h3|h3
 ·exact o7 rfl (xG _ (b8 _) _ (b8 _) h3)
 refine aa h3 ?_;have j3:c/16=d/16:=by exact ae (Nm (c/16) 16) (ae (Nm (d/16) 16) (aa e3 (aa h3 rfl)))
 refine oB (zQ _ (b8 _) _ (b8 _) (OY (zS h' j3) fun q=>K8 h ?_));exact ae (Nm c 16) (ae (Nm d 16) (aa j3 (aa q rfl)))
def ai(c:Int):Prop:=0<=c/\c<32768
theorem ai.nat(h:ai c):aO (fun(n:Nat)=>c=(n:Int)) (fun n=>n<32768):=⟨c.toNat,(OM h.1).symm,(Int.toNat_lt h.1).mpr h.2⟩
theorem lN(hc:ai c)(hd:ai d):(ac c).cps.toList<(ac d).cps.toList↔c<d:=by
 obtain⟨m,rfl,hm⟩:=hc.nat;obtain⟨n,rfl,hn⟩:=hd.nat
 (rw[fX m hm];refine aa (fX n hn) ?_)
 show dw m<dw n↔_
 constructor
 ·intro h
  rcases Nat.lt_trichotomy m n with q|rfl|q
  ·exact LD.mpr q
  ·exact absurd h (List.lt_irrefl _)
  ·exact absurd h (List.lt_asymm (rn hm q))
 ·exact fun h=>rn hn (LD.mp h)
theorem mJ(hc:ai c)(hd:ai d)(h:ac c=ac d):c=d:=by
 have h1:=lN hc hd;have h2:=lN hd hc;rw[h] at h1 h2;have n1:¬c<d:=fun q=>List.lt_irrefl _ (h1.mpr q);have n2:¬d<c:=fun q=>List.lt_irrefl _ (h2.mpr q);exact OO (Og.mp n2) (Og.mp n1)
noncomputable def ee:List Nat:=[45,63,98,99,100,108,112,115,114,119,83,120,84,116]
theorem q6:∀ k,k<8->kc k∈ee:=by decide+kernel
theorem qS:∀ f,f<16->∀ x∈d3 f,x∈ee:=by decide+kernel
theorem wh:∀ f,f<16->∀ x∈iq f,x∈ee:=by decide+kernel
theorem fj(h:c<32768):∀ x∈dw c,x∈ee:=by
 intro x hx;rcases KI.mp hx with rfl|hx
 ·exact q6 _ (uI h)
 rcases KM.mp hx with hx|hx
 ·exact qS _ (b8 _) x hx
 rcases KM.mp hx with hx|hx
 ·exact qS _ (b8 _) x hx
 ·exact wh _ (b8 _) x hx
theorem b0(a b:List Nat):(⟨a.toArray⟩:Str)++⟨b.toArray⟩=⟨(a++b).toArray⟩:=congrArg Str.mk (List.append_toArray a b)
theorem bO(l:List Nat):(⟨l.toArray⟩:Str).length=l.length:=Lw
theorem nW{l:List Nat}{j:Nat}(h:j<=l.length):Txt.slice ⟨l.toArray⟩ none (some (j:Int))=⟨(l.take j).toArray⟩:=by
 have:=eq_of_beq (slice_closes_toL (x:=⟨l.toArray⟩) (j:=(j:Int)) (K7 _) (by refine aa (bO _) ?_;exact NK.mpr h));refine aa this ?_;simp
theorem jd{l:List Nat}{j:Nat}(h:j<=l.length):Txt.slice ⟨l.toArray⟩ (some (j:Int)) none=⟨(l.drop j).toArray⟩:=by
 have:=eq_of_beq (slice_closes_fromL (x:=⟨l.toArray⟩) (i:=(j:Int)) (b:=(l.length:Int)) (K7 _) (by refine aa (bO _) ?_;exact NK.mpr h) (by exact aa (bO _) rfl));refine aa this ?_
 congr 2
 simp only[La];exact aa (List.take_of_length_le (by rw[NA];exact Mf (Int.toNat_sub _ _).symm)) rfl
noncomputable def nS(l:List Nat):List Nat:=[107,49,95]++l.take 1++[58]++l.drop 1
theorem Ad:Ye "k1_"=⟨([107,49,95]:List Nat).toArray⟩:=by decide+kernel
theorem gj:Ye ":"=⟨([58]:List Nat).toArray⟩:=by decide+kernel
theorem yx{l:List Nat}(h:l.length=10):aw ⟨l.toArray⟩=⟨(nS l).toArray⟩:=by
 unfold aw nS;have h1:=nW (l:=l) (j:=1) (by refine aa h ?_;decide);have h2:=jd (l:=l) (j:=1) (by refine aa h ?_;decide)
 (refine aa (show (some (1:Int))=some ((1:Nat):Int) from rfl) (aa h1 (aa h2 (aa Ad (aa gj ?_))));rw[b0,b0];exact aa (b0 _ _) rfl)
theorem e7(c:Nat):(dw c).length=10:=rfl
theorem e6(c:Nat)(h:c<32768):aw (ac (c:Int))=⟨(nS (dw c)).toArray⟩:=by exact aa (fX c h) (aa (yx (e7 c)) rfl)
theorem eZ(c:Nat):nS (dw c)=[107,49,95,kc (c/4096),58]++(dw c).drop 1:=rfl
theorem hH(c:Nat)(h:c<32768):n4 (ac (c:Int))=⟨([107,49,95,kc (c/4096)]:List Nat).toArray⟩:=by
 unfold n4;refine aa (e6 c h) (aa (show (some (4:Int))=some ((4:Nat):Int) from rfl) (aa (nW (by rw[eZ,KJ];exact Om (KC rfl))) ?_))
 rfl
theorem lr(c:Nat)(h:c<32768):n5 (ac (c:Int))=⟨([107,49,95,kc (c/4096),58]:List Nat).toArray⟩:=by
 unfold n5;refine aa (e6 c h) (aa (show (some (5:Int))=some ((5:Nat):Int) from rfl) (aa (nW (by rw[eZ,KJ];exact Om (KC rfl))) ?_))
 rfl
theorem fh(c:Nat)(h:c<32768):n9 (ac (c:Int))=⟨((dw c).drop 1).toArray⟩:=by
 unfold n9;refine aa (e6 c h) (aa (show (some (5:Int))=some ((5:Nat):Int) from rfl) (aa (jd (by rw[eZ,KJ];exact Om (KC rfl))) ?_))
 rfl
theorem BN(c:Nat)(h:c<32768):n5 (ac (c:Int))++n9 (ac (c:Int))=aw (ac (c:Int)):=by
 exact aa (lr c h) (aa (fh c h) (aa (e6 c h) (aa (b0 _ _) (aa (eZ _) rfl))))
theorem yo:∀ k,k<8->([98,99,100,108,112,115].contains (kc k))=decide (2<=k):=by decide+kernel
theorem qR:∀ f,f<16->(d3 f).all (· !=45)=decide (12<f):=by decide+kernel
theorem wg:∀ f,f<16->(iq f).all (· !=45)=decide (12<f):=by decide+kernel
theorem yL(l:List Nat)(i d:Nat):(⟨l.toArray⟩:Str).cps.getD i d=l.getD i d:=by
 show l.toArray.getD i d=l.getD i d;exact aa KU (aa NI (aa Ou rfl))
theorem qZ(l:List Nat):eX ⟨l.toArray⟩=([98,99,100,108,112,115].contains (l.getD 3 0)&&(l.drop 5).all (· !=45)):=by
 unfold eX;exact aa (yL _ _ _) rfl
theorem yn(hc:ai c):eX (aw (ac c))=(decide (8191<c)&&eM c):=by
 obtain⟨n,rfl,hn⟩:=hc.nat;refine aa (e6 n hn) (aa (qZ _) (aa (eZ _) ?_));have e1:(([107,49,95,kc (n/4096),58]++(dw n).drop 1).drop 5).all (· !=45)=((d3 (n/256%16)).all (· !=45)&&((d3 (n/16%16)).all (· !=45)&&(iq (n%16)).all (· !=45))):=by
  exact ae List.all_append (ae List.all_append rfl)
 have e2:([107,49,95,kc (n/4096),58]++(dw n).drop 1).getD 3 0=kc (n/4096):=rfl;refine aa e1 (aa e2 (aa (yo _ (uI hn)) (aa (qR _ (b8 _)) (aa (qR _ (b8 _)) (aa (wg _ (b8 _)) ?_)))));have f:∀ (p q:Nat),16^p=q->0<q->decide (12<((n:Int).fdiv (16^p)).fmod 16)=decide (12<n/q%16):=fun p q e hq=>by
  have e3:((16:Int)^p)=((q:Nat):Int):=ae e ((Int.natCast_pow 16 p).symm);refine aa e3 (aa (LK _ (K7 _)) (aa (Mp _ (by decide)) ?_));have:((n:Int)/(q:Int))%16=((n/q%16:Nat):Int):=rfl;exact aa this (OI.mpr LD)
 have e4:eM (n:Int)=(decide (12<n/1%16)&&(decide (12<n/16%16)&&(decide (12<n/256%16)&&true))):=by
  exact ae (f 0 1 rfl (by decide)) (ae (f 1 16 rfl (by decide)) (ae (f 2 256 rfl (by decide)) rfl))
 have k8:decide (8191<(n:Int))=decide (2<=n/4096):=OI.mpr ((show (8191:Int)<n↔2*4096<=n from LD).trans (Nat.le_div_iff_mul_le (by decide)).symm);refine aa e4 (aa k8 (aa (Nat.div_one _) ?_));exact(by decide:∀ a b c d:Bool,(a&&(b&&(c&&d)))=(a&&(d&&(c&&(b&&true))))) _ _ _ _
theorem dX:∀ {a b:Yc},a.Pairwise (·<·)->b.Pairwise (·<·)->(∀ x,x∈a↔x∈b)->a=b
 |[],[],_,_,_=>rfl
 |[],y::b,_,_,h=>nomatch (h y).mpr (.head _)
 |x::a,[],_,_,h=>nomatch (h x).mp (.head _)
 |x::a,y::b,ha,hb,h=>by
  obtain⟨a1,a2⟩:=LZ.mp ha;obtain⟨b1,b2⟩:=LZ.mp hb;have e:x=y:=by
   rcases KI.mp ((h x).mp (.head _)) with q|q
   ·exact q
   rcases KI.mp ((h y).mpr (.head _)) with p|p
   ·exact p.symm
   ·have:=b1 x q;have:=a1 y p;lia
  subst e
  congr 1
  refine dX a2 b2 fun z=>?_;have hz:=h z;simp only[KI] at hz
  constructor
  ·intro q
   rcases hz.mp (.inr q) with rfl|r
   ·exact absurd (a1 _ q) (Int.lt_irrefl _)
   ·exact r
  ·intro q
   rcases hz.mpr (.inr q) with rfl|r
   ·exact absurd (b1 _ q) (Int.lt_irrefl _)
   ·exact r
theorem c6(l:Yc):(aG (dd l)).Pairwise (·<·):=by
 have h1:=pM (dd l);have h2:(aG (dd l)).Nodup:=(bp _).nodup_iff.mpr (gW l [] .nil);generalize aG (dd l)=s at h1 h2
 induction s with
 |nil=>exact .nil
 |cons x s ih=>
  obtain⟨a1,a2⟩:=LZ.mp h1;obtain⟨b1,b2⟩:=Ly.mp h2;refine LZ.mpr ⟨fun y hy=>?_,ih a2 b2⟩;have:=a1 y hy;have:x≠y:=fun e=>b1 (e▸hy)
  lia
theorem dg:x∈aG (dd l)↔x∈l:=(bp _).mem_iff.trans zR
def jG(us:List Yc):Prop:=∀ u∈us,∀ c∈u,ai c
theorem eK(h:ai c):(bn us c).fmod 32768=c:=by
 unfold bn;refine aa (Mp _ (by decide)) ?_;have h1:=h.1;have h2:=h.2;exact tW h1 h2
theorem li:x∈bZ us↔aO (fun c=>(∃ u∈us,c∈u)) (fun c=>x=bn us c):=by
 unfold bZ
 constructor
 ·intro h
  obtain⟨u,hu,hx⟩:=M9.mp h;obtain⟨c,hc,rfl⟩:=KK.mp hx;exact⟨c,⟨u,hu,hc⟩,rfl⟩
 ·rintro⟨c,⟨u,hu,hc⟩,rfl⟩
  exact M9.mpr ⟨u,hu,KW hc⟩
theorem dG(ok:jG us):c∈af us↔∃ u∈us,c∈u:=by
 unfold af
 constructor
 ·intro h
  obtain⟨x,hx,rfl⟩:=KK.mp h;obtain⟨d,⟨u,hu,hd⟩,rfl⟩:=li.mp (dg.mp hx);exact aa (eK (ok u hu d hd)) ⟨u,hu,hd⟩
 ·rintro⟨u,hu,hc⟩
  exact KK.mpr ⟨bn us c,dg.mpr (li.mpr ⟨c,⟨u,hu,hc⟩,rfl⟩),eK (ok u hu c hc)⟩
theorem jo:∀ {l:List Yc} {r:List Yc},(∃ u∈l,p u=true)->(l++r).findIdx p=l.findIdx p
 |[],_,h=>by obtain⟨_,h,_⟩:=h;cases h
 |x::l,r,h=>by
  refine aa Md (aa Pa (aa Pa ?_))
  cases hx:p x with
  |true=>rfl
  |false=>
   obtain⟨u,hu,hp⟩:=h;rcases KI.mp hu with rfl|hu
   ·rw[hx] at hp;cases hp
   ·exact aa (jo ⟨u,hu,hp⟩) rfl
theorem jq:∀ {l:List Yc} {u:Yc},(∀ v∈l,p v=false)->p u=true->(l++[u]).findIdx p=l.length
 |[],u,_,hu=>aa (Oi _) (aa Pa (aa hu rfl))
 |x::l,u,h,hu=>by
  exact aa Md (aa Pa (aa (h x (.head _)) (aa (jq (fun v hv=>h v (.tail _ hv)) hu) rfl)))
theorem sf(ok:jG us)(hu:∀ c∈u,ai c):af (us++[u])=af us++(aG (dd u)).filter fun c=>decide (c∉af us):=by
 have R9:∀ c,(∃ v∈us,c∈v)->bn (us++[u]) c=bn us c:=fun c ⟨v,hv,hc⟩=>by
  unfold bn;exact aa (jo ⟨v,hv,KY hc⟩) rfl
 have Rm:∀ c∈u,(¬∃ v∈us,c∈v)->bn (us++[u]) c=32768*(us.length:Int)+c:=fun c hc hn=>by
  unfold bn;exact aa (jq (fun v hv=>K0 fun q=>hn ⟨v,hv,q⟩) (KY hc)) rfl
 have PW:∀ x∈aG (dd (bZ us)),x<32768*(us.length:Int):=fun x hx=>by
  obtain⟨c,⟨v,hv,hc⟩,rfl⟩:=li.mp (dg.mp hx);have h1:us.findIdx (fun u=>decide (c∈u))<us.length:=List.findIdx_lt_length_of_exists ⟨v,hv,KY hc⟩;have h2:=(ok v hv c hc).2;unfold bn;exact Fu h1 h2
 have Qd:aG (dd (bZ (us++[u])))=aG (dd (bZ us))++((aG (dd u)).filter fun c=>decide (c∉af us)).map fun c=>32768*(us.length:Int)+c:=by
  refine dX (c6 _) ?_ fun x=>?_
  ·refine List.pairwise_append.mpr ⟨c6 _,?_,fun a ha b hb=>?_⟩
   ·exact List.pairwise_map.mpr (((c6 u).filter _).imp fun {a b} h=>Fv h)
   ·obtain⟨c,hc,rfl⟩:=KK.mp hb
    have h1:=PW a ha;have h2:=(hu c (dg.mp (Lg.mp hc).1)).1;exact Fw h1 h2
  ·rw[dg,li,KM,dg,li]
   constructor
   ·rintro⟨c,⟨v,hv,hc⟩,rfl⟩
    by_cases hc':∃ v∈us,c∈v
    ·exact .inl ⟨c,hc',R9 c hc'⟩
    ·rcases KM.mp hv with hv|hv
     ·exact absurd ⟨v,hv,hc⟩ hc'
     ·rw[KF.mp hv] at hc
      refine .inr (KK.mpr ⟨c,Lg.mpr ⟨dg.mpr hc,KY fun q=>hc' ((dG ok).mp q)⟩,(Rm c hc hc').symm⟩)
   ·rintro(⟨c,hc,rfl⟩|h)
    ·obtain⟨v,hv,Rj⟩:=hc
     exact⟨c,⟨v,KA _ hv,Rj⟩,(R9 c ⟨v,hv,Rj⟩).symm⟩
    ·obtain⟨c,hc,rfl⟩:=KK.mp h
     obtain⟨h1,h2⟩:=Lg.mp hc;have h1:=dg.mp h1;exact⟨c,⟨u,KB _ (.head _),h1⟩,(Rm c h1 fun q=>Nu h2 ((dG ok).mpr q)).symm⟩
 have hm:((aG (dd u)).filter fun c=>decide (c∉af us)).map (fun c=>(32768*(us.length:Int)+c).fmod 32768)=(aG (dd u)).filter fun c=>decide (c∉af us):=by
  refine(MK fun c hc=>?_).trans (List.map_id _);have h1:=hu c (dg.mp (Lg.mp hc).1);show _=c;refine aa (Mp _ (by decide)) ?_;have:=h1.1;have:=h1.2
  lia
 show (aG (dd (bZ (us++[u])))).map _=_;exact aa Qd (aa KP (aa M4 (congrArg (af us++·) hm)))
theorem wL(us:List Yc)(ok:jG us):(af us).Nodup:=by
 refine lg ((c6 (bZ us)).imp fun {a b} h e=>z6 h e) fun a ha b hb e=>?_;obtain⟨c,⟨v,hv,hc⟩,rfl⟩:=li.mp (dg.mp ha);obtain⟨d,⟨v',Uy,hd⟩,rfl⟩:=li.mp (dg.mp hb);rw[eK (ok v hv c hc),eK (ok v' Uy d hd)] at e;exact aa e rfl
def cJ(N:Yc)(c:Int):UP:=(ac c,aL N c)
def bY(N:Yc):List UP:=N.map (cJ N)
theorem lu(h:c∈N):aL (N++M) c=aL N c:=by
 unfold aL;exact aa List.idxOf_append (aa (KZ h) rfl)
theorem uU(h:c∉N):aL (N++[c]) c=Ye "n"++Ye (toString ((N.length:Nat):Int)):=by
 unfold aL;refine aa List.idxOf_append (aa (KO h) ?_);have:([c]:Yc).idxOf c=0:=by simp
 exact aa this (aa (Nn _) rfl)
theorem g7{N M l:Yc}(h:∀ c∈l,c∈N):l.map (cJ (N++M))=l.map (cJ N):=MK fun c hc=>by
 unfold cJ;exact aa (lu (h c hc)) rfl
theorem yF{N:Yc}{c:Int}(h:c∉N):bY (N++[c])=bY N++[(ac c,cH (bY N))]:=by
 unfold bY;refine aa KP (aa (g7 fun _ hc=>hc) ?_)
 congr 1
 show [(ac c,aL (N++[c]) c)]=_;refine aa (uU h) ?_;unfold cH;exact aa (KG _) rfl
theorem gK(hc:ai c):∀ {l:Yc},(∀ x∈l,ai x)->((l.map (cJ N)).find? fun x=>x.1==ac c).map (·.2)=if c∈l then some (aL N c) else none
 |[],_=>rfl
 |y::l,h=>by
  refine aa LB (aa MM ?_)
  by_cases e:y=c
  ·subst e
   exact aa (show ((cJ N y).1==ac y)=true from OG _) (aa (KZ (.head _)) rfl)
  ·refine aa (show ((cJ N y).1==ac c)=false from LN.mpr fun q=>e (mJ (h y (.head _)) hc q)) ?_
   dsimp only;refine aa (gK hc fun x hx=>h x (.tail _ hx)) ?_;have:(c∈y::l)↔c∈l:=⟨fun q=>(KI.mp q).resolve_left fun q=>e q.symm, .tail _⟩;simp only[this]
theorem jr(a b:List UP)(u:Str):aZ (a++b) u=(aZ a u).or (aZ b u):=by
 unfold aZ;refine aa List.find?_append ?_
 cases List.find? _ a<;>rfl
structure rD(Yo:List UP)(A N:Yc):Prop where
 some:∀ c∈A,∃ p,aZ Yo (ac c)=some p
 none:∀ c,ai c->c∉A->aZ Yo (ac c)=none
 sub:∀ c∈A,c∈N
noncomputable def dc (A:Yc) (cur:Yc) (c:Int):Yc:=if c∈cur∨c∈A then cur else cur++[c]
noncomputable def cf (N:Yc) (c:Int):Yc:=if c∈N then N else N++[c]
theorem BI{Yo:List UP}{A N cur:Yc}{c:Int}(hi:rD Yo A N)(hN:∀ x∈N,ai x)(QP:∀ x∈cur,x∈N)(hc:ai c):
  (aM Yo (cur.map (cJ N),bY N) (ac c)).2=((dc A cur c).map (cJ (cf N c)),bY (cf N c)):=by
 have h1:aZ (cur.map (cJ N)) (ac c)=if c∈cur then some (aL N c) else none:=gK hc fun x hx=>hN x (QP x hx)
 have h2:b9 (bY N) (ac c)=if c∈N then some (aL N c) else none:=gK hc hN
 unfold aM;refine aa (jr _ _ _) (aa h1 ?_)
 by_cases a1:c∈cur
 ·have a3:=QP c a1
  simp only[dc,cf,a1,a3,if_true,true_or,Option.some_or]
 by_cases a2:c∈A
 ·obtain⟨p,hp⟩:=hi.some c a2
  have a3:=hi.sub c a2;simp only[dc,cf,a1,a2,a3,hp,if_true,if_false,or_true,Option.none_or]
 have hn:=hi.none c hc a2
 by_cases a3:c∈N
 ·simp only[dc,cf,a1,a2,a3,hn,h2,if_true,if_false,or_self,Option.or_none,Option.none_or,KP]
  rfl
 ·have e1:cur.map (cJ (N++[c]))=cur.map (cJ N):=g7 QP
  have e2:cJ (N++[c]) c=(ac c,cH (bY N)):=by
   unfold cJ;refine aa (uU a3) ?_;unfold cH bY;exact aa (KG _) rfl
  simp only[dc,cf,a1,a2,a3,hn,h2,if_true,if_false,or_self,Option.or_none,Option.none_or,KP,e1,LB,OV,e2,yF a3]
theorem jH(h:x∈N):x∈cf N c:=by
 unfold cf
 split
 ·exact h
 ·exact KA _ h
theorem mS(N:Yc)(c:Int):c∈cf N c:=by
 unfold cf
 split
 ·assumption
 ·exact KB _ (.head _)
theorem vb:∀ (L:Yc) {N cur:Yc},rD Yo A N->(∀ x∈N,ai x)->(∀ x∈cur,x∈N)->(∀ c∈L,ai c)->
  (aH Yo (cur.map (cJ N),bY N) (L.map ac)).2=((L.foldl (dc A) cur).map (cJ (L.foldl cf N)),bY (L.foldl cf N))
 |[],_,_,_,_,_,_=>rfl
 |c::L,N,cur,hi,hN,QP,hL=>by
  (refine aa LB ?_;rw[aH])
  show (aH Yo (aM Yo (cur.map (cJ N),bY N) (ac c)).2 (L.map ac)).2=_;refine aa (BI hi hN QP (hL c (.head _))) ?_;refine vb L ⟨hi.some,hi.none,fun x hx=>jH (hi.sub x hx)⟩ (fun x hx=>?_) (fun x hx=>?_) fun x hx=>hL x (.tail _ hx)
  ·unfold cf at hx
   split at hx
   ·exact hN x hx
   ·rcases KM.mp hx with hx|hx
    ·exact hN x hx
    ·refine aa (KF.mp hx) ?_;exact hL c (.head _)
  ·unfold dc at hx
   split at hx
   ·exact jH (QP x hx)
   ·rcases KM.mp hx with hx|hx
    ·exact jH (QP x hx)
    ·refine aa (KF.mp hx) ?_;exact mS N c
noncomputable def pu (c m:Int):Yc:=if m<c then[m,c] else[c,m]
theorem vy(hc:ai c)(hm:ai m)(tg xn:Str):dS (ac c) tg xn (some (ac m))=(pu c m).map ac:=by
 unfold dS pu bG;have hl:Ye "{"=⟨([123]:List Nat).toArray⟩:=by decide+kernel
 have hcps:∀ x:Str,(Ye "{"++x).cps.toList=123::x.cps.toList:=fun x=>by
  refine aa hl ?_;show (([123]:List Nat).toArray++x.cps).toList=[123]++x.cps.toList;exact aa Array.toList_append rfl
 by_cases e:m=c
 ·subst e
  exact aa (KO (Int.lt_irrefl m)) (ite_self _)
 ·have P5:Ye "{"++ac m≠Ye "{"++ac c:=fun q=>e (mJ hm hc (gC q))
  have h1:decide ((Ye "{"++ac m).cps.toList<(Ye "{"++ac c).cps.toList)=decide (m<c):=by
   rw[hcps,hcps];refine OI.mpr ⟨fun q=>?_,fun q=>?_⟩
   ·rcases Ml.mp q with q|⟨_,q⟩
    ·exact absurd q (Nv _)
    ·exact(lN hm hc).mp q
   ·exact Ml.mpr (.inr ⟨rfl,(lN hm hc).mpr q⟩)
  dsimp only
  (rw[KO P5];refine aa h1 ?_)
  by_cases q:m<c
  ·refine aa (KY q) (aa (KZ rfl) (aa (KZ q) ?_));rfl
  ·refine aa (K0 q) (aa (KO KR) (aa (KO q) ?_));rfl
theorem m9(h:x<=y):[x,y].foldl cf N=N++(aG (dd [x,y])).filter fun c=>decide (c∉N):=by
 have hs:aG (dd [x,y])=if x=y then[x] else[x,y]:=by
  refine dX (c6 _) ?_ fun z=>?_
  ·split
   ·exact LZ.mpr ⟨(fun _ h=>nomatch h), .nil⟩
   ·exact LZ.mpr ⟨fun z hz=>by refine aa (KF.mp hz) ?_;lia,LZ.mpr ⟨(fun _ h=>nomatch h), .nil⟩⟩
  ·rw[dg]
   split
   ·rename_i e;subst e;simp
   ·rfl
 refine aa hs ?_;show cf (cf N x) y=_;unfold cf
 by_cases e:x=y
 ·subst e
  refine aa (KZ rfl) ?_
  by_cases h1:x∈N<;>simp[h1]
 ·refine aa (KO e) ?_
  have e':¬y=x:=fun q=>e q.symm
  by_cases h1:x∈N<;>by_cases h2:y∈N<;>simp[h1,h2,e,e']
theorem nc(h:x<=y):[x,y].foldl (dc A) []=(aG (dd [x,y])).filter fun c=>decide (c∉A):=by
 have hs:aG (dd [x,y])=if x=y then[x] else[x,y]:=by
  refine dX (c6 _) ?_ fun z=>?_
  ·split
   ·exact LZ.mpr ⟨(fun _ h=>nomatch h), .nil⟩
   ·exact LZ.mpr ⟨fun z hz=>by refine aa (KF.mp hz) ?_;lia,LZ.mpr ⟨(fun _ h=>nomatch h), .nil⟩⟩
  ·rw[dg]
   split
   ·rename_i e;subst e;simp
   ·rfl
 refine aa hs ?_;show dc A (dc A [] x) y=_;unfold dc
 by_cases e:x=y
 ·subst e
  refine aa (KZ rfl) ?_
  by_cases h1:x∈A<;>simp[h1]
 ·refine aa (KO e) ?_
  have e':¬y=x:=fun q=>e q.symm
  by_cases h1:x∈A<;>by_cases h2:y∈A<;>simp[h1,h2,e,e']
theorem gT(ok:bQ Yh):∀ (f g:Nat) (s:Int),-1<=s->s<Yh.length->(s+1).toNat<f->(s+1).toNat<g->bx Yh f s=bx Yh g s
 |0,_,_,_,_,h,_=>absurd h (LM _)
 |_+1,0,_,_,_,_,h=>absurd h (LM _)
 |f+1,g+1,s,h0,h1,hf,hg=>by
  refine aa (ej _ f _) (aa (ej _ g _) ?_)
  by_cases hs:s=-1
  ·exact aa (KZ hs) (aa (KZ hs) rfl)
  ·obtain⟨g0,g1⟩:=ok s.toNat (mN h0 hs h1)
   exact aa (gT ok f g _ g0 (vt h0 hs h1 g1) (B1 h0 hs hf g1) (B1 h0 hs hg g1)) rfl
theorem kt(ok:bQ Yh):∀ (f:Nat) (s:Int),-1<=s->s<Yh.length->bx (Yh++more) f s=bx Yh f s
 |0,_,_,_=>rfl
 |f+1,s,h0,h1=>by
  refine aa (ej _ f _) (aa (ej _ f _) ?_)
  by_cases hs:s=-1
  ·exact aa (KZ hs) (aa (KZ hs) rfl)
  ·obtain⟨g0,g1⟩:=ok s.toNat (mN h0 hs h1)
   have e:(Yh++more).getD s.toNat (-1)=Yh.getD s.toNat (-1):=by
    exact aa KU (aa (Mu (mN h0 hs h1)) (ae KU rfl))
   exact aa e (aa (kt ok f _ g0 (vt h0 hs h1 g1)) rfl)
theorem dW(Yh:Yc):aj Yh (-1)=[]:=ko Yh _
theorem eH{Yh:Yc}(ok:bQ Yh){s:Int}(h0:0<=s)(h1:s<Yh.length):aj Yh s=s::aj Yh (Yh.getD s.toNat (-1)):=by
 obtain⟨g0,g1⟩:=ok s.toNat (iW h0 h1);unfold aj
 (refine aa (ej _ _ _) ?_;exact aa (KO (FB h0)) (aa (gT ok Yh.length (Yh.length+1) _ g0 (tB h0 h1 g1) (tH h0 h1 g1) (Fl h0 h1 g1)) rfl))
theorem fM{Yh more:Yc}(ok:bQ Yh){s:Int}(h0:-1<=s)(h1:s<Yh.length):aj (Yh++more) s=aj Yh s:=by
 unfold aj;refine aa (kt ok _ s h0 h1) ?_;exact gT ok _ _ s h0 h1 (by refine aa KJ ?_;exact Fo h1) (B4 h1)
theorem cN{α:Type}{l r:List α}{i:Nat}{d:α}(h:i<l.length):(l++r).getD i d=l.getD i d:=by
 exact aa KU (aa (Mu h) (ae KU rfl))
theorem ea:∀ {l:List α},(∀ x∈l,f x=g x)->l.flatMap f=l.flatMap g
 |[],_=>rfl
 |x::l,h=>by exact aa M1 (aa M1 (aa (h x (.head _)) (aa (ea fun y hy=>h y (.tail _ hy)) rfl)))
theorem qd{us vs:List Yc}{Yh more:Yc}(ok:bQ Yh)(hl:us.length=Yh.length){s:Nat}(hs:s<Yh.length):cM (us++vs) (Yh++more) s=cM us Yh s:=by
 obtain⟨g0,g1⟩:=ok s hs;unfold cM;refine aa (cN hs) (aa (fM ok g0 (vG g1 hs)) ?_);refine ea fun o ho=>?_;have:=fN ok (Yh.length+1) _ g0 (vG g1 hs) o ho;exact cN (D9 this.1 this.2 hl)
theorem kO{us vs:List Yc}{Yh more:Yc}(ok:bQ Yh)(hl:us.length=Yh.length){s:Nat}(hs:s<Yh.length):aR (us++vs) (Yh++more) s=aR us Yh s:=by
 unfold aR;exact aa (qd ok hl hs) (aa (cN (q1 hs hl)) rfl)
section
open PySem.Builtin.Str PySem.StrLaws
theorem yA(hp:x.cps.toList[p]?=some c)(hb:∀ i,x.cps.toList[i]?=some c->i=p):occurrences x ⟨#[c]⟩ 0 x.length 1=[p]:=by
 rcases occ_head x ⟨#[c]⟩ 1 (K1 1) with⟨_,h⟩|⟨i,r,h1,h2,_⟩
 ·exact absurd ((subAt_one x c p).mpr hp) (h p)
 ·have hl:=occ_length_le x ⟨#[c]⟩ 0 x.length 1
  rw[h1] at hl⊢;exact aa (Mv (Nat.le_zero.mp (Ph hl))) (aa (hb i ((subAt_one x c i).mp h2)) rfl)
theorem pi(hb:∀ i,x.cps.toList[i]?=some c->i=p):∀ (l:List Nat),((forIn l ((#[]:Array Nat),x.length) (occRBody x ⟨#[c]⟩ 1)).run.fst=#[]/\∀ k∈l,x.cps.toList[x.length-k]?≠some c)∨(forIn l ((#[]:Array Nat),x.length) (occRBody x ⟨#[c]⟩ 1)).run.fst=#[p]
 |[]=> .inl ⟨rfl,fun _ h=>nomatch h⟩
 |k::l=>by
  have full:∀ (l:List Nat) (f:Nat),(forIn l (#[p],f) (occRBody x ⟨#[c]⟩ 1)).run.fst=#[p]:=fun l=>by
   induction l with
   |nil=>exact fun _=>rfl
   |cons a l ih=>
    intro f;refine aa (Oh _ _ _ _) ?_;unfold occRBody;exact aa (KO (fun h=>Nv 1 h.1.1)) (ih f)
  refine aa (Oh _ _ _ _) ?_
  by_cases h:x.cps.toList[x.length-k]?=some c
  ·have h2:=(subAt_one x c (x.length-k)).mpr h
   have e:occRBody x ⟨#[c]⟩ 1 k (#[],x.length)=pure (ForInStep.yield (#[x.length-k],x.length-k)):=KZ ⟨⟨Nat.zero_lt_one,h2.1⟩,h2.2⟩;exact aa e (aa (hb _ h) (.inr (full l p)))
  ·have e:occRBody x ⟨#[c]⟩ 1 k (#[],x.length)=pure (ForInStep.yield (#[],x.length)):=KO fun q=>h ((subAt_one x c _).mp ⟨q.1.2,q.2⟩)
   refine aa e ?_;rcases pi hb l with⟨h1,h2⟩|h1
   ·exact .inl ⟨h1,fun q hq=>(KI.mp hq).elim (fun e=>e▸h) (h2 q)⟩
   ·exact .inr h1
theorem wN(hp:x.cps.toList[p]?=some c)(hb:∀ i,x.cps.toList[i]?=some c->i=p):occurrencesFromRight x ⟨#[c]⟩ 1=[p]:=by
 refine aa (occR_eq _ _ _) ?_;have hl:p<x.length:=(Ll.mp hp).1;rcases pi hb (List.range' 0 (x.length+1)) with⟨_,h⟩|h
 ·refine absurd ?_ (h (x.length-p) (List.mem_range'_1.mpr ⟨K6 _,sH⟩))
  exact aa (Nat.sub_sub_self (LF hl)) hp
 ·refine aa h ?_;rfl
theorem nA:partsBetween ⟨(a++c::b).toArray⟩ [a.length] 1=[⟨a.toArray⟩,⟨b.toArray⟩]:=by
 show [strSub _ 0 a.length,strSub _ (a.length+1) _]=_;have e:(⟨(a++c::b).toArray⟩:Str).length=a.length+1+b.length:=by
  show (a++c::b).toArray.size=_;refine aa Lw (aa KJ (aa Le ?_));exact LE [_,_] (.a V0 (.a V1 W1)) (.a (.a V0 W1) V1) rfl
 refine aa e ?_;unfold strSub;simp
theorem zH(ha:c∉a)(hb:c∉b):(⟨(a++c::b).toArray⟩:Str).cps.toList[a.length]?=some c/\∀ i,(⟨(a++c::b).toArray⟩:Str).cps.toList[i]?=some c->i=a.length:=by
 constructor
 ·simp
 ·intro i h
  rcases Nat.lt_trichotomy i a.length with q|q|q
  ·rw[show (⟨(a++c::b).toArray⟩:Str).cps.toList=a++c::b from rfl,Mu q] at h
   exact absurd (LL h) ha
  ·exact q
  ·rw[show (⟨(a++c::b).toArray⟩:Str).cps.toList=a++c::b from rfl,LU (LF q),show i-a.length=i-a.length-1+1 from s1 q,List.getElem?_cons_succ] at h
   exact absurd (LL h) hb
theorem mq(ha:c∉a)(hb:c∉b)(hk:Builtin.Str.strKind ⟨#[c]⟩<=Builtin.Str.strKind ⟨(a++c::b).toArray⟩):Txt.splitMax ⟨(a++c::b).toArray⟩ ⟨#[c]⟩ 1=[⟨a.toArray⟩,⟨b.toArray⟩]/\Txt.rsplitMax ⟨(a++c::b).toArray⟩ ⟨#[c]⟩ 1=[⟨a.toArray⟩,⟨b.toArray⟩]:=by
 obtain⟨h1,h2⟩:=zH ha hb;have hl:¬(⟨(a++c::b).toArray⟩:Str).length<(⟨#[c]⟩:Str).length:=by
  show¬(a++c::b).toArray.size<1;refine aa Lw (aa KJ (aa Le ?_));exact E5
 have hg:¬(decide ((⟨(a++c::b).toArray⟩:Str).length<(⟨#[c]⟩:Str).length)||decide (strKind ⟨(a++c::b).toArray⟩<strKind ⟨#[c]⟩))=true:=by
  exact aa (K0 hl) (aa (K0 (MZ.mpr hk)) KR)
 constructor
 ·unfold Txt.splitMax
  refine aa (KO hg) ?_;show (if (occurrences _ _ 0 _ 1).isEmpty=true then _ else partsBetween _ (occurrences _ _ 0 _ 1) 1)=_;exact aa (yA h1 h2) nA
 ·unfold Txt.rsplitMax
  refine aa (KO hg) ?_;show (if (occurrencesFromRight _ _ 1).isEmpty=true then _ else partsBetween _ (occurrencesFromRight _ _ 1) 1)=_;exact aa (wN h1 h2) nA
theorem jQ(h:c<256)(x:Str):Builtin.Str.strKind ⟨#[c]⟩<=Builtin.Str.strKind x:=by
 have e:Builtin.Str.strKind ⟨#[c]⟩=1:=by unfold Builtin.Str.strKind;exact aa (KZ (by simpa using h)) rfl
 refine aa e ?_;unfold Builtin.Str.strKind
 split
 ·exact K1 1
 ·split<;>decide
end
theorem gZ:Ye "{"=⟨([123]:List Nat).toArray⟩:=by decide+kernel
theorem iI:Ye "}"=⟨([125]:List Nat).toArray⟩:=by decide+kernel
theorem fV(l t:List Nat):ah ⟨l.toArray⟩ ⟨t.toArray⟩=⟨(123::(l++125::t)).toArray⟩:=by
 show Ye "{"++_++Ye "}"++_=_
 (refine aa gZ (aa iI ?_);rw[b0,b0];refine aa (b0 _ _) ?_)
 congr 2
 simp
theorem jV{l:List Nat}(h:∀ x∈l,x∈ee){c:Nat}(hc:c∉ee):c∉l:=fun q=>hc (h c q)
theorem jT{l:List Nat}(h:∀ x∈l,x∈ee∨x=107∨x=49∨x=95∨x=58):bo ⟨l.toArray⟩:=fun c hc=>by
 have k:∀ x∈ee++[107,49,95,58],x≠38/\x≠60/\x≠62/\x≠34/\x≠9/\x≠10/\x≠13:=by decide+kernel
 refine k c ?_;rcases h c hc with h|rfl|rfl|rfl|rfl
 ·exact KA _ h
 all_goals exact KB _ (by decide)
theorem pR{l t:List Nat}(hl:∀ x∈l,x∈ee)(ht:∀ x∈t,x∈ee)(zl:l.length=10)(zt:t.length<=100):fr ⟨l.toArray⟩ ⟨t.toArray⟩:=by
 have n1:125∉l:=jV hl (by decide+kernel);have n2:125∉t:=jV ht (by decide+kernel);have e2:Txt.slice (ah ⟨l.toArray⟩ ⟨t.toArray⟩) (some 1) none=⟨(l++125::t).toArray⟩:=by
  refine aa (fV _ _) ?_;exact jd (l:=123::(l++125::t)) (j:=1) (by refine aa Le ?_;exact MN 1 _)
 refine⟨⟨?_,?_,?_,?_,?_⟩,fun tk=>?_,jT fun x hx=> .inl (hl x hx),fun e=>?_⟩
 ·refine aa (bO _) (aa zl ?_);decide
 ·refine aa (bO _) ?_;exact KH zt (by decide)
 ·have e1:Txt.slice (ah ⟨l.toArray⟩ ⟨t.toArray⟩) none (some 1)=⟨([123]:List Nat).toArray⟩:=by
   refine aa (fV _ _) ?_;exact nW (l:=123::(l++125::t)) (j:=1) (by refine aa Le ?_;exact MN 1 _)
  exact aa e1 (aa gZ (OG _))
 ·refine aa e2 (aa iI ?_)
  exact(mq n1 n2 (jQ (by decide) _)).2
 ·refine aa e2 (aa (bO _) (aa KJ (aa Le (aa zl ?_))))
  exact KH (Mj (Mt zt) 10) (by decide)
 ·show Txt.splitMax (ah ⟨l.toArray⟩ ⟨t.toArray⟩) (Ye "}") 1=[Ye "{"++⟨l.toArray⟩,⟨t.toArray⟩]
  refine aa (fV _ _) (aa iI (aa gZ (aa (b0 _ _) ?_)));refine(mq (a:=123::l) (fun q=>?_) n2 (jQ (by decide) _)).1;rcases KI.mp q with q|q
  ·exact absurd q (by decide)
  ·exact n1 q
 ·have e2:=congrArg Str.length e
  rw[bO,zl] at e2;exact absurd e2 (by decide+kernel)
theorem du(j:Nat):aq j=⟨([if j=0 then 114 else 116]:List Nat).toArray⟩:=by
 unfold aq
 match j with
 |0=>rfl
 |1=>rfl
 |j+2=>
  exact aa (KZ (by exact LD.mpr (Po (MR j)))) (aa (KO (Pp _)) rfl)
theorem mO{c:Int}(hc:ai c)(j:Nat):fr (ac c) (aq j):=by
 obtain⟨n,rfl,hn⟩:=hc.nat;refine aa (fX n hn) (aa (du _) ?_);refine pR (fj hn) (fun x hx=>?_) (e7 n) (by show 1<=100;decide);refine aa (KF.mp hx) ?_
 split<;>decide
theorem xe{c d:Int}(hc:ai c)(hd:ai d):fr (ac c) (n9 (ac d)):=by
 obtain⟨n,rfl,hn⟩:=hc.nat;obtain⟨k,rfl,hk⟩:=hd.nat
 (rw[fX n hn];refine aa (fh k hk) ?_)
 exact pR (fj hn) (fun x hx=>fj hk x (OB hx)) (e7 n) (by refine aa NA (aa (e7 _) ?_);decide)
theorem qT:∀ f,f<16->∀ x∈d3 f,x=45∨Sre.isWordUni x=true:=by decide+kernel
theorem wi:∀ f,f<16->∀ x∈iq f,x=45∨Sre.isWordUni x=true:=by decide+kernel
theorem uT(n:Nat):∀ x∈(dw n).drop 1,x=45∨Sre.isWordUni x=true:=fun x hx=>by
 have hx:x∈d3 (n/256%16)++(d3 (n/16%16)++iq (n%16)):=hx;rcases KM.mp hx with hx|hx
 ·exact qT _ (Ma _ (by decide)) x hx
 rcases KM.mp hx with hx|hx
 ·exact qT _ (Ma _ (by decide)) x hx
 ·exact wi _ (Ma _ (by decide)) x hx
theorem Aa:∀ k,k<8->((kc k=45∨kc k=63)∨gO (kc k)):=by unfold gO;decide+kernel
theorem qY(h:b=true↔gO c0/\∀ v∈l,v≠45):eX ⟨(107::49::95::c0::58::l).toArray⟩=b:=by
 refine aa (qZ _) ?_;show ([98,99,100,108,112,115].contains c0&&l.all (· !=45))=b
 (rw[M2,h];refine aa (Ny _ _) ?_)
 unfold gO;simp
theorem vg(n:Nat):(dw n).drop 1=[(d3 (n/256%16)).getD 0 0,(d3 (n/256%16)).getD 1 0,(d3 (n/256%16)).getD 2 0,(d3 (n/16%16)).getD 0 0,(d3 (n/16%16)).getD 1 0,(d3 (n/16%16)).getD 2 0,(iq (n%16)).getD 0 0,(iq (n%16)).getD 1 0,(iq (n%16)).getD 2 0]:=rfl
theorem yJ(h0:(c0=45∨c0=63)∨gO c0)(hv:∀ v∈[v1,v2,v3,v4,v5,v6,v7,v8,v9],v=45∨Sre.isWordUni v=true):
  kb ⟨(107::49::95::c0::58::[v1,v2,v3,v4,v5,v6,v7,v8,v9]).toArray⟩ (eX ⟨(107::49::95::c0::58::[v1,v2,v3,v4,v5,v6,v7,v8,v9]).toArray⟩):=by
 rcases AN h0 hv with⟨h,h6,h7⟩|⟨h,h6⟩
 ·exact aa (qY (b:=true) ⟨fun _=>⟨h6,h7⟩,fun _=>rfl⟩) ⟨c0,v1,v2,v3,v4,v5,v6,v7,v8,v9,rfl,h⟩
 ·exact aa (qY (b:=false) ⟨(fun q=>nomatch q),fun q=>absurd q h6⟩) ⟨c0,v1,v2,v3,v4,v5,v6,v7,v8,v9,rfl,h⟩
theorem jR{c:Int}(hc:ai c):j8 (n5 (ac c)) (n9 (ac c))/\dH (n5 (ac c))=n4 (ac c):=by
 obtain⟨n,rfl,hn⟩:=hc.nat;have hs:=fun x hx=>fj hn x (OB (i:=1) hx);have hp:dH (n5 (ac (n:Int)))=n4 (ac (n:Int)):=aa (lr n hn) (aa (hH n hn) rfl);have hk:kc (n/4096)∈ee:=q6 _ (Mq hn);refine⟨⟨?_,?_,?_,?_,?_,?_,?_⟩,hp⟩
 ·refine aa (lr n hn) (aa (fh n hn) (aa (b0 _ _) ?_))
  have hw:=uT n;rw[vg] at hw⊢;exact yJ (Aa _ (Mq hn)) hw
 ·exact aa hp (aa (lr n hn) (aa (hH n hn) (aa gj (aa (b0 _ _) rfl))))
 ·(refine aa hp (aa (hH n hn) (aa (fh n hn) (aa gj ?_)));rw[b0];refine aa (b0 _ _) ?_)
  refine(mq (a:=[107,49,95,kc (n/4096)]) (fun q=>?_) (jV hs (by decide+kernel)) (jQ (by decide) _)).1;simp only[KI,LH,O1] at q;rcases q with q|q|q|q
  ·exact absurd q (by decide)
  ·exact absurd q (by decide)
  ·exact absurd q (by decide)
  ·exact absurd (q▸hk) (by decide+kernel)
 ·refine aa (lr n hn) (aa (fh n hn) (aa (b0 _ _) ?_))
  refine jT fun x hx=>?_;rcases KM.mp hx with hx|hx
  ·simp only[KI,LH,O1] at hx
   rcases hx with rfl|rfl|rfl|rfl|rfl<;>simp[hk]
  ·exact .inl (hs x hx)
 ·exact aa (fh n hn) (jT fun x hx=> .inl (hs x hx))
 ·refine aa hp (aa (hH n hn) (aa (bO _) ?_));show 4<=100;decide
 ·refine aa (fh n hn) (aa (bO _) (aa NA (aa (e7 _) ?_)));decide
theorem cI(a b c:Str):a++b++c=a++(b++c):=congrArg Str.mk Array.append_assoc
theorem mz(a:Str):(⟨#[]⟩:Str)++a=a:=congrArg Str.mk Array.empty_append
theorem r8(l:List Str):Txt.join (Ye "") l=l.foldl (·++·) ⟨#[]⟩:=by
 have Qd:∀ (r:List Str) (x:Str),(⟨r.foldl (fun PV p=>PV++(Ye "").cps++p.cps) x.cps⟩:Str)=r.foldl (·++·) x:=fun r=>by
  induction r with
  |nil=>exact fun x=>rfl
  |cons y r ih=>
   intro x
   (refine aa L9 ?_;rw[L9];refine ae (ih _) ?_)
   have e:x.cps++(Ye "").cps++y.cps=(x++y).cps:=by
    have h0:(Ye "").cps=#[]:=by decide+kernel
    (refine aa h0 ?_;rw[Array.append_empty])
    rfl
   exact aa e rfl
 cases l with
 |nil=>rfl
 |cons x r=>
  exact aa L9 (aa (mz _) (ae (Qd r x) rfl))
theorem oZ(a b:List Str):Txt.join (Ye "") (a++b)=b.foldl (·++·) (Txt.join (Ye "") a):=by exact aa (r8 _) (aa (r8 _) (aa NT rfl))
theorem oA(p:Str):∀ (l:List Str) (q:Str),p++l.foldl (·++·) q=l.foldl (·++·) (p++q)
 |[],_=>rfl
 |x::l,q=>by(refine aa L9 ?_;rw[L9];exact aa (oA p l _) (aa (cI _ _ _) rfl))
theorem zG(p:Str)(l:List Str):p++Txt.join (Ye "") l=l.foldl (·++·) p:=by
 exact aa (r8 _) (aa (oA _ _ _) (congrArg (fun q:Str=>l.foldl (·++·) q) (congrArg Str.mk Array.append_empty)))
def vE(p:Str×Int):Str×Str:=(Ye "xmlns:"++p.1,ac p.2)
theorem uJ(a x y:Str):(a++x).cps.toList<(a++y).cps.toList↔x.cps.toList<y.cps.toList:=by
 have e:∀ z:Str,(a++z).cps.toList=a.cps.toList++z.cps.toList:=fun z=>Array.toList_append;refine aa (e _) (aa (e _) ?_)
 induction a.cps.toList with
 |nil=>exact Iff.rfl
 |cons q l ih=>
  (refine aa Md (aa Md ?_);rw[Ml])
  exact⟨fun h=>ih.mp (h.resolve_left (Nv q)).2,fun h=> .inr ⟨rfl,ih.mpr h⟩⟩
theorem ji(N:Yc):∀ F:Yc,aY (F.map (cJ N))=(bv (aA N F)).map vE
 |[]=>rfl
 |[x]=>rfl
 |[x,y]=>by
  show (if (Ye "xmlns:"++aL N y).cps.toList<(Ye "xmlns:"++aL N x).cps.toList then _ else _)=(if (aL N y).cps.toList<(aL N x).cps.toList then _ else _:List (Str×Int)).map vE
  by_cases h:(aL N y).cps.toList<(aL N x).cps.toList
  ·(rw[KZ h];refine aa (KZ ((uJ _ _ _).mpr h)) ?_);rfl
  ·(rw[KO h];refine aa (KO fun q=>h ((uJ _ _ _).mp q)) ?_);rfl
 |x::y::z::r=>by
  show ((x::y::z::r).map (cJ N)).map aV=((x::y::z::r).map fun c=>(aL N c,c)).map vE
  (rw[M4];refine aa M4 ?_)
  rfl
theorem Ae:Ye " xmlns:"=Ye " "++Ye "xmlns:":=by decide+kernel
theorem mT(L:List (Str×Int))(Yj:Str):Yj++fL (L.map vE)=L.foldl aU Yj:=by
 unfold fL;refine aa (zG _ _) (aa M4 (aa List.foldl_map ?_));refine congrArg (fun f=>L.foldl f Yj) (funext fun pg=>funext fun p=>?_);unfold aU vE;refine aa Ae ?_;simp only[Function.comp_apply,cI]
theorem tV(N F:Yc)(Yj:Str):(if aY (F.map (cJ N))=[] then[] else[fL (aY (F.map (cJ N)))]).foldl (·++·) Yj=(bv (aA N F)).foldl aU Yj:=by
 refine aa (ji _ _) ?_
 cases bv (aA N F) with
 |nil=>rfl
 |cons x L=>
  exact aa (KO (by exact Pj _ _)) (mT (x::L) Yj)
def AU(xn:Str):Option Str->Str
 |none=>⟨#[]⟩
 |some p=>p++Ye ":"++xn
theorem qx(N F:Yc)(QM tg:Str)(Qw:Option Str)(xn Yj:Str):(aX QM tg (aY (F.map (cJ N))) Qw xn).foldl (·++·) Yj=
  (bv (aA N F)).foldl aU (Yj++Ye "<"++(QM++Ye ":"++tg))++Ye ">"++AU xn Qw:=by
 unfold aX
 (refine aa L9 (aa NT (aa (tV _ _ _) ?_));rw[←cI Yj])
 cases Qw with
 |none=>exact(congrArg Str.mk Array.append_empty).symm
 |some p=>rfl
theorem cB(l:List α)(x d:α):(l++[x]).getD l.length d=x:=by
 refine aa KU (aa (LU (K1 _)) (aa (OZ _) ?_));rfl
def bK(c m:Int):Yc:=[c,m].filter fun c=>decide (0<=c)
theorem sV(h:means.length=Yg.length)(c m:Int):aQ (Yg++[c]) (means++[m])=aQ Yg means++[bK c m]:=by
 unfold aQ;refine aa KJ (aa Nb (aa List.range_succ (aa KP ?_)))
 congr 1
 ·refine MK fun s hs=>?_
  have hs:=NX.mp hs;unfold cK;exact aa (cN hs) (aa (cN (h▸hs)) rfl)
 ·show [cK _ _ _]=_
  unfold cK;exact aa (cB _ _ _) (ae h (aa (cB _ _ _) rfl))
theorem eB(Yg means:Yc):(aQ Yg means).length=Yg.length:=by unfold aQ;exact aa (KG _) (aa Op rfl)
theorem jZ(h:s<Yg.length):(aQ Yg means).getD s []=cK Yg means s:=by
 unfold aQ;exact aa KU (aa LX (aa (List.getElem?_range h) rfl))
theorem yQ(hc:∀ x∈Yg,ai x)(hm:∀ x∈means,-1<=x/\x<32768)(hl:means.length=Yg.length):jG (aQ Yg means):=fun u hu c hcu=>by
 obtain⟨s,hs,rfl⟩:=KK.mp hu;have hs:=NX.mp hs;obtain⟨h1,h2⟩:=Lg.mp hcu;rcases KI.mp h1 with rfl|h1
 ·exact hc _ (bj hs)
 ·rw[KF.mp h1] at h2⊢
  exact⟨Nu h2,(hm _ (bj (hl▸hs))).2⟩
theorem pP(n:Nat):cW (n:Int)=n:=KO (Fy)
theorem pO(n:Nat):cW (-1-(n:Int))=n:=by
 unfold cW;refine aa (KZ (Fz)) ?_;exact B7
structure ei(Yg Yh means:Yc):Prop where
 hl:Yh.length=Yg.length
 ml:means.length=Yg.length
 hh:bQ Yh
 c0:∀ x∈Yg,ai x
 m0:∀ x∈means,-1<=x/\x<32768
theorem ei.us(h:ei Yg Yh means):jG (aQ Yg means):=yQ h.c0 h.m0 h.ml
theorem ei.need(h:ei Yg Yh means)(hs:s<Yg.length)(hc:c∈cK Yg means s):c∈af (aQ Yg means):=
 (dG h.us).mpr ⟨cK Yg means s,KW (NX.mpr hs),hc⟩
theorem ei.codeAt(h:ei Yg Yh means)(hs:s<Yg.length):Yg.getD s 0∈af (aQ Yg means):=
 h.need hs (Lg.mpr ⟨.head _,KY (h.c0 _ (bj hs)).1⟩)
theorem uK{Yg Yh means:Yc}(h:ei Yg Yh means){c ho m:Int}{u:Yc}{M:Yc}{Yj:Str}{s:Nat}(hs:s<Yg.length){k:Int}(hk:k=s∨k=-1-(s:Int)):
  bh (Yg++[c]) (Yh++[ho]) (means++[m]) (aQ Yg means++[u]) (af (aQ Yg means)++M) Yj k=bh Yg Yh means (aQ Yg means) (af (aQ Yg means)) Yj k:=by
 have e1:cW k=(s:Int):=by rcases hk with rfl|rfl;exact pP s;exact pO s
 have e2:bc (Yg++[c]) (af (aQ Yg means)++M) s=bc Yg (af (aQ Yg means)) s:=by
  unfold bc;exact aa (cN hs) (aa (lu (h.codeAt hs)) rfl)
 have e3:aA (af (aQ Yg means)++M) (aR (aQ Yg means++[u]) (Yh++[ho]) s)=aA (af (aQ Yg means)) (aR (aQ Yg means) Yh s):=by
  refine aa (kO h.hh (by rw[eB,h.hl]) (by rw[h.hl];exact hs)) ?_;refine MK fun x hx=>?_;have hx:=dg.mp (Lg.mp hx).1;rw[jZ hs] at hx;exact aa (lu (h.need hs hx)) rfl
 have e4:eR (Yg++[c]) (means++[m]) (af (aQ Yg means)++M) s=eR Yg means (af (aQ Yg means)) s:=by
  unfold eR;refine aa (cN hs) (aa (cN (h.ml▸hs)) ?_)
  split
  ·rename_i q
   exact aa (lu (h.need hs (Lg.mpr ⟨aK,KY q⟩))) rfl
  ·rfl
 unfold bh
 (refine aa e1 (aa (La _) ?_);rw[e2];exact aa e3 (aa e4 rfl))
theorem oM(ok:bQ Yh):∀ (f:Nat) (s:Int),-1<=s->s<Yh.length->∀ o∈bx Yh f s,o<=s
 |0,_,_,_,_,h=>nomatch h
 |f+1,s,h0,h1,o,ho=>by
  unfold bx at ho
  split at ho
  ·cases ho
  ·rename_i hs
   obtain⟨g0,g1⟩:=ok s.toNat (mN h0 hs h1);rcases KI.mp ho with rfl|ho
   ·exact Int.le_refl _
   ·have:=oM ok f _ g0 (vt h0 hs h1 g1) o ho
    exact FD h0 hs g1 this
def DS.us(d:DS):List Yc:=aQ d.Yg d.means
def DS.N(d:DS):Yc:=af d.us
def DS.chain(d:DS):Yc:=aj d.Yh d.Yn
def DS.declAt(d:DS)(s:Int):List UP:=(aR d.us d.Yh s.toNat).map (cJ d.N)
def je(p:Int×Int):UP:=(ac p.2,n4 (ac p.2))
def DS.nsAt(d:DS)(s:Int):List UP:=(d.YA.filter fun p=>p.1==s).map je
def DS.tagAt(d:DS)(s:Int):Str×Str:=(ac (d.Yg.getD s.toNat 0),aq s.toNat)
structure dz(d:DS)(j:Nat):Prop where
 ll:ei d.Yg d.Yh d.means
 mr:∀ k∈d.marks,aO (fun(s:Nat)=>s<d.Yg.length) (fun s=>(k=s∨k=-1-(s:Int)))
 t0:∀ p∈d.YA,ai p.2/\p.1<d.Yg.length
 h0:-1<=d.Yn
 h1:d.Yn<d.Yg.length
 hz:∀ s:Nat,0<s->s<d.Yg.length->0<=d.Yh.getD s (-1)
 cz:d.Yg.length<=j
 tz:d.YA.length<=j
structure cY(d:DS)(a:AW)(st:List (Str×Str))(j P:Nat):Prop where
 ok:dz d j
 Yi:a.Yi=none
 data:a.data=none
 Yj:Txt.join (Ye "") a.Yj=d.text
 pm:a.pm=bY d.N
 decl:a.decl=[bt]::(d.chain.map d.declAt).reverse
 ns:a.ns=[]::(d.chain.map d.nsAt).reverse
 st:st=(d.chain.map d.tagAt).reverse
 YR:a.Yj.length<=P
 pgx:∀ x∈a.Yj,x.length<=4000
theorem dz.Yn(h:dz d j)(h0:0<=d.Yn):fJ (fun(s:Nat)=>d.Yn=s) (fun s=>s<d.Yg.length) (fun s=>d.chain=(s:Int)::aj d.Yh (d.Yh.getD s (-1))):=by
 have h1:=h.h1;refine⟨d.Yn.toNat,(OM h0).symm,iW h0 h1,?_⟩;unfold DS.chain;exact aa (eH h.ll.hh h0 (by rw[h.ll.hl];exact h1)) (aa (OM h0) rfl)
theorem dz.chainIn(h:dz d j)(ho:o∈d.chain):0<=o/\o<d.Yg.length:=by
 refine ae h.ll.hl ?_;exact fN h.ll.hh _ _ h.h0 (by refine aa h.ll.hl ?_;exact h.h1) o ho
theorem dz.chainLen(h:dz d j):d.chain.length<=j:=by
 have:=dF h.ll.hh (d.Yh.length+1) d.Yn h.h0 (by refine aa h.ll.hl ?_;exact h.h1);have h1:=h.h1;have h2:=h.cz;refine KH this ?_;exact Fp h1 h2
theorem dz.usOk(h:dz d j):jG d.us:=h.ll.us
theorem dz.nOk(h:dz d j):∀ c∈d.N,ai c:=fun c hc=>by
 obtain⟨u,hu,hcu⟩:=(dG h.usOk).mp hc;exact h.usOk u hu c hcu
theorem pX(Yg means:Yc)(s:Nat):(cK Yg means s).length<=2:=Na _ _
theorem dz.nLen(h:dz d j):d.N.length<=2*j:=by
 refine KH (nv fun u hu=>?_) ?_
 ·obtain⟨s,_,rfl⟩:=KK.mp hu
  exact pX _ _ s
 ·exact aa (show d.us.length=d.Yg.length from eB _ _) (Mk 2 h.cz)
theorem ez(h:ai c):(ac c).length=10:=by
 obtain⟨n,rfl,hn⟩:=h.nat;exact aa (fX n hn) (aa (bO _) (aa (e7 _) rfl))
theorem yI(h:ai c):ac c≠bt.1:=fun e=>by
 have e2:=congrArg Str.length e;rw[ez h] at e2;exact absurd e2 (by decide+kernel)
theorem rf(h:N.length<=2*j)(hj:j<=20)(c:Int):(aL N c).length<=1000:=by
 have:=List.idxOf_le_length (a:=c) (l:=N);exact(nR (N.idxOf c) (by exact L3 [_,_,_] (.a V2 W1) (.n 64) 1 V0 (.m 2 V1) 2 V1 (.n 20) 1 V2 V0 rfl h hj this)).1
theorem yE(h:∀ c∈N,ai c)(nd:N.Nodup):bL (bY N):=by
 refine⟨fun i x hx=>?_,?_,fun x hx=>?_⟩
 ·unfold bY at hx
  rw[LX] at hx;obtain⟨c,hc,rfl⟩:=Lv.mp hx;obtain⟨hi,rfl⟩:=Ll.mp hc;show aL N N[i]=_;unfold aL;exact aa (nd.idxOf_getElem i hi) rfl
 ·unfold bY
  exact aa M4 (lg nd fun a ha b hb e=>mJ (h a ha) (h b hb) e)
 ·obtain⟨c,hc,rfl⟩:=KK.mp hx
  show (ac c).length<=1000;refine aa (ez (h c hc)) ?_;decide
theorem dz.YE(h:dz d j):bL (bY d.N):=yE h.nOk (wL _ h.usOk)
noncomputable def DS.F (d:DS) (l:Yc):Yc:=l.flatMap fun s=>aR d.us d.Yh s.toNat
noncomputable def DS.A(d:DS)(l:Yc):Yc:=l.flatMap fun s=>d.us.getD s.toNat []
theorem mZ(d:DS)(l:Yc):aC ([bt]::(l.map d.declAt).reverse)=(d.F l).map (cJ d.N)++[bt]:=by
 unfold aC;refine aa Mm (aa (List.reverse_reverse _) (aa List.flatten_append ?_))
 congr 1
 unfold DS.F;exact aa Pk (aa List.flatMap_def rfl)
theorem dz.fresh(h:dz d j):∀ (n:Nat) (s:Int),-1<=s->s<d.Yg.length->(s+1).toNat<=n->(c∈d.F (aj d.Yh s)↔c∈d.A (aj d.Yh s))
 |n,s,h0,h1,hn=>by
  rcases Int.lt_or_le s 0 with q|q
  ·exact aa (show s=-1 from B6 h0 q) (aa (dW _) Iff.rfl)
  ·cases n with
   |zero=>exact FE q hn
   |succ n=>
    obtain⟨g0,g1⟩:=h.ll.hh s.toNat (by refine aa h.ll.hl ?_;exact iW q h1);have ih:=h.fresh (c:=c) n (d.Yh.getD s.toNat (-1)) g0 (tB q h1 g1) (Fh q hn g1);refine aa (eH h.ll.hh q (by rw[h.ll.hl];exact h1)) ?_;unfold DS.F DS.A at ih⊢
    (refine aa M1 (aa M1 ?_);rw[KM,KM,ih])
    unfold aR
    (rw[Lg,dg];refine aa MJ ?_)
    unfold cM
    constructor
    ·rintro(⟨h1,_⟩|h2)
     ·exact .inl h1
     ·exact .inr h2
    ·rintro(h1|h2)
     ·by_cases hc:c∈(aj d.Yh (d.Yh.getD s.toNat (-1))).flatMap fun o=>d.us.getD o.toNat []
      ·exact .inr hc
      ·exact .inl ⟨h1,hc⟩
     ·exact .inr h2
theorem dz.fresh'(h:dz d j):c∈d.F d.chain↔c∈d.A d.chain:=h.fresh _ _ h.h0 h.h1 (K1 _)
theorem dz.aN(h:dz d j)(hc:c∈d.A d.chain):c∈d.N:=by
 obtain⟨s,hs,Uf⟩:=M9.mp hc;have hs:=h.chainIn hs;have S8:s.toNat<d.us.length:=by refine aa (show d.us.length=d.Yg.length from eB _ _) ?_;exact iW hs.1 hs.2
 exact(dG h.usOk).mpr ⟨_,bj S8,Uf⟩
theorem dz.Yo(h:dz d j):rD (aC ([bt]::(d.chain.map d.declAt).reverse)) (d.A d.chain) d.N:=by
 have Qd:∀ c,ai c->aZ (aC ([bt]::(d.chain.map d.declAt).reverse)) (ac c)=if c∈d.F d.chain then some (aL d.N c) else none:=fun c hc=>by
  have h1:aZ ((d.F d.chain).map (cJ d.N)) (ac c)=if c∈d.F d.chain then some (aL d.N c) else none:=gK hc fun x hx=>h.nOk x (h.aN (h.fresh'.mp hx))
  have h2:aZ [bt] (ac c)=none:=by
   unfold aZ;exact aa (List.find?_cons_of_neg (by simpa using fun e=>yI hc e.symm)) rfl
  (refine aa (mZ _ _) (aa (jr _ _ _) ?_);rw[h1];refine aa h2 ?_)
  split<;>rfl
 refine⟨fun c hc=>⟨aL d.N c,?_⟩,fun c hc hn=>?_,fun c hc=>h.aN hc⟩
 ·exact aa (Qd c (h.nOk c (h.aN hc))) (aa (KZ (h.fresh'.mpr hc)) rfl)
 ·exact aa (Qd c hc) (aa (KO fun q=>hn (h.fresh'.mp q)) rfl)
theorem A0(h:c∈N):cJ N c∈bY N:=KW h
theorem dz.dk(h:dz d j):bk (aC ([bt]::(d.chain.map d.declAt).reverse)) (bY d.N):=fun x hx=>by
 rw[mZ] at hx;rcases KM.mp hx with hx|hx
 ·obtain⟨c,hc,rfl⟩:=KK.mp hx
  exact .inl (A0 (h.aN (h.fresh'.mp hc)))
 ·exact .inr (KF.mp hx)
theorem nf(us:List Yc)(Yh:Yc)(s:Nat)(h:∀ u∈us,u.length<=2):(aR us Yh s).length<=2:=by
 unfold aR;refine KH (Na _ _) ?_;refine aa ((bp _).length_eq) ?_;refine KH (iD _) ?_;rcases M6 s us.length with q|q
 ·exact h _ (bj q)
 ·refine aa KU (aa (NP q) ?_);exact K6 2
theorem vA(d:DS):∀ u∈d.us,u.length<=2:=fun u hu=>by
 obtain⟨s,_,rfl⟩:=KK.mp hu;exact pX _ _ s
theorem uj(h:∀ x∈l,x.length<=k):(aC l).length<=k*l.length:=by
 unfold aC;refine aa List.length_flatten (aa List.map_reverse (aa (List.sum_reverse _) ?_))
 induction l with
 |nil=>exact K6 _
 |cons x l ih=>
  exact aa LB (aa List.sum_cons (aa Le (aa (Nat.mul_succ _ _) (aa (Nat.add_comm _ _) (NB (ih fun y hy=>h y (.tail _ hy)) (h x (.head _)))))))
theorem Ao(hc:ai c):(n4 (ac c)).length=4:=by
 obtain⟨n,rfl,hn⟩:=hc.nat;exact aa (hH n hn) (aa (bO _) rfl)
theorem dz.nsRow(h:dz d j)(hp:p∈d.nsAt s):p.1.length<=1000/\p.2.length<=1000:=by
 unfold DS.nsAt at hp;obtain⟨q,hq,e⟩:=KK.mp hp;have hc:=(h.t0 q (Lg.mp hq).1).1;refine ae e ?_;unfold je;dsimp only
 (rw[ez hc];refine aa (Ao hc) ?_)
 decide
theorem dz.nsLen(h:dz d j)(s:Int):(d.nsAt s).length<=j:=by
 unfold DS.nsAt;exact aa (KG _) (KH (Na _ _) h.tz)
theorem cY.declLen{d:DS}{a:AW}{st:List (Str×Str)}{j P:Nat}(h:cY d a st j P):a.decl.length<=j+1:=by
 exact aa h.decl (aa Le (aa List.length_reverse (aa (KG _) (Mt h.ok.chainLen))))
theorem cY.nsLen{d:DS}{a:AW}{st:List (Str×Str)}{j P:Nat}(h:cY d a st j P):a.ns.length<=j+1:=by
 exact aa h.ns (aa Le (aa List.length_reverse (aa (KG _) (Mt h.ok.chainLen))))
theorem cY.stLen{d:DS}{a:AW}{st:List (Str×Str)}{j P:Nat}(h:cY d a st j P):st.length=d.chain.length:=by
 exact aa h.st (aa List.length_reverse (aa (KG _) rfl))
structure Ca(a:AW):Prop where
 YE:bL a.pm
 dk:bk (aC a.decl) a.pm
 YN:a.pm.length<=40
 il:∀ l∈a.decl,l.length<=1000
 fl:(aC a.decl).length<=900
 nl:∀ l∈a.ns,l.length<=1000
 nn:a.ns.length<=1000
 ne:a.ns≠[]
 nu:∀ p∈aC a.ns,p.1.length<=1000/\p.2.length<=1000
 dn:a.decl≠[]
 dl:a.decl.length<=1000
theorem cY.fits{d:DS}{a:AW}{st:List (Str×Str)}{j P:Nat}(h:cY d a st j P)(hj:j<=15):Ca a:=by
 have hd:=h.declLen;have hn:=h.nsLen;have d2:∀ l∈a.decl,l.length<=2:=fun l hl=>by
  rw[h.decl] at hl;rcases KI.mp hl with rfl|hl
  ·exact MG 1
  ·obtain⟨s,_,rfl⟩:=KK.mp (Pl.mp hl)
   unfold DS.declAt;exact aa (KG _) (nf _ _ _ (vA d))
 have n2:∀ l∈a.ns,l=[]∨∃ s,l=d.nsAt s:=fun l hl=>by
  rw[h.ns] at hl;rcases KI.mp hl with rfl|hl
  ·exact .inl rfl
  ·obtain⟨s,_,rfl⟩:=KK.mp (Pl.mp hl)
   exact .inr ⟨s,rfl⟩
 refine⟨by refine aa h.pm ?_;exact h.ok.YE,by refine aa h.pm (aa h.decl ?_);exact h.ok.dk,?_,fun l hl=>KH (d2 l hl) (by decide),?_,fun l hl=>?_,by exact L2 [_,_] V1 (.n 1000) 1 V0 (.n 15) 1 V1 (.a V0 W1) rfl hj hn,by refine aa h.ns ?_;exact Pj _ _,fun p hp=>?_,by refine aa h.decl ?_;exact Pj _ _,by exact L2 [_,_] V1 (.n 1000) 1 V0 (.n 15) 1 V1 (.a V0 W1) rfl hj hd⟩
 ·refine aa h.pm ?_
  unfold bY;refine aa (KG _) ?_;have:=h.ok.nLen;exact L2 [_,_] V1 (.n 40) 2 V0 (.n 15) 1 V1 (.m 2 V0) rfl hj this
 ·have:=uj d2
  exact L3 [_,_,_] V2 (.n 900) 2 V0 (.n 15) 2 V1 (.a V0 W1) 1 V2 (.m 2 V1) rfl hj hd this
 ·rcases n2 l hl with rfl|⟨s,rfl⟩
  ·exact K6 _
  ·have:=h.ok.nsLen s
   exact L2 [_,_] V1 (.n 1000) 1 V0 (.n 15) 1 V1 V0 rfl hj this
 ·obtain⟨l,hl,hp⟩:=List.mem_flatten.mp hp
  rcases n2 l (Pl.mp hl) with rfl|⟨s,rfl⟩
  ·cases hp
  ·exact h.ok.nsRow hp
theorem cY.good{d:DS}{a:AW}{st:List (Str×Str)}{j P:Nat}(h:cY d a st j P)(hj:j<=15)(hP:P<=200):eD a:=by
 have f:=h.fits hj;exact⟨f.YE,f.dk,f.YN,f.il,f.fl,f.nl,KH f.nn (by decide),f.ne,f.nu,KH h.YR (KH hP (by decide)),fun p q e=>(by rw[h.data] at e;cases e),
  fun u tg e=>(by rw[h.Yi] at e;cases e),fun _=>h.Yi,fun e=>absurd h.data e,fun u tg p q u2 e=>(by rw[h.Yi] at e;cases e)⟩
theorem cY.endOk{d:DS}{a:AW}{st:List (Str×Str)}{j P:Nat}(h:cY d a st j P)(hj:j<=15)(hP:P<=200)(h0:0<=d.Yn):iY a (d.tagAt d.Yn).1 (d.tagAt d.Yn).2:=by
 have f:=h.fits hj;obtain⟨s,e,hs,QF⟩:=h.ok.Yn h0;have Q2:=h.ok.ll.c0 _ (bj (d:=0) hs);refine⟨f.YE,f.dk,KH f.YN (by decide),f.il,f.fl,f.dn,KH f.dl (by decide),KH f.nn (by decide),f.ne,KH h.YR (KH hP (by decide)),?_,?_⟩
 ·refine aa e ?_;exact mO Q2 s
 ·refine aa h.decl (aa e ?_)
  have hA:d.Yg.getD s 0∈d.A d.chain:=by
   unfold DS.A;refine aa QF (aa M1 ?_);refine KA _ ?_;exact aa (show d.us.getD (s:Int).toNat []=cK d.Yg d.means s from jZ hs) (Lg.mpr ⟨.head _,KY Q2.1⟩)
  obtain⟨p,hp⟩:=h.ok.Yo.some _ hA;show aZ _ (ac (d.Yg.getD s 0))≠none;exact aa hp (fun q=>nomatch q)
theorem Bd{d:DS}{c:Int}:∀ s,s≠d.Yn->(d.tell c).nsAt s=d.nsAt s:=fun s hs=>by
 unfold DS.nsAt;show ((d.YA++[(d.Yn,c)]).filter _).map _=_;refine aa (MQ _ _) (aa (O6 (by simpa using fun e=>hs e.symm)) ?_);simp
theorem cY.tell{d:DS}{a:AW}{st:List (Str×Str)}{j P:Nat}(h:cY d a st j P){c:Int}(hc:ai c)(h0:0<=d.Yn):cY (d.tell c) (uW (n4 (ac c)) (ac c) a) st (j+1) P:=by
 obtain⟨s,e,hs,QF⟩:=h.ok.Yn h0;have UY:∀ l:Yc,(∀ o∈l,o≠d.Yn)->l.map (d.tell c).nsAt=l.map d.nsAt:=fun l hl=>MK fun o ho=>Bd o (hl o ho);refine⟨⟨h.ok.ll,h.ok.mr,fun p hp=>?_,h.ok.h0,h.ok.h1,h.ok.hz,MI h.ok.cz,?_⟩,h.Yi,h.data,h.Yj,h.pm,h.decl,?_,h.st,h.YR,h.pgx⟩
 ·rcases KM.mp hp with hp|hp
  ·exact h.ok.t0 p hp
  ·exact aa (KF.mp hp) ⟨hc,h.ok.h1⟩
 ·show (d.YA++_).length<=_
  exact aa KJ (Mt h.ok.tz)
 ·show a.ns.dropLast++[a.ns.getLast?.getD []++[(ac c,n4 (ac c))]]=[]::(d.chain.map (d.tell c).nsAt).reverse
  (refine aa h.ns (aa QF (aa LB (aa LB (aa Mm (aa Mm (ae Md (ae Md (aa LP (aa Nl (aa Option.getD_some ?_))))))))));rw[UY];refine aa Md ?_)
  ·congr 3
   unfold DS.nsAt;show _=((d.YA++[(d.Yn,c)]).filter _).map _;exact aa (MQ _ _) (aa (O7 (by simp[e])) (aa KP rfl))
  ·intro o ho
   obtain⟨g0,g1⟩:=h.ok.ll.hh s (by refine aa h.ok.ll.hl ?_;exact hs);have:=oM h.ok.ll.hh _ _ g0 (by refine aa h.ok.ll.hl ?_;exact vG g1 hs) o ho;exact FF e g1 this
theorem nJ(Yg Yh means marks:Yc)(k:Int):bP Yg Yh means (marks++[k])=bh Yg Yh means (aQ Yg means) (af (aQ Yg means)) (bP Yg Yh means marks) k:=by
 unfold bP;exact aa NT rfl
theorem pA(hN:∀ x∈N,ai x)(hc:ai c)(h:c∈N):preOf (bY N) (ac c)=aL N c:=by
 have h2:b9 (bY N) (ac c)=if c∈N then some (aL N c) else none:=gK hc hN
 unfold preOf;exact aa h2 (aa (KZ h) rfl)
theorem cY.close{d:DS}{a:AW}{st:List (Str×Str)}{j P:Nat}(h:cY d a st j P)(hj:j<=15)(h0:0<=d.Yn):
  cY d.close (iF (d.tagAt d.Yn).1 (d.tagAt d.Yn).2 a) st.dropLast j (P+1)/\st.getLast?=some (d.tagAt d.Yn):=by
 obtain⟨s,e,hs,QF⟩:=h.ok.Yn h0;have Q2:=h.ok.ll.c0 _ (bj (d:=0) hs);obtain⟨g0,g1⟩:=h.ok.ll.hh s (by refine aa h.ok.ll.hl ?_;exact hs);have QW:d.close.chain=aj d.Yh (d.Yh.getD s (-1)):=by
  unfold DS.chain DS.close;exact aa e (aa (La _) rfl)
 have hx:Ye "</"++(preOf a.pm (d.tagAt d.Yn).1++Ye ":"++(d.tagAt d.Yn).2)++Ye ">"=Ye "</"++bc d.Yg d.N s++Ye ">":=by
  refine aa h.pm (aa e ?_);show Ye "</"++(preOf (bY d.N) (ac (d.Yg.getD s 0))++_++aq s)++_=_;exact aa (pA h.ok.nOk Q2 (h.ok.ll.codeAt hs)) rfl
 refine⟨⟨⟨h.ok.ll,fun k hk=>?_,h.ok.t0,?_,?_,h.ok.hz,h.ok.cz,h.ok.tz⟩,h.Yi,h.data,?_,h.pm,?_,?_,?_,?_,?_⟩,?_⟩
 ·rcases KM.mp hk with hk|hk
  ·exact h.ok.mr k hk
  ·exact⟨s,hs, .inr (by exact aa (KF.mp hk) (aa e rfl))⟩
 ·show-1<=d.Yh.getD d.Yn.toNat (-1)
  refine aa e (aa (La _) ?_);exact g0
 ·show d.Yh.getD d.Yn.toNat (-1)<_
  exact aa e (aa (La _) (Int.lt_trans g1 (LD.mpr hs)))
 ·show Txt.join (Ye "") (a.Yj++[_])=bP d.Yg d.Yh d.means (d.marks++[-1-d.Yn])
  refine aa (oZ _ _) (aa (nJ _ _ _ _ _) (aa h.Yj (aa hx (aa e ?_))));unfold bh;refine aa (KZ (tU h0 e)) (aa (pO _) (aa (La _) ?_));show d.text++(_++_++_)=bP _ _ _ _++_++_++_;rw[cI,cI,cI]
  rfl
 ·show a.decl.dropLast=[bt]::(d.close.chain.map d.declAt).reverse
  exact aa h.decl (aa QF (aa LB (aa Mm (ae Md (aa LP (aa QW rfl))))))
 ·show a.ns.dropLast=[]::(d.close.chain.map d.nsAt).reverse
  exact aa h.ns (aa QF (aa LB (aa Mm (ae Md (aa LP (aa QW rfl))))))
 ·show st.dropLast=(d.close.chain.map d.tagAt).reverse
  exact aa h.st (aa QF (aa LB (aa Mm (aa LP (aa QW rfl)))))
 ·show (a.Yj++[_]).length<=P+1
  exact aa KJ (Mt h.YR)
 ·intro x hx2
  rcases KM.mp hx2 with hx2|hx2
  ·exact h.pgx x hx2
  ·refine aa (KF.mp hx2) (aa hx ?_)
   have h1:=rf h.ok.nLen (bd hj) (d.Yg.getD s 0);have h2:(Ye "</").length=2/\(Ye ">").length=1/\(Ye ":").length=1:=by decide+kernel
   unfold bc;have e3:(aq s).length=1:=aa (du _) (aa (bO _) rfl);simp only[KD,h2.1,h2.2.1,h2.2.2,e3];exact L1 [_] (.a (.a (.n 2) (.a (.a V0 W1) W1)) W1) (.n 4000) 1 V0 (.n 1000) rfl h1
 ·exact aa h.st (aa QF (aa LB (aa Mm (aa Nl (aa e rfl)))))
noncomputable def DS.push (d:DS) (c m:Int):DS:=⟨d.Yg++[c],d.Yh++[d.Yn],d.means++[m],d.marks++[(d.Yg.length:Int)],d.YA,(d.Yg.length:Int)⟩
theorem ei.snoc{Yg Yh means:Yc}(h:ei Yg Yh means){c ho m:Int}(hc:ai c)(hm:-1<=m/\m<32768)(h0:-1<=ho)(h1:ho<Yg.length):ei (Yg++[c]) (Yh++[ho]) (means++[m]):=by
 refine⟨?_,?_,fun i hi=>?_,fun x hx=>?_,fun x hx=>?_⟩
 ·refine aa KJ (aa KJ (aa h.hl ?_));rfl
 ·refine aa KJ (aa KJ (aa h.ml ?_));rfl
 ·rw[KJ,Nb] at hi
  refine aa (iG (Nt hi)) ?_
  split
  ·rename_i e
   exact aa e (aa h.hl ⟨h0,h1⟩)
  ·rename_i e
   exact h.hh i (u5 hi e)
 ·rcases KM.mp hx with hx|hx
  ·exact h.c0 x hx
  ·refine aa (KF.mp hx) ?_;exact hc
 ·rcases KM.mp hx with hx|hx
  ·exact h.m0 x hx
  ·refine aa (KF.mp hx) ?_;exact hm
theorem dz.push{d:DS}{j:Nat}(h:dz d j){c m:Int}(hc:ai c)(hm:-1<=m/\m<32768)(hr:0<d.Yg.length->0<=d.Yn):dz (d.push c m) (j+1):=by
 have hl:(d.Yg++[c]).length=d.Yg.length+1:=aa KJ rfl;refine⟨h.ll.snoc hc hm h.h0 h.h1,fun k hk=>?_,fun p hp=>⟨(h.t0 p hp).1,?_⟩,?_,?_,fun s s0 s1=>?_,?_,MI h.tz⟩
 ·show aO (fun(s:Nat)=>s<(d.Yg++[c]).length) _
  refine aa hl ?_;rcases KM.mp hk with hk|hk
  ·obtain⟨s,hs,q⟩:=h.mr k hk
   exact⟨s,LI hs,q⟩
  ·exact⟨d.Yg.length,LR _, .inl (KF.mp hk)⟩
 ·show p.1<((d.Yg++[c]).length:Int)
  have:=(h.t0 p hp).2;refine aa hl ?_;exact A1 this
 ·show-1<=(d.Yg.length:Int)
  exact iX
 ·show (d.Yg.length:Int)<((d.Yg++[c]).length:Int)
  refine aa hl ?_;exact u6
 ·show 0<=(d.Yh++[d.Yn]).getD s (-1)
  have s1:s<(d.Yg++[c]).length:=s1;rw[hl] at s1;refine aa (iG (by rw[h.ll.hl];exact L1 [_,_] V0 V1 1 (.a V0 W1) (.a V1 W1) rfl s1)) ?_
  split
  ·exact hr (by rename_i e;rw[h.ll.hl] at e;exact q2 s0 e)
  ·rename_i e
   rw[h.ll.hl] at e;exact h.hz s s0 (u5 s1 e)
 ·show (d.Yg++[c]).length<=j+1
  refine aa hl ?_;exact Mt h.cz
theorem lS(h:∀ x,x∈a↔x∈b):aG (dd a)=aG (dd b):=dX (c6 _) (c6 _) fun x=>by rw[dg,dg,h]
theorem vB(hc:ai c)(hm:-1<=m/\m<32768):vH (fun(L:Yc)=>(∀ tg xn,dS (ac c) tg xn (if 0<=m then some (ac m) else none)=L.map ac)) (fun L=>(∀ x∈L,ai x)) (fun L=>(∀ N,L.foldl cf N=N++(aG (dd (bK c m))).filter fun x=>decide (x∉N))) (fun L=>∀ A,L.foldl (dc A) []=(aG (dd (bK c m))).filter fun x=>decide (x∉A)):=by
 by_cases h:0<=m
 ·have hm':ai m:=⟨h,hm.2⟩
  have hu:bK c m=[c,m]:=by
   unfold bK;simp[hc.1,h]
  have ho:bW (fun x y=>pu c m=[x,y]) (fun x y=>x<=y) (fun x y=>(∀ z,z∈[x,y]↔z∈[c,m])):=by
   unfold pu
   by_cases q:m<c
   ·refine aa (KZ q) ?_
    exact⟨m,c,rfl,Nk q,fun z=>by simp only[KI,LH,O1];exact Or.comm⟩
   ·exact aa (KO q) ⟨c,m,rfl,Og.mp q,fun z=>Iff.rfl⟩
  obtain⟨x,y,e,hxy,hz⟩:=ho;refine⟨pu c m,fun tg xn=>by refine aa (KZ h) ?_;exact vy hc hm' tg xn,fun z q=>?_,fun N=>?_,fun A=>?_⟩
  ·rw[e,hz] at q
   rcases KI.mp q with rfl|q
   ·exact hc
   ·refine aa (KF.mp q) ?_;exact hm'
  ·exact aa e (aa (m9 hxy) (aa hu (aa (lS hz) rfl)))
  ·exact aa e (aa (nc hxy) (aa hu (aa (lS hz) rfl)))
 ·have hu:bK c m=[c]:=by
   unfold bK;simp[hc.1,h]
  have hz:∀ z,z∈[c,c]↔z∈[c]:=fun z=>by simp
  refine⟨[c],fun tg xn=>by refine aa (KO h) ?_;rfl,fun z q=>by refine aa (KF.mp q) ?_;exact hc,fun N=>?_,fun A=>?_⟩
  ·have:=m9 (N:=N) (Int.le_refl c)
   refine aa hu (ae (lS hz) (ae this ?_));show cf N c=cf (cf N c) c;have:=mS N c;generalize cf N c=q at this⊢;unfold cf;exact aa (KZ this) rfl
  ·have:=nc (A:=A) (Int.le_refl c)
   refine aa hu (ae (lS hz) (ae this ?_));show dc A [] c=dc A (dc A [] c) c;have:c∈dc A [] c∨c∈A:=by
    unfold dc
    split
    ·rename_i q;exact q
    ·exact .inl (by simp)
   generalize dc A [] c=q at this⊢;unfold dc;exact aa (KZ this) rfl
theorem kN:∀ {l:List α} {b:β},(∀ b,∀ a∈l,f b a=g b a)->l.foldl f b=l.foldl g b
 |[],_,_=>rfl
 |x::l,b,h=>by(refine aa L9 ?_;rw[L9];exact aa (h b x (.head _)) (aa (kN fun b a ha=>h b a (.tail _ ha)) rfl))
theorem AS(hc:ai c):Txt.slice (aw (ac c)) (some 4) none=Ye ":"++n9 (ac c):=by
 obtain⟨n,rfl,hn⟩:=hc.nat;refine aa (e6 n hn) (aa (fh n hn) (aa gj (aa (b0 _ _) (aa (eZ _) ?_))));exact jd (l:=[107,49,95,kc (n/4096),58]++(dw n).drop 1) (j:=4) (by refine aa KJ ?_;exact Om (KC rfl))
section
variable{d:DS}{j:Nat}{c m:Int}
theorem ew(h:dz d j):(d.push c m).us=d.us++[bK c m]:=sV h.ll.ml c m
theorem pD(h:dz d j)(hc:ai c)(hm:-1<=m/\m<32768):(d.push c m).N=d.N++(aG (dd (bK c m))).filter fun x=>decide (x∉d.N):=by
 unfold DS.N;refine aa (ew h) ?_;refine sf h.usOk fun x hx=>?_;obtain⟨h1,h2⟩:=Lg.mp hx;rcases KI.mp h1 with rfl|h1
 ·exact hc
 ·rw[KF.mp h1] at h2⊢
  exact⟨Nu h2,hm.2⟩
theorem ii(h:dz d j)(hc:ai c)(hm:-1<=m/\m<32768):(d.push c m).chain=(d.Yg.length:Int)::d.chain:=by
 have hh:=(h.ll.snoc hc hm h.h0 h.h1).hh;show aj (d.Yh++[d.Yn]) (d.Yg.length:Int)=_;refine aa (eH hh (iX) (by rw[KJ,h.ll.hl,Nb];exact u6)) (aa (La _) (ae h.ll.hl (aa (cB _ _ _) (aa (fM h.ll.hh h.h0 (by rw[h.ll.hl];exact h.h1)) ?_))))
 rfl
theorem ij(h:dz d j):aR (d.push c m).us (d.push c m).Yh d.Yg.length=(aG (dd (bK c m))).filter fun x=>decide (x∉d.A d.chain):=by
 have e1:(d.push c m).us.getD d.Yg.length []=bK c m:=by exact aa (ew h) (aa (show d.Yg.length=d.us.length from(eB _ _).symm) (aa (cB _ _ _) rfl))
 have e2:cM (d.push c m).us (d.push c m).Yh d.Yg.length=d.A d.chain:=by
  unfold cM DS.A;show (aj (d.Yh++[d.Yn]) ((d.Yh++[d.Yn]).getD d.Yg.length (-1))).flatMap _=_;refine ae h.ll.hl (aa (cB _ _ _) (aa (fM h.ll.hh h.h0 (by rw[h.ll.hl];exact h.h1)) ?_));refine ea fun o ho=>?_;have:=h.chainIn ho;refine aa (ew h) ?_;exact cN (by refine aa (show d.us.length=d.Yg.length from eB _ _) ?_;exact iW this.1 this.2)
 unfold aR;exact aa e1 (aa e2 rfl)
theorem pE(h:dz d j)(hc:ai c)(hm:-1<=m/\m<32768)(hs:s∈d.chain):(d.push c m).declAt s=d.declAt s/\(d.push c m).tagAt s=d.tagAt s:=by
 have hs:=h.chainIn hs;have S8:s.toNat<d.Yg.length:=iW hs.1 hs.2
 constructor
 ·unfold DS.declAt
  refine aa (pD h hc hm) (aa (ew h) ?_);show List.map _ (aR _ (d.Yh++[d.Yn]) _)=_;refine aa (kO h.ll.hh (by rw[show d.us.length=d.Yg.length from eB _ _,h.ll.hl]) (by rw[h.ll.hl];exact S8)) ?_;refine g7 fun x hx=>?_;have hx:=dg.mp (Lg.mp hx).1;rw[show d.us.getD s.toNat []=cK d.Yg d.means s.toNat from jZ S8] at hx;exact h.ll.need S8 hx
 ·unfold DS.tagAt
  show (ac ((d.Yg++[c]).getD s.toNat 0),_)=_;exact aa (cN S8) rfl
theorem va(h:dz d j)(hc:ai c)(hm:-1<=m/\m<32768):(d.push c m).text=
  (bv (aA (d.push c m).N ((aG (dd (bK c m))).filter fun x=>decide (x∉d.A d.chain)))).foldl aU (d.text++Ye "<"++(aL (d.push c m).N c++Ye ":"++aq d.Yg.length))++Ye ">"++
   (if 0<=m then aL (d.push c m).N m++Ye ":"++n9 (ac c) else aw (ac c)):=by
 have Ux:aQ (d.Yg++[c]) (d.means++[m])=d.us++[bK c m]:=ew h;have hN:=pD h hc hm;have R9:bP (d.Yg++[c]) (d.Yh++[d.Yn]) (d.means++[m]) d.marks=d.text:=by
  unfold bP;refine aa Ux (aa (show af (d.us++[bK c m])=(d.push c m).N by unfold DS.N;rw[ew h]) (aa hN ?_));refine kN fun pg k hk=>?_;obtain⟨s,hs,q⟩:=h.mr k hk;exact uK h.ll hs q
 show bP (d.Yg++[c]) (d.Yh++[d.Yn]) (d.means++[m]) (d.marks++[(d.Yg.length:Int)])=_;refine aa (nJ _ _ _ _ _) (aa R9 ?_);unfold bh;refine aa (KO (FA)) (aa (pP _) (aa (La _) ?_));have e1:aR (aQ (d.Yg++[c]) (d.means++[m])) (d.Yh++[d.Yn]) d.Yg.length=(aG (dd (bK c m))).filter fun x=>decide (x∉d.A d.chain):=ij h;refine aa e1 ?_;unfold bc eR
 (refine aa (cB _ _ _) (aa (show (d.means++[m]).getD d.Yg.length 0=m by rw[←h.ll.ml,cB]) (aa (AS hc) ?_));rw[←cI _ (Ye ":") (n9 (ac c))])
 exact aa (show af (aQ (d.Yg++[c]) (d.means++[m]))=(d.push c m).N from rfl) rfl
variable{b:AW}{st:List (Str×Str)}{P:Nat}
def fZ(m:Int):Option Str:=if 0<=m then some (ac m) else none
theorem D0(hc:ai c):(n9 (ac c)).length=9/\(aw (ac c)).length=14:=by
 obtain⟨n,rfl,hn⟩:=hc.nat;exact aa (fh n hn) (aa (e6 n hn) (aa (bO _) (aa (bO _) ⟨rfl,rfl⟩)))
theorem wy{β:Type}{f:Str->β->Str}{k:Nat}(add:∀ pg p,(f pg p).length=pg.length+(f ⟨#[]⟩ p).length)(l:List β):∀ pg,(∀ p∈l,(f ⟨#[]⟩ p).length<=k)->(l.foldl f pg).length<=pg.length+l.length*k:=by
 induction l with
 |nil=>intro pg _;exact ND _ _
 |cons p r ih=>
  intro pg h;refine KH (ih (f pg p) fun q hq=>h q (.tail _ hq)) ?_;refine aa (add pg p) (aa Le (aa (Nat.succ_mul _ _) ?_));have:=h p (.head _)
  lia
theorem fw(h:cY d b st j P)(hc:ai c)(hm:-1<=m/\m<32768)(hr:0<d.Yg.length->0<=d.Yn)(hj:j<15)(Rq:a.Yi=none)(Uh:a.data=none)
  (e1:a.pm=b.pm) (e2:a.ns=b.ns) (e3:a.Yj=b.Yj) (U5:tg=aq d.Yg.length):
  cY (d.push c m) (let s:=cr a b.decl (ac c) tg (fZ m) (n9 (ac c));{s with Yj:=s.Yj++(if 0<=m then[] else[aw (ac c)])}) (st++[(ac c,tg)]) (j+1) (P+5):=by
 subst U5;obtain⟨L,l1,l2,l3,l4⟩:=vB hc hm;have hq:(aH (aC b.decl) ([],b.pm) (dS (ac c) (aq d.Yg.length) (n9 (ac c)) (fZ m))).2=(((aG (dd (bK c m))).filter fun x=>decide (x∉d.A d.chain)).map (cJ (d.push c m).N),bY (d.push c m).N):=by
  have:=vb (Yo:=aC b.decl) L (cur:=[]) (by rw[h.decl];exact h.ok.Yo) h.ok.nOk (fun _ q=>nomatch q) l2;rw[l3,l4,←pD h.ok hc hm] at this;refine aa h.pm ?_;unfold fZ;exact aa (l1 _ _) this
 have ok':=h.ok.push hc hm hr;have Ux:jG (d.push c m).us:=ok'.usOk;have hcN:c∈(d.push c m).N:=by
  refine(dG Ux).mpr ⟨bK c m,?_,Lg.mpr ⟨.head _,KY hc.1⟩⟩;exact aa (ew h.ok) (KB _ (.head _))
 have Vz:0<=m->m∈(d.push c m).N:=fun q=>by
  refine(dG Ux).mpr ⟨bK c m,?_,Lg.mpr ⟨aK,KY q⟩⟩;exact aa (ew h.ok) (KB _ (.head _))
 have Rw:(fZ m).map (preOf (bY (d.push c m).N))=if 0<=m then some (aL (d.push c m).N m) else none:=by
  unfold fZ
  split
  ·rename_i q
   show some (preOf _ (ac m))=_;exact aa (pA ok'.nOk ⟨q,hm.2⟩ (Vz q)) rfl
  ·rfl
 have Qk:((aG (dd (bK c m))).filter fun x=>decide (x∉d.A d.chain)).length<=2:=by
  have:=nf (d.push c m).us (d.push c m).Yh d.Yg.length (vA _);rwa [ij h.ok] at this
 have hpt:=va h.ok hc hm;generalize hFR:((aG (dd (bK c m))).filter fun x=>decide (x∉d.A d.chain))=FR at hq Qk hpt;have Wo:(cr a b.decl (ac c) (aq d.Yg.length) (fZ m) (n9 (ac c))).Yj=b.Yj++aX (aL (d.push c m).N c) (aq d.Yg.length) (aY (FR.map (cJ (d.push c m).N))) (if 0<=m then some (aL (d.push c m).N m) else none) (n9 (ac c)):=by
  show a.Yj++aX (preOf (aH (aC b.decl) ([],a.pm) _).2.2 _) _ (aY (aH (aC b.decl) ([],a.pm) _).2.1) (Option.map (preOf (aH (aC b.decl) ([],a.pm) _).2.2) _) _=_;exact aa e1 (aa hq (aa e3 (aa (pA ok'.nOk hc hcN) (aa Rw rfl))))
 refine⟨ok',Rq,Uh,?_,?_,?_,?_,?_,?_,?_⟩
 ·show Txt.join (Ye "") ((cr a b.decl (ac c) (aq d.Yg.length) (fZ m) (n9 (ac c))).Yj++_)=_
  (refine aa Wo (aa (oZ _ _) (aa (oZ _ _) ?_));rw[qx];refine aa h.Yj ?_;rw[hpt])
  by_cases q:0<=m
  ·refine aa (KZ q) (aa (KZ q) (aa (KZ q) ?_));rfl
  ·refine aa (KO q) (aa (KO q) (aa (KO q) ?_))
   show _++_++(⟨#[]⟩:Str)++aw (ac c)=_;rw[cI _ ⟨#[]⟩,mz]
 ·show (aH (aC b.decl) ([],a.pm) _).2.2=_
  exact aa e1 (aa hq rfl)
 ·show b.decl++[(aH (aC b.decl) ([],a.pm) _).2.1]=_
  refine aa e1 (aa hq (aa (ii h.ok hc hm) (aa LB (aa Mm (ae Md (aa (MK fun s hs=>(pE h.ok hc hm hs).1) (aa h.decl ?_)))))))
  congr 2
  show FR.map _=(aR (d.push c m).us (d.push c m).Yh (d.Yg.length:Int).toNat).map _;exact aa (La _) (aa (ij h.ok) (aa hFR rfl))
 ·show a.ns++[[]]=_
  refine aa e2 (aa (ii h.ok hc hm) (aa LB (aa Mm (ae Md (aa h.ns ?_)))))
  congr 2
  unfold DS.nsAt;show []=(d.YA.filter _).map _;rw[List.filter_eq_nil_iff.mpr fun p hp q=>?_]
  ·rfl
  ·have:=(h.ok.t0 p hp).2
   have:=eq_of_beq q
   lia
 ·have ht:(d.push c m).tagAt (d.Yg.length:Int)=(ac c,aq d.Yg.length):=by
   unfold DS.tagAt;refine aa (La _) ?_;show (ac ((d.Yg++[c]).getD d.Yg.length 0),aq d.Yg.length)=_;exact aa (cB _ _ _) rfl
  exact aa (ii h.ok hc hm) (aa LB (aa Mm (aa (MK fun s hs=>(pE h.ok hc hm hs).2) (aa h.st (aa ht rfl)))))
 ·show (_++_:List Str).length<=_
  refine aa Wo (aa KJ (aa KJ ?_));have h1:=eP (aL (d.push c m).N c) (aq d.Yg.length) (aY (FR.map (cJ (d.push c m).N))) (if 0<=m then some (aL (d.push c m).N m) else none) (n9 (ac c));have h2:(if 0<=m then[] else[aw (ac c)]:List Str).length<=1:=by split;exact K6 1;exact K1 1
  have h3:=h.YR;exact L3 [_,_,_,_] (.a (.a V2 V0) V1) (.a V3 (.n 5)) 1 V0 (.n 4) 1 V1 W1 1 V2 V3 rfl h1 h2 h3
 ·intro x hx
  have hx:x∈(cr a b.decl (ac c) (aq d.Yg.length) (fZ m) (n9 (ac c))).Yj++_:=hx;rw[Wo] at hx;have hN:=ok'.nLen;have QT:∀ y,(aL (d.push c m).N y).length<=1000:=fun y=>rf hN (bd hj) y;have lits:(Ye "<").length=1/\(Ye ">").length=1/\(Ye ":").length=1/\(Ye " xmlns:").length=7/\(Ye "=\"").length=2/\(Ye "\"").length=1:=by decide+kernel
  obtain⟨k1,k2,k3,k4,k5,k6⟩:=lits;have h9:=D0 hc;rcases KM.mp hx with hx|hx
  ·rcases KM.mp hx with hx|hx
   ·exact h.pgx x hx
   ·unfold aX at hx
    rcases KI.mp hx with e|hx
    ·refine aa e ?_
     have:=QT c;have e3:(aq d.Yg.length).length=1:=aa (du _) (aa (bO _) rfl);simp only[KD,k1,k3,e3];exact L1 [_] (.a W1 (.a (.a V0 W1) W1)) (.n 4000) 1 V0 (.n 1000) rfl this
    rcases KM.mp hx with hx|hx
    ·rw[ji] at hx
     split at hx
     ·cases hx
     ·refine aa (KF.mp hx) ?_
      have hs:∀ p∈bv (aA (d.push c m).N FR),(aU ⟨#[]⟩ p).length<=1021:=fun p hp=>by
       have Rw:p∈aA (d.push c m).N FR:=nF hp;obtain⟨y,hy,rfl⟩:=KK.mp Rw;have hyok:ai y:=by
        have:=dg.mp (Lg.mp (by refine aa hFR ?_;exact hy:y∈(aG (dd (bK c m))).filter fun x=>decide (x∉d.A d.chain))).1;obtain⟨q1,q2⟩:=Lg.mp this;rcases KI.mp q1 with e|q1
        ·refine aa e ?_;exact hc
        ·rw[KF.mp q1] at q2⊢
         exact⟨Nu q2,hm.2⟩
       have h1:=QT y;have h2:=ez hyok;unfold aU;simp only[KD,k4,k5,k6,h2];show 0+7+_+2+10+1<=1021;exact L1 [_] (.a (.a (.a (.a (.a W0 (.n 7)) V0) (.n 2)) (.n 10)) W1) (.n 1021) 1 V0 (.n 1000) rfl h1
      have hl:(bv (aA (d.push c m).N FR)).length<=2:=by
       refine aa (nE _) ?_;unfold aA;exact aa (KG _) Qk
      have e:=mT (bv (aA (d.push c m).N FR)) ⟨#[]⟩;rw[mz] at e;refine aa e ?_;have add:∀ (pg:Str) (p:Str×Int),(aU pg p).length=pg.length+(aU ⟨#[]⟩ p).length:=fun pg p=>by
       unfold aU;simp only[KD];show _=pg.length+(0+_+_+_+_+_)
       lia
      refine KH (wy add _ _ hs) ?_;exact KH (Mj (MY 1021 hl) _) (by show 0+2*1021<=4000;decide)
    rcases KI.mp hx with rfl|hx
    ·refine aa k2 ?_;decide
    ·split at hx
     ·cases hx
     ·rename_i p hp
      split at hp
      ·cases hp
       have:=QT m;refine aa (KF.mp hx) ?_;simp only[KD,k3,h9.1];exact L1 [_] (.a (.a V0 W1) (.n 9)) (.n 4000) 1 V0 (.n 1000) rfl this
      ·cases hp
  ·split at hx
   ·cases hx
   ·refine aa (KF.mp hx) (aa h9.2 ?_);decide
theorem z9:∀ k,k<8->∀ l,l<8->kc k=kc l->k=l:=by decide+kernel
end
theorem An(hx:ai x)(hc:ai c):(n4 (ac x)==n4 (ac c))=(x.fdiv 4096==c.fdiv 4096):=by
 obtain⟨n,rfl,hn⟩:=hx.nat;obtain⟨k,rfl,hk⟩:=hc.nat
 (rw[hH n hn];refine aa (hH k hk) (aa (LK _ (by decide)) (aa (LK _ (by decide)) ?_));rw[M2,Mz,Mz])
 constructor
 ·intro e
  have e:=congrArg (fun s:Str=>s.cps.toList.getD 3 0) e;have e:kc (n/4096)=kc (k/4096):=e;have:=z9 _ (Mq hn) _ (Mq hk) e;exact FH this
 ·intro e
  have:n/4096=k/4096:=FI e;exact aa this rfl
def AZ(x:Int):UP:=(ac x,n4 (ac x))
section
variable{d:DS}{b:AW}{st:List (Str×Str)}{j P:Nat}{c m:Int}
theorem nh(h:cY d b st j P)(hc:ai c):cX b.ns (n4 (ac c))=((d.chain.flatMap fun s=>bB d.YA s c).head?).map ac:=by
 have hf:aC b.ns=d.chain.flatMap d.nsAt:=by
  refine aa h.ns ?_;unfold aC;exact aa Mm (aa (List.reverse_reverse _) (aa List.flatten_append (ae List.flatMap_def (Lj _))))
 have hs:∀ s,(d.nsAt s).filter (fun p=>p.2==n4 (ac c))=(bB d.YA s c).map AZ:=fun s=>by
  have ef:(AZ∘fun p:Int×Int=>p.2)=je:=funext fun p=>by simp only[Function.comp_apply,AZ,je]
  unfold DS.nsAt bB
  (refine aa List.filter_map ?_;rw[List.filter_filter];refine aa M4 ?_;rw[ef])
  refine congrArg (List.map je) (List.filter_congr fun p hp=>?_);have e:=An (h.ok.t0 p hp).1 hc;simp only[Function.comp_apply,je]
  (rw[e];exact aa (Bool.and_comm _ _) rfl)
 unfold cX;exact aa hf (ae List.head?_filter (aa List.filter_flatMap (aa (ea fun s _=>hs s) (ae Pk (aa List.head?_map (aa (O3 _ _ _) rfl))))))
theorem wI(h:cY d b st j P)(PU:(d.meant i c).head?=some m):-1<=m/\m<32768:=by
 have hm:=List.mem_of_head? PU;unfold DS.meant at hm
 split at hm
 ·obtain⟨s,_,hs⟩:=M9.mp hm
  obtain⟨p,hp,rfl⟩:=KK.mp hs;have:=(h.ok.t0 p (Lg.mp hp).1).1;exact⟨by have:=this.1;exact B9 this,this.2⟩
 ·refine aa (KF.mp hm) ?_;decide
theorem xj(hc:ai c):ly (dH (n5 (ac c))) (n9 (ac c))=bU c:=by
 obtain⟨h1,h2⟩:=jR hc;have e:n4 (ac c)++Ye ":"++n9 (ac c)=aw (ac c):=by
  have:=h1.eq;rw[h2] at this;rw[←this];obtain⟨n,rfl,hn⟩:=hc.nat;exact BN n hn
 unfold ly bU
 (refine aa h2 ?_;rw[e])
 rfl
theorem Ap(hc:ai c):n5 (ac c)++n9 (ac c)=aw (ac c):=by
 obtain⟨n,rfl,hn⟩:=hc.nat;exact BN n hn
theorem yj(hp:b.Yi=none)(hd:b.data=none):ar {im u tg b with data:=some (p,q)}=.ok (let s:=cr b b.decl u tg none xn;{s with Yj:=s.Yj++[p++q]}):=by
 obtain⟨x1,x2,x3,x4,x5,x6,x7⟩:=b
 cases hd
 cases hp
 rfl
theorem yi:ar {eb u tg b with data:=some (p,q)}=if eX (p++q)=true then match cX b.ns (dH p) with
  |none=> .error (ly (dH p) q)
  |some u2=> .ok (cr {eb u tg b with data:=none,Yi:=none} b.decl u tg (some u2) q)
  else .ok (let s:=cr {eb u tg b with data:=none,Yi:=none} b.decl u tg none q;{s with Yj:=s.Yj++[p++q]}):=by
 have UF:b.decl=(eb u tg b).decl.dropLast:=LP.symm;exact aa UF rfl
theorem wR(s:AW):({s with Yj:=s.Yj++[]}:AW)=s:=by exact aa (Lj _) rfl
theorem gX(h:cY d b st j P)(hc:ai c)(hj:j<15)(hr:0<d.Yg.length->0<=d.Yn)(hi:i=0↔d.Yg.length=0)(hS:S (ah (ac c) (aq i))=decide (0<i)):
  (match (d.meant i c).head? with
  |none=>ar (bS S (ac c) (aq i) b)=.error (bU c)/\(bS S (ac c) (aq i) b).Yj=b.Yj
  |some m=>aO (fun a'=>ar (bS S (ac c) (aq i) b)=.ok a') (fun a'=>cY (d.push c m) a' (st++[(ac c,aq i)]) (j+1) (P+5))):=by
 have QT:=Ap hc;have U5:aq i=aq d.Yg.length:=by refine aa (du _) (aa (du _) ?_);simp only[hi]
 have y0:fZ (-1)=none:=KO (by decide);have y1:(if (0:Int)<=-1 then[] else[aw (ac c)])=[aw (ac c)]:=KO (by decide);rcases Oj i with h0|h0
 ·have RY:S (ah (ac c) (aq i))=false:=aa hS (aa h0 rfl)
  have hm:(d.meant i c).head?=some (-1):=by
   unfold DS.meant;exact aa (KO fun q=>absurd q.1 (by lia)) rfl
  have sp:=fw (m:=-1) (a:=b) h hc (by decide) hr hj h.Yi h.data rfl rfl rfl U5;rw[y0,y1] at sp;have e:=yj (u:=ac c) (tg:=aq i) (p:=n5 (ac c)) (q:=n9 (ac c)) (xn:=n9 (ac c)) h.Yi h.data;rw[QT] at e;refine aa hm ?_;refine⟨_,?_,sp⟩;unfold bS;exact aa RY (aa (KO KR) e)
 ·have RY:S (ah (ac c) (aq i))=true:=aa hS (KY h0)
  have ho:bS S (ac c) (aq i) b={eb (ac c) (aq i) b with data:=some (n5 (ac c),n9 (ac c))}:=by
   unfold bS;exact aa RY (aa (KZ rfl) rfl)
  have Qp:(bS S (ac c) (aq i) b).Yj=b.Yj:=aa ho rfl;have Qk:=yi (b:=b) (u:=ac c) (tg:=aq i) (p:=n5 (ac c)) (q:=n9 (ac c));rw[xj hc,QT,(jR hc).2,←ho] at Qk;have Qd:=yn hc
  by_cases q:8191<c/\eM c=true
  ·have VB:d.meant i c=d.chain.flatMap fun s=>bB d.YA s c:=by
    unfold DS.meant;exact aa (KZ ⟨h0,q.1,q.2⟩) rfl
   have hn:eX (aw (ac c))=true:=aa Qd (aa (KY q.1) (aa q.2 rfl));rw[hn,KZ rfl,nh h hc] at Qk;refine aa VB ?_
   cases hm:(d.chain.flatMap fun s=>bB d.YA s c).head? with
   |none=>
    rw[hm] at Qk;exact⟨Qk,Qp⟩
   |some m=>
    rw[hm] at Qk;have Tl:=wI h (by rw[VB];exact hm);have P7:0<=m:=by
     obtain⟨s,_,hs⟩:=M9.mp (List.mem_of_head? hm);obtain⟨p,hp,rfl⟩:=KK.mp hs;exact(h.ok.t0 p (Lg.mp hp).1).1.1
    have sp:=fw (a:={eb (ac c) (aq i) b with data:=none,Yi:=none}) h hc Tl hr hj rfl rfl rfl rfl rfl U5;have e:fZ m=some (ac m):=KZ P7;rw[e,KZ P7] at sp;have sp:cY (d.push c m) _ _ _ _:=wR _▸sp;exact⟨_,Qk,sp⟩
  ·have VB:(d.meant i c).head?=some (-1):=by
    unfold DS.meant;exact aa (KO fun z=>q ⟨z.2.1,z.2.2⟩) rfl
   have hn:eX (aw (ac c))=false:=by
    (refine aa Qd ?_;rw[Bool.eq_false_iff])
    intro z;rw[Ny,MJ] at z;exact q z
   rw[hn,KO KR] at Qk;have sp:=fw (m:=-1) (a:={eb (ac c) (aq i) b with data:=none,Yi:=none}) h hc (by decide) hr hj rfl rfl rfl rfl rfl U5;rw[y0,y1] at sp;exact aa VB ⟨_,Qk,sp⟩
theorem vq(x y:Str):cr a Yo u tg none x=cr a Yo u tg none y:=rfl
theorem ny(h:cY d b st j P)(hc:ai c)(hj:j<15)(hP:P<=190)(hr:0<d.Yg.length->0<=d.Yn)(hi:i=0↔d.Yg.length=0)(hS:S (ah (ac c) (aq i))=decide (0<i)):
  eD (bS S (ac c) (aq i) b):=by
 have U5:aq i=aq d.Yg.length:=by refine aa (du _) (aa (du _) ?_);simp only[hi]
 obtain⟨hn,hn4⟩:=jR hc;have gen:∀ x y:Str,j8 x y->∀ p q,some (x,y)=some (p,q)->j8 p q:=fun x y h p q e=>by cases e;exact h
 have QT:=gen _ _ hn;have pg:=h.YR;rcases Oj i with h0|h0
 ·have ho:bS S (ac c) (aq i) b={im (ac c) (aq i) b with data:=some (n5 (ac c),n9 (ac c))}:=by
   unfold bS;exact aa hS (aa h0 rfl)
  refine aa ho ?_;have Qd:=fw (m:=-1) (a:=b) h hc (by decide) hr hj h.Yi h.data rfl rfl rfl U5;have y0:fZ (-1)=none:=KO (by decide);rw[y0,vq (n9 (ac c)) ⟨#[]⟩] at Qd;have f:=Qd.fits hj;have pl:=eP (preOf (im (ac c) (aq i) b).pm (ac c)) (aq i) (aY (aH (aC b.decl) ([],b.pm) (dS (ac c) (aq i) ⟨#[]⟩ none)).2.1) none ⟨#[]⟩;refine⟨f.YE,f.dk,f.YN,f.il,f.fl,f.nl,KH f.nn (by decide),f.ne,f.nu,?_,QT,fun u tg e=>?_,fun e=>(nomatch e),fun _ _=>rfl,fun u tg p q u2 e=>?_⟩
  ·show (b.Yj++aX _ _ _ none ⟨#[]⟩).length<=_
   refine aa KJ ?_;exact KH (NB pg pl) (by exact L1 [_] (.a V0 (.n 4)) (.n 40000) 1 V0 (.n 190) rfl hP)
  ·have e:b.Yi=some (u,tg):=e
   rw[h.Yi] at e;cases e
  ·have e:b.Yi=some (u,tg):=e
   rw[h.Yi] at e;cases e
 ·have ho:bS S (ac c) (aq i) b={eb (ac c) (aq i) b with data:=some (n5 (ac c),n9 (ac c))}:=by
   unfold bS;exact aa hS (aa (KY h0) (aa (KZ rfl) rfl))
  refine aa ho ?_;have f:=h.fits (LF hj);have Qk:aC (b.decl++[[]])=aC b.decl:=kL _ _;refine⟨f.YE,by show bk (aC (b.decl++[[]])) _;refine aa Qk ?_;exact f.dk,f.YN,fun l hl=>?_,by show (aC (b.decl++[[]])).length<=_;refine aa Qk ?_;exact f.fl,f.nl,KH f.nn (by decide),f.ne,f.nu,KH pg (KH hP (by decide)),QT,fun u tg e=>?_,fun e=>(nomatch e),fun _ e=>(nomatch e),fun u tg p q u2 e1 e2 hu=>?_⟩
  ·rcases KM.mp hl with hl|hl
   ·exact f.il l hl
   ·refine aa (KF.mp hl) ?_;exact K6 _
  ·have e:some (ac c,aq i)=some (u,tg):=e
   obtain⟨rfl,rfl⟩:=Prod.mk.inj (Mr e);exact mO hc i
  ·have e1:some (ac c,aq i)=some (u,tg):=e1
   have e2:some (n5 (ac c),n9 (ac c))=some (p,q):=e2;obtain⟨rfl,rfl⟩:=Prod.mk.inj (Mr e1);obtain⟨rfl,rfl⟩:=Prod.mk.inj (Mr e2);rw[hn4] at hu;have hu:cX b.ns (n4 (ac c))=some u2:=hu;rw[nh h hc] at hu;obtain⟨m,hm,rfl⟩:=Lv.mp hu;have hmo:ai m:=by
    obtain⟨s,_,hs⟩:=M9.mp (List.mem_of_head? hm);obtain⟨p,hp,rfl⟩:=KK.mp hs;exact(h.ok.t0 p (Lg.mp hp).1).1
   have h9:(n9 (ac c)).length=9:=by
    clear hu hmo QT gen hS U5 hn hn4 h hr f e1 e2;obtain⟨n,rfl,hn⟩:=hc.nat;refine aa (fh n hn) (aa (bO _) ?_);rfl
   have h1:(aq i).length=1:=aa (du _) (aa (bO _) rfl);refine⟨xe hmo hc,fun e=>?_,fun e=>?_⟩
   ·have e:=congrArg Str.length e
    unfold ah at e;rw[KD,KD,KD,KD,KD,KD,ez hmo,ez hc,h9,h1] at e;exact f0 (L1 [_,_] W1 W0 1 (.a (.a (.a V0 (.n 10)) V1) (.n 9)) (.a (.a (.a V0 (.n 10)) V1) W1) rfl (eL e))
   ·have e:=congrArg Str.length e.2
    rw[h9,h1] at e;exact absurd e (by decide)
theorem yH(h:cY d b st j P)(hc:ai c)(hj:j<15)(hP:P<=190)(i:Nat)(hz:d.Yg.length=0):et b b.decl (ac c) (aq i) ⟨#[]⟩ ⟨#[]⟩:=by
 have f:=h.fits (LF hj);refine⟨f.YE,f.dk,f.YN,f.il,f.fl,f.nl,KH f.nn (by decide),f.ne,f.nu,KH h.YR (KH hP (by decide)),mO hc i,by decide+kernel,(fun _ q=>nomatch q),by decide,by decide,fun u2 e=>?_⟩;have h1:=h.ok.h1;have h0:=h.ok.h0;have QF:d.chain=[]:=by
  unfold DS.chain;exact aa (show d.Yn=-1 from u8 hz h1 h0) (aa (dW _) rfl)
 rw[h.ns,QF] at e
 cases e
theorem cY.mono{d:DS}{a:AW}{st:List (Str×Str)}{j P P':Nat}(h:cY d a st j P)(hP:P<=P'):cY d a st j P':=⟨h.ok,h.Yi,h.data,h.Yj,h.pm,h.decl,h.ns,h.st,KH h.YR hP,h.pgx⟩
theorem cY.flush{d:DS}{a:AW}{st:List (Str×Str)}{j P:Nat}(h:cY d a st j P):ar a=.ok a:=by
 unfold ar;exact aa h.data rfl
end
theorem dz.long(h:dz d j)(h0:0<=d.Yn):1<d.chain.length↔0<d.Yn:=by
 obtain⟨s,e,hs,QF⟩:=h.Yn h0;refine aa QF (aa Le (aa e ?_));rcases Oj s with q|q
 ·obtain⟨g0,g1⟩:=h.ll.hh s (by refine aa h.ll.hl ?_;exact hs)
  rw[q] at g0 g1⊢;refine aa (show d.Yh.getD 0 (-1)=-1 from u9 g0 g1) (aa (dW _) ?_)
  constructor
  ·intro z;exact absurd z (Nv 1)
  ·intro z;exact absurd z (by decide)
 ·have g:=h.hz s q hs
  obtain⟨_,g1⟩:=h.ll.hh s (by refine aa h.ll.hl ?_;exact hs);refine aa (eH h.ll.hh g (by rw[h.ll.hl];exact vG g1 hs)) (aa Le ?_)
  constructor
  ·intro _;exact xR q
  ·intro _;exact L0 [_] (.a W1 W1) (.a (.a V0 W1) W1) rfl
theorem vC(h:P0.length<=P)(hP:P<=200)(hx:∀ x∈P0,x.length<=4000):dD P0:=by
 have:=StrLaws.sumLen_le P0 hx;unfold dD
 lia
theorem cY.weighs{d:DS}{a:AW}{st:List (Str×Str)}{j P:Nat}(h:cY d a st j P)(hP:P<=200):dD a.Yj:=vC h.YR hP h.pgx
theorem jM:∀ (n:Nat) {d:DS} {a:AW} {st:List (Str×Str)} {j P:Nat},st.length=n->cY d a st j P->j<=15->P+n<=200->
  fy st.reverse a/\fJ (fun a'=>co st.reverse a=.ok a') (fun a'=>Txt.join (Ye "") a'.Yj=d.fin.text) (fun a'=>dD a'.Yj)
 |0,d,a,st,j,P,hn,h,hj,hP=>by
  have hst:st=[]:=Mv hn;have QF:d.chain=[]:=Mv (by exact ae h.stLen (aa hn rfl));subst hst;refine⟨trivial,a,rfl,?_,h.weighs (by exact L1 [_] V0 (.n 200) 1 (.a V0 W0) (.n 200) rfl hP)⟩;refine aa h.Yj ?_;show bP _ _ _ d.marks=bP _ _ _ (d.marks++d.chain.map _);exact aa QF (congrArg _ (Lj _).symm)
 |n+1,d,a,st,j,P,hn,h,hj,hP=>by
  have h0:0<=d.Yn:=by
   have hh:=h.ok.h0;refine Og.mp fun q=>?_;have hl:=h.stLen;unfold DS.chain at hl;rw[show d.Yn=-1 from B6 hh q,dW,hn] at hl
   cases hl
  obtain⟨QW,Ur⟩:=h.close hj h0;obtain⟨l,hl⟩:=List.getLast?_eq_some_iff.mp Ur;have hd:st.dropLast=l:=by exact aa hl (aa LP rfl)
  have hr:st.reverse=d.tagAt d.Yn::st.dropLast.reverse:=aa hd (aa hl (aa Nx rfl));have QK:st.dropLast.length=n:=aa List.length_dropLast (aa hn rfl);obtain⟨i1,a',i2,i3,i4⟩:=jM n QK QW hj (by exact L1 [_,_] (.a (.a V0 W1) V1) (.n 200) 1 (.a V0 (.a V1 W1)) (.n 200) rfl hP);refine aa hr ?_;refine⟨⟨h.good hj (by exact L1 [_,_] V0 (.n 200) 1 (.a V0 (.a V1 W1)) (.n 200) rfl hP),fun a2 e=>?_⟩,a',?_,?_,i4⟩
  ·rw[h.flush] at e
   cases e;exact⟨h.endOk hj (by exact L1 [_,_] V0 (.n 200) 1 (.a V0 (.a V1 W1)) (.n 200) rfl hP) h0,i1⟩
  ·show bq (bq (fl a) _) _=_
   exact aa (dM h.flush) i2
  ·refine aa i3 ?_
   obtain⟨s,e,hs,QF⟩:=h.ok.Yn h0;have Wg:d.close.chain=aj d.Yh (d.Yh.getD s (-1)):=by
    unfold DS.chain DS.close;exact aa e (aa (La _) rfl)
   show bP _ _ _ ((d.marks++[-1-d.Yn])++d.close.chain.map _)=bP _ _ _ (d.marks++d.chain.map _);exact aa Wg (aa QF (aa e (aa LB (aa (KS _ _ _) rfl))))
theorem wl{n:Nat}(h:n<65536):bz (n:Int)=true↔(bg (n:Int)).fdiv 4096=4:=by
 have hk:∀ k,k<16->(jP k=4↔k=4):=by decide
 have l2:=eW (r:=n/256%2) (w:=n/128%2) (x:=n/64%2) (s:=n/2048%2) (Ma _ (by decide)) (Ma _ (by decide)) (Ma _ (by decide)) (Ma _ (by decide));have l1:=eW (r:=n/32%2) (w:=n/16%2) (x:=n/8%2) (s:=n/1024%2) (Ma _ (by decide)) (Ma _ (by decide)) (Ma _ (by decide)) (Ma _ (by decide));have l0:=eW (r:=n/4%2) (w:=n/2%2) (x:=n%2) (s:=n/512%2) (Ma _ (by decide)) (Ma _ (by decide)) (Ma _ (by decide)) (Ma _ (by decide));have hq:=hk (n/4096) (Mq h);refine aa (jt n h) (aa (LK _ (by decide)) ?_);unfold bz
 (refine aa (my n h) ?_;rw[Mz])
 generalize b7 (n/256%2) (n/128%2) (n/64%2) (n/2048%2)=f2 at l2⊢;generalize b7 (n/32%2) (n/16%2) (n/8%2) (n/1024%2)=f1 at l1⊢;generalize b7 (n/4%2) (n/2%2) (n%2) (n/512%2)=f0 at l0⊢;generalize jP (n/4096)=k at hq⊢;have:((k*16+f2)*16+f1)*16+f0<(k+1)*4096/\k*4096<=((k*16+f2)*16+f1)*16+f0:=AY l2 l1 l0;exact FU l2 l1 l0 hq
theorem pS(h10:∀ r∈aB,r.length=10)(hj:j<aB.length):bM aB (ah (aB.getD j ⟨#[]⟩) (aq j))=decide (0<j):=by
 unfold bM;refine OI.mpr ?_;refine aa (du _) ?_
 constructor
 ·intro h
  refine NM fun e=>?_;subst e;obtain⟨r,hr,e⟩:=KK.mp h;have e1:=h10 r (OB hr);have e2:=h10 _ (bj (d:=⟨#[]⟩) hj);generalize aB.getD 0 ⟨#[]⟩=q at e e2;have lt:Ye "}t"=⟨([125,116]:List Nat).toArray⟩:=by decide+kernel
  obtain⟨⟨x⟩⟩:=r;obtain⟨⟨y⟩⟩:=q;have e1:x.length=10:=e1;have e2:y.length=10:=e2;unfold nX at e;rw[fV] at e;rw[show (⟨⟨x⟩⟩:Str)=⟨x.toArray⟩ from rfl,gZ,lt,b0,b0] at e;have e:=congrArg (fun s:Str=>s.cps.toList) e;have e:[123]++x++[125,116]=123::(y++125::[114]):=e;rw[KS,List.singleton_append] at e;have e:=(List.cons.inj e).2;have e:=(List.append_inj e (e1.trans e2.symm)).2;exact absurd e (by decide)
 ·intro h
  refine KK.mpr ⟨aB.getD j ⟨#[]⟩,?_,?_⟩
  ·rw[List.mem_iff_getElem?]
   refine⟨j-1,?_⟩;exact aa List.getElem?_drop (aa (show 1+(j-1)=j from sD h) (aa KU (aa (KL hj) rfl)))
  ·refine aa (KO (Mi h)) ?_
   unfold nX ah;rw[cI _ (Ye "}")]
   congr 1
def iE(Yk ag:Yc):Nat->Except (Str×Str) DS
 |0=> .ok DS.init
 |j+1=>match iE Yk ag j with
  | .error e=> .error e
  | .ok d=>match d.step j (Yk.getD j 0) (bg (ag.getD j 0)) with
   |none=> .error (d.text,bU (bg (ag.getD j 0)))
   |some d'=> .ok d'
theorem mX(Yk ag:Yc)(j:Nat):iE Yk ag (j+1)=match iE Yk ag j with
  | .error e=> .error e
  | .ok d=>match d.step j (Yk.getD j 0) (bg (ag.getD j 0)) with
   |none=> .error (d.text,bU (bg (ag.getD j 0)))
   |some d'=> .ok d':=rfl
theorem qV(Yk ag:Yc):∀ j,j<=ag.length->dZ Yk ag=match iE Yk ag j with| .error e=>e| .ok d=>eJ d j ((bA Yk ag).drop j)
 |0,_=>rfl
 |j+1,h=>by
  refine aa (qV Yk ag j (Nat.le_of_succ_le h)) (aa (mX _ _ _) ?_)
  cases iE Yk ag j with
  |error e=>rfl
  |ok d=>
   show eJ d j ((bA Yk ag).drop j)=_;refine aa (jC h) (aa (jn _ _ _ _) ?_);dsimp only;generalize (bA Yk ag).drop (j+1)=r
   cases d.step j (Yk.getD j 0) (bg (ag.getD j 0))<;>rfl
theorem yh(Yk ag:Yc):dZ Yk ag=match iE Yk ag ag.length with| .error e=>e| .ok d=>(d.fin.text,Ye "none"):=by
 refine aa (qV Yk ag _ (K1 _)) (aa lD ?_)
 cases iE Yk ag ag.length<;>rfl
structure fq(d:DS)(a:AW)(st:List (Str×Str))(j:Nat):Prop where
 sim:cY d a st j (6*j)
 hr:0<j->0<=d.Yn
 hz:j=0↔d.Yg.length=0
theorem fq.hr'{d:DS}{a:AW}{st:List (Str×Str)}{j:Nat}(h:fq d a st j):0<d.Yg.length->0<=d.Yn:=fun q=>h.hr (by have:=h.hz;exact u7 q this)
def vW(d:DS)(i:Nat)(c:Int):Except (Str×Str) DS:=match (d.meant i c).head? with|none=> .error (d.text,bU c)|some m=> .ok (d.push c m)
def iw(S:Str->Bool)(j:Nat)(x:fK gc)(y:Except (Str×Str) DS):Prop:=
 (eg (fun d a st=>y=.ok d) (fun _ a st=>x=.ok (a,st)) (fun d a st=>fq d a st j))∨
 (zk (fun d b st c i=>i+1=j) (fun _ b st c i=>x=.ok (bS S (ac c) (aq i) b,st++[(ac c,aq i)])) (fun d b st _ i=>fq d b st i) (fun _ _ _ c _=>ai c) (fun _ _ _ c i=>S (ah (ac c) (aq i))=decide (0<i)) (fun d _ _ c i=>y=vW d i c))∨
 (gR (fun t wd P0=>y=.error (t,wd)) (fun _ wd P0=>x=.error (wd,P0)) (fun t _ P0=>Txt.join (Ye "") P0=t) (fun _ _ P0=>dD P0))
def Ed(j:Nat)(x:fK gc)(y:Except (Str×Str) DS):Prop:=
 (gR (fun t wd P0=>y=.error (t,wd)) (fun t _ P0=>Txt.join (Ye "") P0=t) (fun _ _ P0=>dD P0) (fun _ wd P0=>(x=.error (wd,P0)∨bW (fun a st=>x=.ok (a,st)) (fun a _=>fl a=.error (wd,P0)) (fun _ st=>st≠[]))))∨
 (vM (fun d a0 a st=>y=.ok d) (fun _ a0 _ st=>x=.ok (a0,st)) (fun _ a0 a _=>ar a0=.ok a) (fun d _ a st=>fq d a st j))
theorem sr{d:DS}{b:AW}{st:List (Str×Str)}{i:Nat}{c m:Int}{a:AW}{VW:List (Str×Str)}(h:cY (d.push c m) a VW (i+1) (6*i+5)):fq (d.push c m) a VW (i+1):=by
 have hl:(d.push c m).Yg.length=d.Yg.length+1:=by show (d.Yg++[c]).length=_;refine aa KJ ?_;rfl
 refine⟨h.mono (by exact L0 [_] (.a (.m 6 V0) (.n 5)) (.m 6 (.a V0 W1)) rfl),fun _=>?_,by refine aa hl ?_;lia⟩;show 0<=(d.Yg.length:Int);exact iX
theorem iw.fl(hj:j<=15)(h:iw S j x y):Ed j x y:=by
 rcases h with⟨d,a,st,hy,hx,hR⟩|⟨d,b,st,c,i,rfl,hx,hR,hc,hS,hy⟩|⟨t,wd,P0,hy,hx,h1,h2⟩
 ·exact .inr ⟨d,a,a,st,hy,hx,hR.sim.flush,hR⟩
 ·have Qd:=gX hR.sim hc (Nat.lt_of_succ_le hj) hR.hr' hR.hz hS
  unfold vW at hy
  cases hm:(d.meant i c).head? with
  |none=>
   rw[hm] at Qd hy;obtain⟨k1,k2⟩:=Qd;refine .inl ⟨d.text,bU c,b.Yj,hy,hR.sim.Yj,hR.sim.weighs (by exact L1 [_] (.m 6 V0) (.n 200) 6 (.a V0 W1) (.n 15) rfl hj), .inr ⟨_,_,hx,by exact aa (fP k1) (aa k2 rfl),by simp⟩⟩
  |some m=>
   rw[hm] at Qd hy;obtain⟨a',k1,k2⟩:=Qd;exact .inr ⟨_,_,a',_,hy,hx,k1,sr (b:=b) (st:=st) k2⟩
 ·exact .inl ⟨t,wd,P0,hy,h1,h2, .inl hx⟩
theorem u0{S:Str->Bool}{j:Nat}{Yx mode:Int}{row:Str}{a:AW}{st:List (Str×Str)}{e:Str×List Str}(h:fl a=.error e):bN S j Yx mode row (a,st)=.error e:=by
 unfold bN cR;dsimp only;refine aa h ?_
 split
 ·rfl
 ·split<;>rfl
theorem yM(hj:j<15)(h:iw S j x y)(hc:ai c)(WP:row=ac c)(Th:bz mode=true↔c.fdiv 4096=4)(hS:S (ah row (aq j))=decide (0<j))
  (h0:j=0->Yx=2/\bz mode=true):iw S (j+1) (bq x fun st=>bN S j Yx mode row st) (match (generalizing:=false) y with| .error e=> .error e| .ok d=>match d.step j Yx c with|none=> .error (d.text,bU c)|some d'=> .ok d'):=by
 subst WP;rcases h.fl (LF hj) with⟨t,wd,P0,rfl,h1,h2,rfl|⟨a,st,rfl,hf,_⟩⟩|⟨d,a0,a,st,rfl,rfl,hf,hR⟩
 ·exact .inr (.inr ⟨t,wd,P0,rfl,rfl,h1,h2⟩)
 ·exact .inr (.inr ⟨t,wd,P0,rfl,u0 hf,h1,h2⟩)
 have hf':=dM hf;have QN:=hR.sim;show iw S (j+1) (bN S j Yx mode (ac c) (a0,st)) (match d.step j Yx c with|none=> .error (d.text,bU c)|some d'=> .ok d');unfold bN DS.step;dsimp only;refine aa hf' ?_
 by_cases d0:Yx=0
 ·have jp:0<j:=NM fun e=>by have:=(h0 e).1;lia
  refine aa (KZ d0) (aa (KZ d0) ?_);exact .inl ⟨_,_,_,rfl,rfl,(QN.tell hc (hR.hr jp)).mono (by exact L0 [_] (.m 6 V0) (.m 6 (.a V0 W1)) rfl),fun _=>hR.hr jp,by have:=hR.hz;exact⟨(fun q=>nomatch q),fun q=>absurd (this.mpr q) (AM jp)⟩⟩
 refine aa (KO d0) (aa (KO d0) ?_);have Xe:(Yx=1/\1<st.length)↔(Yx=1/\0<d.Yn):=by
  rcases Oj j with e|e
  ·have:=(h0 e).1
   constructor<;>(intro q;lia)
  ·(refine aa QN.stLen ?_;rw[QN.ok.long (hR.hr e)])
 by_cases d1:Yx=1/\0<d.Yn
 ·have jp:0<j:=NM fun e=>by have:=(h0 e).1;lia
  refine aa (KZ (Xe.mpr d1)) (aa (KZ d1) ?_);obtain⟨k1,k2⟩:=QN.close (LF hj) (Nk d1.2);refine aa k2 ?_;unfold cR;refine aa hf' ?_;obtain⟨s,e,hs,QF⟩:=QN.ok.Yn (Nk d1.2);refine .inl ⟨_,_,_,rfl,rfl,⟨⟨k1.ok.ll,k1.ok.mr,k1.ok.t0,k1.ok.h0,k1.ok.h1,k1.ok.hz,MI k1.ok.cz,MI k1.ok.tz⟩,k1.Yi,k1.data,k1.Yj,k1.pm,k1.decl,k1.ns,k1.st,KH k1.YR (by exact L0 [_] (.a (.m 6 V0) W1) (.m 6 (.a V0 W1)) rfl),k1.pgx⟩,fun _=>?_,?_⟩
  ·show 0<=d.Yh.getD d.Yn.toNat (-1)
   refine aa e (aa (La _) ?_);exact QN.ok.hz s (by have:=d1.2;lia) hs
  ·have:=hR.hz
   exact⟨(fun q=>nomatch q),fun q=>absurd (this.mpr q) (AM jp)⟩
 refine aa (KO fun q=>d1 (Xe.mp q)) (aa (KO d1) ?_);show iw S (j+1) (if bz mode=true then _ else _) _
 by_cases dd:bz mode=true
 ·refine aa (KZ dd) ?_
  have Wc:∀ m,d.add c m=d.push c m:=fun m=>by
   unfold DS.add DS.push;exact aa (KZ (Th.mp dd)) (aa (KZ (Th.mp dd)) (aa (Lj _) rfl))
  refine .inr (.inl ⟨d,a,st,c,j,rfl,rfl,hR,hc,hS,?_⟩);unfold vW
  cases (d.meant j c).head? with
  |none=>rfl
  |some m=>exact congrArg Except.ok (Wc m)
 ·have jp:0<j:=NM fun e=>dd (h0 e).2
  refine aa (KO dd) ?_;have Wc:∀ m,d.add c m=(d.push c m).close:=fun m=>by
   have hn:=(not_congr Th).mp dd;unfold DS.add DS.push DS.close;dsimp only;refine aa (KO hn) (aa (KO hn) (aa (La _) (ae QN.ok.ll.hl (aa (cB _ _ _) ?_))))
   congr 3
   lia
  have Qd:=gX QN hc hj hR.hr' hR.hz hS
  cases hm:(d.meant j c).head? with
  |none=>
   rw[hm] at Qd;obtain⟨q1,q2⟩:=Qd;refine .inr (.inr ⟨d.text,bU c,a.Yj,rfl,?_,QN.Yj,QN.weighs (by exact L1 [_] (.m 6 V0) (.n 200) 6 (.a V0 W1) (.n 15) rfl hj)⟩);unfold cR;exact aa (fP q1) (aa q2 rfl)
  |some m=>
   rw[hm] at Qd;obtain⟨a',q1,q2⟩:=Qd;have TM:(0:Int)<=(d.push c m).Yn:=by show 0<=(d.Yg.length:Int);exact iX
   obtain⟨k1,k2⟩:=q2.close (Nat.succ_le_of_lt hj) TM;rw[Nl] at k2;have k3:=Mr k2;rw[LP,←k3] at k1;refine .inl ⟨(d.push c m).close,iF (ac c) (aq j) a',st,congrArg Except.ok (Wc m),?_,?_,fun _=>?_,?_⟩
   ·unfold cR
    exact aa (dM q1) rfl
   ·exact k1.mono (by exact L0 [_] (.a (.a (.m 6 V0) (.n 5)) W1) (.m 6 (.a V0 W1)) rfl)
   ·refine ae (Wc m) ?_
    show 0<=(if c.fdiv 4096=4 then(d.Yg.length:Int) else d.Yn);have:=hR.hr jp
    split<;>lia
   ·refine⟨(fun q=>nomatch q),fun q=>?_⟩
    have q:(d.Yg++[c]).length=0:=q;rw[KJ] at q
    cases q
theorem BJ(hc:ai c)(i:Nat):PyData.strOk (ah (ac c) (aq i))=true:=by
 obtain⟨n,rfl,hn⟩:=hc.nat;have hs:∀ x∈ee,x<1114112:=by decide
 have h:=fj hn;refine aa (fX n hn) (aa (du _) (aa (fV _ _) ?_));unfold PyData.strOk
 (refine ae Array.all_toList ?_;rw[List.all_eq_true])
 intro x hx;refine KY ?_;rcases KI.mp hx with rfl|hx
 ·decide
 rcases KM.mp hx with hx|hx
 ·exact hs x (h x hx)
 rcases KI.mp hx with rfl|hx
 ·decide
 refine aa (KF.mp hx) ?_
 split<;>decide
theorem r0:fq DS.init a0 [] 0:=by
 have hN:DS.init.N=[]:=by
  unfold DS.N DS.us af;show (aG (dd [])).map _=[];refine aa (Mv (l:=aG (dd [])) (by rw[(bp _).length_eq];rfl)) ?_
  rfl
 have QF:DS.init.chain=[]:=dW _;refine⟨⟨⟨⟨rfl,rfl,fun i h=>absurd h (LM i),(fun _ h=>nomatch h),fun _ h=>nomatch h⟩,(fun _ h=>nomatch h),(fun _ h=>nomatch h),by decide,by decide,fun s _ h=>absurd h (LM s),K1 0,K1 0⟩,rfl,rfl,rfl,?_,?_,?_,?_,K1 0,fun _ h=>nomatch h⟩,fun h=>absurd h (Nv 0),⟨fun _=>rfl,fun _=>rfl⟩⟩
 ·refine aa hN ?_;rfl
 ·refine aa QF ?_;rfl
 ·refine aa QF ?_;rfl
 ·refine aa QF ?_;rfl
theorem fq.nonempty{d:DS}{a:AW}{st:List (Str×Str)}{j:Nat}(h:fq d a st j)(hj:0<j):st≠[]:=fun e=>by
 obtain⟨s,_,_,QF⟩:=h.sim.ok.Yn (h.hr hj);have:=h.sim.stLen;rw[e,QF] at this
 cases this
theorem iw.ready{S:Str->Bool}{j:Nat}{st:gc}{y:Except (Str×Str) DS}{a:AW}(h:iw S j (.ok st) y)(hj:j<=15)(hf:ar st.1=.ok a):aO (fun d=>y=.ok d) (fun d=>fq d a st.2 j):=by
 rcases h.fl hj with⟨_,_,_,_,_,_,h|⟨a2,s2,h,h2,_⟩⟩|⟨d,a2,a3,s2,hy,h,h2,h3⟩
 ·cases h
 ·cases h
  rw[dM hf] at h2
  cases h2
 ·cases h
  rw[hf] at h2
  cases h2;exact⟨d,hy,h3⟩
theorem iw.good{S:Str->Bool}{j:Nat}{st:gc}{y:Except (Str×Str) DS}(h:iw S j (.ok st) y)(hj:j<=15):eD st.1/\st.2.length<=j/\∀ ut∈st.2,bE (fun(c:Int) (i:Nat)=>ai c) (fun c i=>ut=(ac c,aq i)):=by
 have Yw:∀ {d:DS} {a:AW} {st:List (Str×Str)} {j:Nat},fq d a st j->∀ ut∈st,bE (fun(c:Int) (i:Nat)=>ai c) (fun c i=>ut=(ac c,aq i)):=fun {d a st j} hR ut YQ=>by
  rw[hR.sim.st] at YQ;obtain⟨s,hs,rfl⟩:=KK.mp (Pl.mp YQ);have:=hR.sim.ok.chainIn hs;exact⟨_,_,hR.sim.ok.ll.c0 _ (bj (d:=0) (iW this.1 this.2)),rfl⟩
 rcases h with⟨d,a,st,hy,hx,hR⟩|⟨d,b,st,c,i,rfl,hx,hR,hc,hS,hy⟩|⟨t,wd,P0,hy,hx,h1,h2⟩
 ·cases hx
  exact⟨hR.sim.good hj (by exact L1 [_] (.m 6 V0) (.n 200) 6 V0 (.n 15) rfl hj),by refine aa hR.sim.stLen ?_;exact hR.sim.ok.chainLen,Yw hR⟩
 ·cases hx
  refine⟨ny hR.sim hc (Nat.lt_of_succ_le hj) (by exact L1 [_] (.m 6 V0) (.n 190) 6 (.a V0 W1) (.n 15) rfl hj) hR.hr' hR.hz hS,?_,fun ut YQ=>?_⟩
  ·refine aa KJ ?_
   exact Mt (by refine aa hR.sim.stLen ?_;exact hR.sim.ok.chainLen)
  ·rcases KM.mp YQ with YQ|YQ
   ·exact Yw hR ut YQ
   ·exact⟨c,i,hc,KF.mp YQ⟩
 ·cases hx
theorem wT{S:Str->Bool}{j:Nat}{st:gc}{y:Except (Str×Str) DS}{Yx mode c:Int}{row:Str}(h:iw S j (.ok st) y)(hj:j<15)(hc:ai c)(WP:row=ac c)(hS:S (ah row (aq j))=decide (0<j)):mn S j Yx mode row st:=by
 subst WP;have SE:=LF hj;obtain⟨g1,g2,_⟩:=h.good SE;refine⟨g1,by refine aa (ez hc) ?_;decide,KH g2 (by exact L1 [_] V0 (.n 1000) 1 (.a V0 W1) (.n 15) rfl hj),fun _ hl a hf=>?_,fun _ _ a hf=>?_⟩
 ·obtain⟨d,_,hR⟩:=h.ready SE hf
  have hr:=hR.hr (by have:=hl.2;exact L2 [_,_] (.a W0 W1) V1 1 V0 V1 1 (.a W1 W1) V0 rfl g2 hl.2);obtain⟨_,k2⟩:=hR.sim.close SE hr;refine aa k2 ?_;exact hR.sim.endOk SE (by exact L1 [_] (.m 6 V0) (.n 200) 6 (.a V0 W1) (.n 15) rfl hj) hr
 ·obtain⟨d,_,hR⟩:=h.ready SE hf
  refine⟨KH hR.sim.declLen (bd hj),fun q=>?_,fun _=>⟨ny hR.sim hc hj (by exact L1 [_] (.m 6 V0) (.n 190) 6 (.a V0 W1) (.n 15) rfl hj) hR.hr' hR.hz hS,fun b hb=>?_⟩⟩
  ·rw[hS] at q
   exact yH hR.sim hc hj (by lia) j (hR.hz.mp (Nat.eq_zero_of_not_pos (of_decide_eq_false q)))
  ·have Qd:=gX hR.sim hc hj hR.hr' hR.hz hS
   cases hm:(d.meant j c).head? with
   |none=>
    rw[hm] at Qd;rw[Qd.1] at hb
    cases hb
   |some m=>
    rw[hm] at Qd;obtain⟨a',q1,q2⟩:=Qd;rw[q1] at hb
    cases hb;have TM:(0:Int)<=(d.push c m).Yn:=K7 _;have:=q2.endOk (Nat.succ_le_of_lt hj) (by exact L1 [_] (.a (.m 6 V0) (.n 5)) (.n 200) 6 (.a V0 W1) (.n 15) rfl hj) TM;obtain⟨_,k2⟩:=q2.close (Nat.succ_le_of_lt hj) TM;rw[Nl] at k2;rw[←Mr k2] at this;exact this
theorem wo{S:Str->Bool}{j:Nat}{st:gc}{y:Except (Str×Str) DS}(h:iw S j (.ok st) y)(hj:j<=15)(h0:0<j):fy st.2.reverse st.1:=by
 rcases hr:st.2.reverse with _|⟨ut,r⟩
 ·trivial
 ·refine⟨(h.good hj).1,fun a hf=>?_⟩
  obtain⟨d,_,hR⟩:=h.ready hj hf;have:=(jM _ rfl hR.sim hj (by have:=hR.sim.stLen;have:=hR.sim.ok.chainLen;lia)).1;rw[hr] at this;exact this.2 a hR.sim.flush
theorem wp(h:fl a=.ok a')(h2:fl a'=.ok a'):co (ut::r) a=co (ut::r) a':=by
 show bq (cR ut a) (co r)=bq (cR ut a') (co r);unfold cR;exact aa h (aa h2 rfl)
theorem yN{S:Str->Bool}{j:Nat}{x:fK gc}{y:Except (Str×Str) DS}(h:iw S j x y)(hj:j<=15)(h0:0<j):
  (rx (fun a' d=>y=.ok d) (fun a' _=>(bq x fun st=>co st.2.reverse st.1)=.ok a') (fun a' d=>Txt.join (Ye "") a'.Yj=d.fin.text) (fun a' _=>dD a'.Yj))∨gR (fun t wd P0=>y=.error (t,wd)) (fun _ wd P0=>(bq x fun st=>co st.2.reverse st.1)=.error (wd,P0)) (fun t _ P0=>Txt.join (Ye "") P0=t) (fun _ _ P0=>dD P0):=by
 rcases h.fl hj with⟨t,wd,P0,hy,h1,h2,rfl|⟨a,st,rfl,hf,P5⟩⟩|⟨d,a0,a,st,hy,rfl,hf,hR⟩
 ·exact .inr ⟨t,wd,P0,hy,rfl,h1,h2⟩
 ·refine .inr ⟨t,wd,P0,hy,?_,h1,h2⟩
  show co st.reverse a=_;rcases hr:st.reverse with _|⟨ut,r⟩
  ·exact absurd (List.reverse_eq_nil_iff.mp hr) P5
  ·show bq (cR ut a) (co r)=_
   unfold cR;exact aa hf rfl
 ·obtain⟨_,a',k2,k3,k4⟩:=jM _ rfl hR.sim hj (by have:=hR.sim.stLen;have:=hR.sim.ok.chainLen;lia)
  refine .inl ⟨a',d,hy,?_,k3,k4⟩;show co st.reverse a0=_;rcases hr:st.reverse with _|⟨ut,r⟩
  ·exact absurd (List.reverse_eq_nil_iff.mp hr) (hR.nonempty h0)
  ·exact aa (wp (dM hf) (dM hR.sim.flush)) (ae hr k2)
section
variable{Yk ag:Yc}(hb:∀ y∈ag,0<=y/\y<65536)(RP:Yk.getD 0 0=2)(P7:bz (ag.getD 0 0)=true)(hn:ag.length<=15)(hp:0<ag.length)
include hb
theorem jU:∀ r∈ag.map aP,r.length=10:=fun r hr=>by
 obtain⟨y,hy,rfl⟩:=KK.mp hr;have h:=hb y hy;obtain⟨n,rfl⟩:∃ n:Nat,y=n:=⟨y.toNat,tE h.1⟩;exact aa (um n (by lia)) (ez (iH h.1 h.2))
theorem vh(hj:j<ag.length):ai (bg (ag.getD j 0))/\(ag.map aP).getD j ⟨#[]⟩=ac (bg (ag.getD j 0))/\(bz (ag.getD j 0)=true↔(bg (ag.getD j 0)).fdiv 4096=4):=by
 have h:=hb _ (bj (d:=0) hj);have e:(ag.map aP).getD j ⟨#[]⟩=aP (ag.getD j 0):=by
  exact aa KU (aa LX (aa KU (aa (KL hj) rfl)))
 refine aa e ?_;obtain⟨n,hq⟩:∃ n:Nat,ag.getD j 0=n:=⟨(ag.getD j 0).toNat,tE h.1⟩;rw[hq] at h⊢;exact⟨iH h.1 h.2,um n (by lia),wl (by lia)⟩
include RP P7 hn
theorem kj:∀ j,j<=ag.length->iw (bM (ag.map aP)) j (cb (bM (ag.map aP)) Yk ag (ag.map aP) (a0,[]) j) (iE Yk ag j)
 |0,_=> .inl ⟨_,_,_,rfl,rfl,r0⟩
 |j+1,hj=>by
  obtain⟨r1,r2,r3⟩:=vh hb hj;have h0:j=0->Yk.getD j 0=2/\bz (ag.getD j 0)=true:=fun e=>aa e ⟨RP,P7⟩;have Qd:=yM (Yx:=Yk.getD j 0) (mode:=ag.getD j 0) (BR hj hn) (kj j (Nat.le_of_succ_le hj)) r1 r2 r3 (pS (jU hb) (by refine aa (KG _) ?_;exact hj)) h0;exact aa (mX _ _ _) Qd
include hp
theorem uB:kg (ag.map aP) Yk ag/\dB (ag.map aP) Yk ag=dZ Yk ag:=by
 have hl:(ag.map aP).length=ag.length:=KG _;have Qd:=yN (kj hb RP P7 hn _ (K1 _)) hn hp;have hT:(bq (cb (bM (ag.map aP)) Yk ag (ag.map aP) (a0,[]) ag.length) fun st=>co st.2.reverse st.1)=dQ (bM (ag.map aP)) Yk ag (ag.map aP) a0:=by
  unfold dQ;exact aa hl rfl
 rw[hT] at Qd;refine⟨⟨fun j st hj e=>?_,fun st e=>?_,fun a e=>?_,fun w P0 e=>?_⟩,?_⟩
 ·rw[hl] at hj
  obtain⟨r1,r2,r3⟩:=vh hb hj;have hA:=kj hb RP P7 hn j (LF hj);rw[e] at hA;exact wT hA (xN hj hn) r1 r2 (pS (jU hb) (by refine aa hl ?_;exact hj))
 ·rw[hl] at e
  have hA:=kj hb RP P7 hn _ (K1 _);rw[e] at hA;obtain⟨_,g2,g3⟩:=hA.good hn;refine⟨wo hA hn hp,by exact L2 [_,_] V1 (.n 1000) 1 V0 (.n 15) 1 V1 V0 rfl hn g2,fun ut YQ=>?_⟩;obtain⟨c,i,hc,rfl⟩:=g3 ut YQ;exact BJ hc i
 ·rcases Qd with⟨a',d,_,k2,_,k4⟩|⟨t,wd,P0,_,k2,_,_⟩
  ·rw[e] at k2;cases k2;exact k4
  ·rw[e] at k2;cases k2
 ·rcases Qd with⟨a',d,_,k2,_,k4⟩|⟨t,wd,P0,_,k2,_,k4⟩
  ·rw[e] at k2;cases k2
  ·rw[e] at k2;cases k2;exact k4
 ·refine aa (yh _ _) ?_
  unfold dB;rcases Qd with⟨a',d,k1,k2,k3,_⟩|⟨t,wd,P0,k1,k2,k3,_⟩
  ·exact aa k2 (aa k1 (congrArg (·,Ye "none") k3))
  ·exact aa k2 (aa k1 (congrArg (·,wd) k3))
end
theorem vX(n:Nat):Builtin.bitNot (n:Int)=Int.negSucc n:=by
 show-(n:Int)-1=_;refine aa (Int.negSucc_eq _) ?_
 omega
theorem rN(n:Nat):Builtin.bitNot (Int.negSucc n)=n:=by
 show-(Int.negSucc n)-1=_;refine aa (Int.negSucc_eq _) ?_;exact tY
theorem xX(n m:Nat):Builtin.bitOr (n:Int) (m:Int)=((n|||m:Nat):Int):=by
 unfold Builtin.bitOr;refine aa (vX n) (aa (vX m) ?_);have h:Builtin.bitAnd (Int.negSucc n) (Int.negSucc m)=Builtin.bitNot (((Builtin.bitNot (Int.negSucc n)).toNat|||(Builtin.bitNot (Int.negSucc m)).toNat:Nat):Int):=rfl;exact aa h (aa (rN _) (aa (rN _) (aa (La _) (aa (La _) (aa (vX _) (aa (rN _) rfl))))))
theorem uA(part:Int):0<=eY part/\eY part<65536:=by
 have h1:=di part (b:=24) (by decide);have h2:=di (part.fdiv 24) (b:=4096) (by decide);unfold eY;generalize part.fmod 24=k at h1;generalize (part.fdiv 24).fmod 4096=r at h2;have hk:0<=(if 15<k then([4,4,4,6,2,10,1,12]:Yc).getD (k-16).toNat 0 else k)/\(if 15<k then([4,4,4,6,2,10,1,12]:Yc).getD (k-16).toNat 0 else k)<16:=by
  have t:∀ i,i<8->0<=([4,4,4,6,2,10,1,12]:Yc).getD i 0/\([4,4,4,6,2,10,1,12]:Yc).getD i 0<16:=by decide
  split
  ·exact t _ (t8 h1.2)
  ·omega
 have hr:0<=(if 1<(part.fdiv 98304).fmod 4 then Builtin.bitOr r 438 else r)/\(if 1<(part.fdiv 98304).fmod 4 then Builtin.bitOr r 438 else r)<4096:=by
  split
  ·obtain⟨n,rfl⟩:∃ n:Nat,r=n:=⟨r.toNat,tE h2.1⟩
   refine aa (show (438:Int)=((438:Nat):Int) from rfl) (aa (xX _ _) ?_);have:=Nat.or_lt_two_pow (x:=n) (y:=438) (n:=12) (by omega) (by decide);exact⟨K7 _,xR this⟩
  ·exact h2
 omega
theorem r6(k:Nat)(hk:k<4096):bz ((16384+k:Nat):Int)=true:=by
 unfold bz;exact aa (my _ (by exact L1 [_] (.a (.a (.n 16384) V0) W1) (.n 65536) 1 (.a V0 W1) (.n 4096) rfl hk)) (aa (show (16384+k)/4096=4 from FV hk) rfl)
theorem law_ok(ns:Yc):rF ns:=by
 have hq:=di (1023+ns.sum) (b:=4096) (by decide);have hb:∀ y∈aW ns,0<=y/\y<65536:=fun y hy=>by
  rcases KI.mp hy with rfl|hy
  ·omega
  ·obtain⟨n,_,rfl⟩:=KK.mp hy
   exact uA _
 have hl:(aW ns).length=(bi ns).length+1:=by unfold aW;exact aa Le (aa (KG _) rfl)
 have hn:=jz ns;have hm:bz ((aW ns).getD 0 0)=true:=by
  show bz (16384+(1023+ns.sum).fmod 4096)=true;obtain⟨k,hk⟩:∃ k:Nat,(1023+ns.sum).fmod 4096=k:=⟨((1023+ns.sum).fmod 4096).toNat,tE hq.1⟩;rw[hk] at hq⊢;exact r6 k (by omega)
 obtain⟨h1,h2⟩:=uB hb (Yk:=cv ns) rfl hm (by exact L3 [_,_] V0 (.n 15) 3 V0 (.a V1 W1) 2 (.a V1 W1) V0 1 V1 (.n 14) rfl (eL hl) (eG hl) hn.2) (by exact L1 [_,_] (.a W0 W1) V0 1 (.a V1 W1) V0 rfl (eG hl));exact⟨hb,fun y hy=>by refine aa (jU hb _ (KW hy)) ?_;decide,h1,h2⟩
end
end Internal
theorem PySem.Challenge.cw_pk0128_01_holds : PySem.Challenge.rw_pk0128_01.Holds :=
 Internal.hd (Internal.law_call Internal.law_ok)