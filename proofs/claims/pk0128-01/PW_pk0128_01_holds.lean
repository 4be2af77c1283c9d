import PyProof.Rows.All
import Wide.All
import OpenK.AllK
import Wide.FinOn
import PySem.Challenge.RW_pk0128_01
open PySem PySem.W PyProof.Rows PySem.Calls PySem.Spec
set_option Elab.async false
set_option linter.all false
set_option maxRecDepth 100000
set_option maxHeartbeats 8000000
set_option rowWalk.seconds 0
set_option genInjectivity false
set_option genSizeOf false
set_option genCtorIdx false
set_option compiler.extract_closed false
namespace Internal
noncomputable section
abbrev X4:=List (Addr×Obj)
abbrev X5:=Str->Option Value
abbrev X6:=Value->Shared->Prop
abbrev X7:=PySem.Expr
abbrev X8:=List Value
abbrev X9:=List Int
abbrev Yb:=List Stmt
noncomputable abbrev Yc:=Str.ofString
def Kx:=@PySem.wpAny_bind
def Ky:=@List.mem_append_left
def Kz:=@List.mem_append_right
def KA:=@Nat.le_of_ble_eq_true
def KB:=@PySem.Str.length_append
def KC:=@PySem.wpAny_pure
def KD:=@List.mem_singleton
def KE:=@List.length_map
def KF:=@Nat.le_trans
def KG:=@List.mem_cons
def KH:=@List.length_append
def KI:=@List.mem_map
def KJ:=@List.getElem?_eq_getElem
def KK:=@List.mem_append
def KL:=@PySem.Heap.get?_push_of_some
def KM:=@if_neg
def KN:=@List.map_append
def KO:=@PySem.Heap.lt_size
def KP:=@Bool.false_ne_true
def KQ:=@List.append_assoc
def KR:=@List.getD_eq_getElem?_getD
def KS:=@List.forall_mem_cons
def KU:=@List.mem_map_of_mem
def KV:=@decide_eq_true
def KW:=@if_pos
def KY:=@decide_eq_false
def KZ:=@Nat.le_refl
def K0:=@Nat.zero_le
def K1:=@Int.natCast_nonneg
def K6:=@Nat.ne_of_lt
def K7:=@PySem.wpAny_mono
def K8:=@Int.toNat_natCast
def K9:=@Nat.lt_of_lt_of_le
def La:=@PySem.Heap.get?_push_size
def Lb:=@List.perm_append_comm_assoc
def Lc:=@List.length_cons
def Ld:=@List.perm_middle
def Le:=@List.mem_filter
def Lf:=@PySem.sizeLine_eq
def Lg:=@PySem.F.type_list_append
def Lh:=@List.append_nil
def Li:=@PySem.wpAny_holding
def Lj:=@List.getElem?_eq_some_iff
def Lk:=@List.take_length
def Ll:=@PySem.wpAny_items_cons
def Lm:=@PySem.Heap.SameBut.update
def Lo:=@PySem.F.slot_list_append
def Lp:=@PySem.wpAny_execs_cons
def Lq:=@List.sublist_cons_self
def Lr:=@List.Perm.append_left
def Ls:=@Option.map_eq_some_iff
def Lu:=@List.size_toArray
def Lv:=@Nat.lt_of_le_of_lt
def Lw:=@List.not_mem_nil
def Lx:=@List.nodup_cons
def Ly:=@List.sublist_append_right
def Lz:=@PySem.wpAny_items_nil
def LA:=@List.map_cons
def LB:=@PyProof.Rows.Call_Name
def LC:=@Int.ofNat_lt
def LD:=@Nat.le_of_lt
def LF:=@PySem.wpAny_standAt
def LG:=@Nat.lt_succ_of_lt
def LH:=@PySem.BindsTo.of_eq
def LI:=@Int.fdiv_eq_ediv_of_nonneg
def LJ:=@List.mem_of_getElem?
def LK:=@Nat.not_lt_zero
def LL:=@beq_eq_false_iff_ne
def LM:=@PySem.Around.under_plainId
def LN:=@List.dropLast_concat
def LO:=@List.mem_iff_getElem
def LP:=@Nat.lt_succ_self
def LQ:=@PySem.wpAny_call_entry
def LR:=@Int.lt_of_lt_of_le
def LS:=@List.getElem?_append_right
def LT:=@PySem.seg_bind_wrap
def LU:=@List.perm_append_comm
def LV:=@List.getElem?_map
def LW:=@PySem.wpAny_newObj_type
def LX:=@List.pairwise_cons
def LY:=@PyProof.Txt.length_slice_le
def LZ:=@PySem.Heap.size_push
def L7:=@List.foldl_cons
def L8:=@Nat.mod_lt
def L9:=@Array.length_toList
def Ma:=@List.forall_mem_nil
def Mb:=@List.cons_append
def Mc:=@PySem.Str.empty_append
def Md:=@Nat.le_of_eq
def Me:=@List.eq_nil_of_length_eq_zero
def Mf:=@PySem.wpAny_field
def Mg:=@Nat.lt_trans
def Mh:=@Nat.ne_of_gt
def Mi:=@Nat.add_le_add_left
def Mj:=@Nat.mul_le_mul_left
def Mk:=@List.cons_lt_cons_iff
def Ml:=@List.reverse_cons
def Mm:=@List.take_add_one
def Mn:=@PySem.wpAny_callSpecial?_slot
def Mo:=@Int.fmod_eq_emod_of_nonneg
def Mp:=@Nat.div_lt_of_lt_mul
def Mq:=@Option.some.inj
def Mr:=@List.length_take
def Ms:=@Nat.succ_le_succ
def Mt:=@List.getElem?_append_left
def Mu:=@List.idxOf_lt_length_iff
def Mv:=@PySem.codeAny_builtin
def Mw:=@List.nil_sublist
def Mx:=@beq_iff_eq
def My:=@PySem.wpAny_rule
def Mz:=@Nat.le_of_add_le_add_right
def MC:=@List.nodup_nil
def MD:=@Nat.le_succ
def MF:=@Ne.symm
def MG:=@Nat.le_succ_of_le
def MH:=@decide_eq_true_eq
def MI:=@List.map_congr_left
def MJ:=@Array.getElem?_eq_getElem
def MK:=@List.find?_cons
def ML:=@PySem.Heap.get?_update_self
def MM:=@List.filter_append
def MN:=@Nat.succ_pos
def MO:=@PyProof.Rows.F.plain_set_update_loop
def MQ:=@PySem.F.called_set
def MR:=@PyProof.Rows.assignInOrder_cons
def MS:=@PyProof.Rows.listItems_at
def MT:=@PySem.wpAny_askSetting
def MU:=@PySem.W.InstAt.of_news
def MV:=@Nat.mul_le_mul_right
def MW:=@Nat.not_lt
def MX:=@List.flatMap_cons
def MY:=@Bool.eq_iff_iff
def MZ:=@PyProof.Rows.StrsAre.append'
def M1:=@List.map_map
def M2:=@Nat.div_div_eq_div_mul
def M3:=@Nat.lt_or_ge
def M4:=@PySem.plainId_quiet
def M5:=@List.getElem_mem
def M6:=@List.mem_flatMap
def M7:=@List.length_filter_le
def M8:=@List.length_singleton
def M9:=@List.mem_cons_self
def Na:=@PySem.F.slot_list_pop
def Nb:=@PySem.F.type_list_pop
def Nc:=@PySem.builtinLookup_eq_fast
def Nd:=@PySem.wpAny_Constant_int
def Nf:=@PySem.wpAny_of_eq
def Ng:=@Bool.and_eq_true_iff
def Nh:=@Int.le_of_lt
def Ni:=@List.getLast?_concat
def Nj:=@Nat.div_add_mod
def Nk:=@Nat.zero_add
def Nl:=@PySem.F.slot_list_getattribute
def Nm:=@PyProof.Rows.get?_update_seq
def Nn:=@List.nodup_append
def No:=@Nat.le_of_lt_succ
def Np:=@of_decide_eq_true
def Nq:=@Nat.lt_irrefl
def Nt:=@PySem.wpAny_attempt
def Nu:=@List.reverse_append
def Nv:=@Bool.and_eq_true
def Nw:=@List.find?_map
def Nx:=@List.length_drop
def Ny:=@Nat.add_le_add
def Nz:=@Nat.le_add_right
def NA:=@PySem.slot_list_append
def NB:=@PySem.type_list_append
def ND:=@PySem.wpAny_isInstance
def NE:=@PySem.strKind_is
def NF:=@Array.getD_eq_getD_getElem?
def NG:=@Int.le_trans
def NH:=@Int.ofNat_le
def NI:=@List.find?_eq_none
def NJ:=@Nat.pos_of_ne_zero
def NK:=@PySem.Obj.data_mapFields
def NL:=@Option.toList_some
def NM:=@List.getElem?_eq_none
def NN:=@PySem.codeAny_of_tree
def NO:=@PySem.F.slot_tuple_iterator_next
def NP:=@PySem.seg_bind
def NQ:=@List.foldl_append
def NR:=@Nat.lt_succ_of_le
def NS:=@List.pairwise_iff_getElem
def NT:=@PySem.wpAny_loadName_local
def NU:=@PyProof.Rows.News.push
def NV:=@List.mem_range
def NW:=@PySem.isSubtype_type
def NX:=@PySem.wpAny_seqItems
def NY:=@List.getElem_map
def NZ:=@Nat.lt_succ_iff_lt_or_eq
def N7:=@PyProof.Rows.callWith_method1
def N8:=@List.flatMap_append
def N9:=@PySem.MeetsSeq3.plain_eq_loop
def Oa:=@PyProof.Rows.Subscript_
def Ob:=@PySem.F.slot_list_index
def Oc:=@PyProof.Rows.listUpdate_at
def Od:=@Int.mul_le_mul_of_nonneg_right
def Oe:=@Int.not_lt
def Of:=@List.forIn_cons
def Og:=@List.nil_append
def Oh:=@Nat.eq_zero_or_pos
def Oi:=@Nat.le_add_left
def Oj:=@PySem.typeLookup_type
def Ok:=@PySem.wpAny_setField_rec
def Ol:=@Nat.le_add_right_of_le
def Om:=@Nat.lt_of_succ_lt_succ
def On:=@Option.map_eq_none_iff
def Oo:=@List.length_range
def Op:=@PySem.wpAny_assign_Name
def Oq:=@PySem.F.slot_enumerate_next
def Os:=@List.forIn_nil
def Ot:=@List.getElem?_toArray
def Ou:=@Nat.sub_le_iff_le_add
def Ov:=@PySem.Obj.isFreed_of_fields
def Ow:=@PySem.F.slot_str_join
def Ox:=@PySem.F.type_str_join
def Oy:=@PySem.exec_Assign_Name_used
def Oz:=@PySem.wpAny_typeOf
def OA:=@List.mem_of_mem_drop
def OB:=@List.replicate_succ'
def OC:=@Nat.eq_of_testBit_eq
def OD:=@Nat.le_of_not_lt
def OE:=@Nat.not_succ_le_zero
def OF:=@beq_self_eq_true
def OG:=@PySem.codeAny_call_builtin
def OH:=@decide_eq_decide
def OI:=@PySem.entryFor_of_tree
def OJ:=@PySem.wpAny_call
def OK:=@PySem.F.plain_extend_loop
def OL:=@Int.toNat_of_nonneg
def OM:=@Nat.add_lt_add_left
def ON:=@Int.le_antisymm
def OO:=@Nat.min_le_left
def OP:=@Nat.testBit_and
def OQ:=@PyProof.Rows.entry_list_sort
def OR:=@PySem.AutoSeq1.wpAny_loadPart'
def OS:=@Int.lt_of_le_of_lt
def OT:=@List.eq_of_mem_replicate
def OU:=@List.map_nil
def OV:=@List.mem_filterMap
def OW:=@Nat.add_sub_cancel
def OX:=@Nat.lt_of_le_of_ne
def OY:=@Nat.sub_self
def O0:=@or_false
def O1:=@PySem.slot_listiter_next
def O2:=@Option.map_map
def O4:=@PySem.wpAny_setField
def O5:=@List.filter_cons_of_neg
def O6:=@List.filter_cons_of_pos
def O7:=@PySem.F.type_list_index
def O8:=@Function.comp_def
def O9:=@List.findIdx_cons
def Pb:=@PySem.getMethod_builtin
def Pc:=@PySem.wpAny_Assign_Name
def Pe:=@List.Perm.append_right
def Pf:=@Nat.le_of_succ_le_succ
def Pg:=@PySem.F.plainAttrs_str
def Ph:=@List.cons_ne_nil
def Pi:=@List.map_flatMap
def Pj:=@List.mem_reverse
def Pl:=@Nat.succ_lt_succ
def Pm:=@Nat.succ_ne_zero
def Po:=@List.concat_eq_append
def Pp:=@List.eq_nil_or_concat
def Pq:=@List.length_replicate
def Ps:=@List.take_append_drop
@[elab_as_elim] theorem aa{A:Sort _}{a b:A}(h:a=b){M:A->Prop}(x:M b):M a:=h▸x
@[elab_as_elim] theorem ae{A:Sort _}{a b:A}(h:a=b){M:A->Prop}(x:M a):M b:=h▸x
theorem dj{α:Type}{x a0 a1:α}{l:List α}(h:x∈l):x∈a0::a1::l:= .tail _ (.tail _ h)
theorem cY{α:Type}{x a0 a1 a2:α}{l:List α}(h:x∈l):x∈a0::a1::a2::l:= .tail _ (dj h)
theorem cS{α:Type}{x a0 a1 a2 a3:α}{l:List α}(h:x∈l):x∈a0::a1::a2::a3::l:= .tail _ (cY h)
theorem xJ{α:Type}{x a0 a1 a2 a3 a4:α}{l:List α}(h:x∈l):x∈a0::a1::a2::a3::a4::l:= .tail _ (cS h)
theorem En{α:Type}{x a0 a1 a2 a3 a4 a5:α}{l:List α}(h:x∈l):x∈a0::a1::a2::a3::a4::a5::l:= .tail _ (xJ h)
theorem xK{α:Type}{x a0 a1 a2 a3 a4 a5 a6:α}{l:List α}(h:x∈l):x∈a0::a1::a2::a3::a4::a5::a6::l:= .tail _ (En h)
theorem uR{α:Type}{x a0 a1 a2 a3 a4 a5 a6 a7:α}{l:List α}(h:x∈l):x∈a0::a1::a2::a3::a4::a5::a6::a7::l:= .tail _ (xK h)
theorem Eo{α:Type}{x a0 a1 a2 a3 a4 a5 a6 a7 a8:α}{l:List α}(h:x∈l):x∈a0::a1::a2::a3::a4::a5::a6::a7::a8::l:= .tail _ (uR h)
theorem aJ{α:Type}{x a0:α}{l:List α}:x∈a0::x::l:= .tail _ (.head _)
theorem co{α:Type}{x a0 a1:α}{l:List α}:x∈a0::a1::x::l:= .tail _ aJ
theorem ir{α:Type}{x a0 a1 a2:α}{l:List α}:x∈a0::a1::a2::x::l:= .tail _ co
theorem iu{α:Type}{x a0 a1 a2 a3:α}{l:List α}:x∈a0::a1::a2::a3::x::l:= .tail _ ir
theorem qZ{α:Type}{x a0 a1 a2 a3 a4:α}{l:List α}:x∈a0::a1::a2::a3::a4::x::l:= .tail _ iu
theorem uQ{α:Type}{x a0 a1 a2 a3 a4 a5:α}{l:List α}:x∈a0::a1::a2::a3::a4::a5::x::l:= .tail _ qZ
theorem q6{α:Type}{x a0 a1 a2 a3 a4 a5 a6:α}{l:List α}:x∈a0::a1::a2::a3::a4::a5::a6::x::l:= .tail _ uQ
theorem Am{α:Type}{x a0 a1 a2 a3 a4 a5 a6 a7:α}{l:List α}:x∈a0::a1::a2::a3::a4::a5::a6::a7::x::l:= .tail _ q6
theorem El{α:Type}{x a0 a1 a2 a3 a4 a5 a6 a7 a8:α}{l:List α}:x∈a0::a1::a2::a3::a4::a5::a6::a7::a8::x::l:= .tail _ Am
inductive T
 |v (i:Nat)
 |n (k:Nat)
 |a (x y:T)
 |m (k:Nat) (x:T)
 |w (x:T) (k:Nat)
def V0:T:= .v 0
def V1:T:= .v 1
def V2:T:= .v 2
def V3:T:= .v 3
def W0:T:= .n 0
def W1:T:= .n 1
def As(c:List Nat):Nat->Nat:=List.rec (fun _=>0) (fun x _ f i=>Nat.rec x (fun j _=>f j) i) c
def T.d(c:List Nat)(t:T):Nat:=T.rec (As c) (fun k=>k) (fun _ _ x y=>x+y) (fun k _ x=>k*x) (fun _ k x=>x*k) t
def T.k(t:T):Nat:=T.rec (fun _=>0) (fun k=>k) (fun _ _ x y=>x+y) (fun k _ x=>k*x) (fun _ k x=>x*k) t
def T.c(i:Nat)(t:T):Nat:=T.rec (fun j=>cond (Nat.beq j i) 1 0) (fun _=>0) (fun _ _ x y=>x+y) (fun k _ x=>k*x) (fun _ k x=>x*k) t
noncomputable def rI (f:Nat->Bool) (n:Nat):Bool:=Nat.rec true (fun i b=>f i&&b) n
def lA(n:Nat)(x y:T):Bool:=Nat.ble x.k y.k&&rI (fun i=>Nat.ble (x.c i) (y.c i)) n
def dA(c:List Nat):(Nat->Nat)->Nat:=List.rec (fun _=>0) (fun x _ g f=>f 0*x+g fun i=>f (i+1)) c
theorem wm:∀ c,dA c (fun _=>0)=0
 |[]=>rfl
 |x::c=>by show 0*x+dA c (fun _=>0)=0;rw[wm c,Nat.zero_mul]
theorem zT:∀ c f g,dA c (fun i=>f i+g i)=dA c f+dA c g
 |[],_,_=>rfl
 |x::c,f,g=>by
  show (f 0+g 0)*x+dA c (fun i=>f (i+1)+g (i+1))=(f 0*x+dA c fun i=>f (i+1))+(g 0*x+dA c fun i=>g (i+1));rw[zT c,Nat.add_mul,Nat.add_add_add_comm]
theorem wn(k:Nat):∀ c f,dA c (fun i=>k*f i)=k*dA c f
 |[],_=>rfl
 |x::c,f=>by
  show k*f 0*x+dA c (fun i=>k*f (i+1))=k*(f 0*x+dA c fun i=>f (i+1));rw[wn k c,Nat.mul_add,Nat.mul_assoc]
theorem zU:∀ c j,dA c (fun i=>cond (Nat.beq j i) 1 0)=As c j
 |[],_=>rfl
 |x::c,0=>by show 1*x+dA c (fun _=>0)=x;rw[wm,Nat.one_mul,Nat.add_zero]
 |x::c,j+1=>by show 0*x+dA c (fun i=>cond (Nat.beq j i) 1 0)=As c j;rw[zU c j,Nat.zero_mul,Nk]
theorem Ce:∀ (c:List Nat) (f g:Nat->Nat),rI (fun i=>Nat.ble (f i) (g i)) c.length=true->dA c f<=dA c g:=by
 have Qb:∀ (n:Nat) (f g:Nat->Nat),rI (fun i=>Nat.ble (f i) (g i)) n=true->∀ i,i<n->f i<=g i:=by
  intro n f g
  induction n with
  |zero=>exact fun _ _ h=>absurd h (LK _)
  |succ n ih=>
   intro h i hi;obtain⟨h1,h2⟩:=Ng.mp (show (Nat.ble (f n) (g n)&&rI (fun i=>Nat.ble (f i) (g i)) n)=true from h);rcases NZ.mp hi with q|rfl
   ·exact ih h2 i q
   ·exact KA h1
 have go:∀ (c:List Nat) (f g:Nat->Nat),(∀ i,i<c.length->f i<=g i)->dA c f<=dA c g:=by
  intro c
  induction c with
  |nil=>exact fun _ _ _=>KZ 0
  |cons x c ih=>exact fun f g h=>Ny (MV x (h 0 (MN _))) (ih _ _ fun i hi=>h (i+1) (Pl hi))
 exact fun c f g h=>go c f g (Qb _ f g h)
theorem T.d_eq(c:List Nat)(t:T):t.d c=t.k+dA c fun i=>t.c i:=by
 induction t with
 |v j=>exact((zU c j).symm.trans (Nk _).symm)
 |n k=>exact(aa (wm c) rfl:k=k+dA c fun _=>0)
 |a x y hx hy=>
  show x.d c+y.d c=(x.k+y.k)+dA c fun i=>x.c i+y.c i;rw[hx,hy,zT,Nat.add_add_add_comm]
 |m k x hx=>
  show k*x.d c=k*x.k+dA c fun i=>k*x.c i;rw[hx,wn,Nat.mul_add]
 |w x k hx=>
  show x.d c*k=x.k*k+dA c fun i=>x.c i*k;have e:(fun i=>x.c i*k)=fun i=>k*x.c i:=funext fun i=>Nat.mul_comm _ _;rw[e,hx,wn,Nat.add_mul,Nat.mul_comm k]
section
variable(c:List Nat)(g h:T)
theorem L0(o:lA c.length g h=true):g.d c<=h.d c:=by
 obtain⟨a,b⟩:=Ng.mp o;rw[g.d_eq,h.d_eq];exact Ny (KA a) (Ce c _ _ b)
theorem LE(o:(lA c.length g h&&lA c.length h g)=true):g.d c=h.d c:=Nat.le_antisymm (L0 c g h (Ng.mp o).1) (L0 c h g (Ng.mp o).2)
variable(k:Nat)(l r:T)
theorem L1(o:lA c.length (.a g (.m k r)) (.a h (.m k l))=true)(q:l.d c<=r.d c):g.d c<=h.d c:=
 Mz (KF (L0 c _ _ o:g.d c+k*r.d c<=h.d c+k*l.d c) (Mi (Mj k q) _))
variable(TC:Nat)(l₂ SK:T)
theorem L2(o:lA c.length (.a (.a g (.m k r)) (.m TC SK)) (.a (.a h (.m k l)) (.m TC l₂))=true)(q:l.d c<=r.d c)(Wx:l₂.d c<=SK.d c):g.d c<=h.d c:=
 Mz (KF (L1 c (.a g (.m k r)) (.a h (.m k l)) TC l₂ SK o Wx:g.d c+k*r.d c<=h.d c+k*l.d c) (Mi (Mj k q) _))
variable(UF:Nat)(RC UG:T)
theorem L3(o:lA c.length (.a (.a (.a g (.m k r)) (.m TC SK)) (.m UF UG)) (.a (.a (.a h (.m k l)) (.m TC l₂)) (.m UF RC))=true)(q:l.d c<=r.d c)(Wx:l₂.d c<=SK.d c)(VS:RC.d c<=UG.d c):g.d c<=h.d c:=
 Mz (KF (L2 c (.a g (.m k r)) (.a h (.m k l)) TC l₂ SK UF RC UG o Wx VS:g.d c+k*r.d c<=h.d c+k*l.d c) (Mi (Mj k q) _))
variable(VX:Nat)(R5 VZ:T)
theorem L4(o:lA c.length (.a (.a (.a (.a g (.m k r)) (.m TC SK)) (.m UF UG)) (.m VX VZ)) (.a (.a (.a (.a h (.m k l)) (.m TC l₂)) (.m UF RC)) (.m VX R5))=true)(q:l.d c<=r.d c)(Wx:l₂.d c<=SK.d c)(VS:RC.d c<=UG.d c)(VY:R5.d c<=VZ.d c):g.d c<=h.d c:=
 Mz (KF (L3 c (.a g (.m k r)) (.a h (.m k l)) TC l₂ SK UF RC UG VX R5 VZ o Wx VS VY:g.d c+k*r.d c<=h.d c+k*l.d c) (Mi (Mj k q) _))
end
section
variable{a b:Nat}
theorem eL(h:a=b):a<=b:=Md h
theorem eG(h:a=b):b<=a:=Md h.symm
theorem nT(h:¬a<b):b<=a:=OD h
theorem aS(h:a<=b)(k:b<=a):a=b:=Nat.le_antisymm h k
theorem f0(h:1<=0):False:=OE 0 h
theorem bd{k m:Nat}(h:a<=k)(o:Nat.ble k m=true:=by rfl):a<=m:=KF h (KA o)
variable{c d j k l m n p r:Nat}{i y z:Int}
theorem xP(h:j<n):n-(j+1)<n-j:=Nat.sub_lt_sub_left h (LP j)
theorem sP(h:n-j=k+1):n-(j+1)=k:=congrArg Nat.pred h
theorem sJ(h:n-j=k+1):j<n:=Nat.lt_of_sub_pos (aa h (MN k))
theorem s1(h:j<n):n-j=n-j-1+1:=(Nat.succ_pred (Nat.sub_ne_zero_of_lt h)).symm
theorem sQ(h:0<n):n=n-1+1:=(Nat.succ_pred (Mh h)).symm
theorem Fa(e:n=m)(h:0<m):n=n-1+1:=sQ (aa e h)
theorem sZ(h:n-j=0)(q:j<=n):j=n:=Nat.le_antisymm q (Nat.le_of_sub_eq_zero h)
theorem Fb(q:j<=n)(e:n<=m)(h:m-j<=0):j=n:=Nat.le_antisymm q (KF e (Nat.sub_eq_zero_iff_le.mp (Nat.le_zero.mp h)))
theorem s7(h:a-b=k+1):p+(a-(b+1)+1+r)-1-(k+r)-p=0:=by
 rw[sP h,Nat.succ_add];show p+(k+r)-(k+r)-p=0;rw[OW,OY]
theorem s6(h:a-b=k+1):p<=p+(a-b+r)-1-(k+r):=by
 rw[h,Nat.succ_add];show p<=p+(k+r)-(k+r);rw[OW];exact KZ p
theorem s5(h:n-j=k+1):n-1-(k+1-1)=j:=by
 rw[OW,Nat.sub_sub,Nat.add_comm 1,←h,Nat.sub_sub_self (LD (sJ h))]
theorem sD(h:0<n):1+(n-1)=n:=Nat.add_sub_cancel' h
theorem sA(h:k<=n):k+(n-k)=n:=Nat.add_sub_cancel' h
theorem E9(h:¬n-12<4):16<=n:=OD fun q=>h (Nat.sub_lt_right_of_lt_add (OD fun q2=>h (aa (Nat.sub_eq_zero_of_le (LD q2)) (MN 3))) q)
theorem sG(h:j<n):1<=n-j:=Nat.sub_pos_of_lt h
theorem sH:n-k<0+(n+1):=Lv (Nat.sub_le n k) (aa (Nk _) (LP n))
theorem sI(h:k+1<=n):k<=n-1:=Nat.le_sub_one_of_lt h
theorem sK(h:a<=c)(q:b<c-a):a+b<c:=Nat.add_comm b a▸Nat.add_lt_of_lt_sub q
theorem s0:n=n-0:=rfl
theorem Ek(h:j<n):j-min j n=0:=aa (Nat.min_eq_left (LD h)) (OY j)
theorem mL(h:j<min n k):j<n:=K9 h (OO n k)
theorem mR(h:j<min n k):j<k:=K9 h (Nat.min_le_right n k)
theorem mI(h:j<n)(q:n<k):j<min n k:=Nat.lt_min.mpr ⟨h,Mg h q⟩
theorem mE(h:n<k)(e:j=min n k):j=n:=e.trans (Nat.min_eq_left (LD h))
theorem mB(h:n<=10)(q:j<n):min j k<=9:=KF (OO j k) (No (K9 q h))
theorem Ei(q:m≥j):min j k<=m:=KF (OO j k) q
theorem hL(h:b<=c)(q:a<b):(a+b)/2<c:=K9 (Mp (aa (Nat.two_mul b) (Nat.add_lt_add_right q b))) h
theorem Eg(h:b<=c)(q:a<b):(a+b)/2<=c:=LD (hL h q)
theorem hB(h:b-a<=k+1):b-((a+b)/2+1)<=k:=by
 refine Nat.sub_le_of_le_add ?_;have h1:=Ou.mp h;have h2:a+b<2*((a+b)/2+1):=Nat.lt_mul_div_succ (a+b) (MN 1);generalize (a+b)/2=x at h2⊢;refine Nat.le_of_mul_le_mul_left (c:=2) ?_ (MN 1);exact L2 [a,b,k,x] (.m 2 V1) (.m 2 (.a V2 (.a V3 W1))) 1 V1 (.a (.a V2 W1) V0) 1 (.a (.a V0 V1) W1) (.m 2 (.a V3 W1)) rfl h1 h2
theorem hC(h:b-a<=k+1)(q:a<b):(a+b)/2-a<=k:=by
 refine Nat.sub_le_of_le_add ?_;have h1:=Ou.mp h;have h2:(a+b)/2*2<=a+b:=Nat.div_mul_le_self _ _;generalize (a+b)/2=x at h2⊢;refine No (Nat.lt_of_mul_lt_mul_left (a:=2) ?_);exact L2 [a,b,k,x] (.a (.m 2 V3) W1) (.m 2 (.a (.a V2 V0) W1)) 1 (.w V3 2) (.a V0 V1) 1 V1 (.a (.a V2 W1) V0) rfl h2 h1
theorem hD(h:n<65536):n/4096<16:=Mp h
theorem BP(h:n<3):n=0∨n=1∨n=2:=match n,h with|0,_=> .inl rfl|1,_=> .inr (.inl rfl)|2,_=> .inr (.inr rfl)|_+3,h=>absurd h (Nat.not_lt_of_le (Oi 3 _))
theorem EI(h:n<4):n=0∨n=1∨n=2∨n=3:=(by decide:∀ n,n<4->n=0∨n=1∨n=2∨n=3) n h
theorem EJ(h:1<=n)(q:n<=7):n=1∨n=2∨n=3∨n=4∨n=5∨n=6∨n=7:=(by decide:∀ n,n<8->1<=n->n=1∨n=2∨n=3∨n=4∨n=5∨n=6∨n=7) n (NR q) h
theorem BO(h:0<=i)(q:i<2):i=0∨i=1:=by
 obtain⟨n,rfl⟩:=Int.eq_ofNat_of_zero_le h;exact((by decide:∀ n,n<2->n=0∨n=1) n (LC.mp q)).imp (congrArg Int.ofNat) (congrArg Int.ofNat)
theorem EK(h:0<=i)(q:i<=2):i=0∨i=1∨i=2:=by
 obtain⟨n,rfl⟩:=Int.eq_ofNat_of_zero_le h;exact((by decide:∀ n,n<3->n=0∨n=1∨n=2) n (NR (NH.mp q))).imp (congrArg Int.ofNat) (.imp (congrArg Int.ofNat) (congrArg Int.ofNat))
theorem tE(h:0<=i):i=(i.toNat:Int):=(OL h).symm
theorem tN(h:-1<=i)(q:¬i=-1):0<=i:=(Int.lt_iff_le_and_ne.mpr ⟨h,MF q⟩:-1<i)
theorem Fd(h:-1<=i)(q:¬i=-1):i=(i.toNat:Int):=tE (tN h q)
theorem Fe(h:0<i):i=(i.toNat:Int):=tE (Nh h)
theorem Ff(h:15<i):i-16=((i-16).toNat:Int):=tE (Int.sub_nonneg_of_le h)
theorem tX(h:-1-i>i):i<0:=Int.not_le.mp fun q=>absurd (OS q h) (Oe.mpr (Int.sub_nonpos_of_le (NG (by decide) q)))
theorem iV(h:0<=i)(q:i<(n:Int)):i.toNat<n:=(Int.toNat_lt h).mpr q
theorem mK(h:-1<=i)(e:¬i=-1)(q:i<(n:Int)):i.toNat<n:=iV (tN h e) q
theorem AT(h:0<i)(q:i<(n:Int))(e:m=n):i.toNat<m:=aa e (iV (Nh h) q)
theorem D8(h:0<=i)(q:i<(n:Int))(e:m=n):i.toNat<m:=aa e (iV h q)
theorem tB(h:0<=z)(q:z<(n:Int))(l:i<(z.toNat:Int)):i<(n:Int):=Int.lt_trans (aa (tE h) l:i<z) q
theorem vt(h:-1<=z)(e:¬z=-1)(q:z<(n:Int))(l:i<(z.toNat:Int)):i<(n:Int):=tB (tN h e) q l
theorem Fc(h:0<z)(q:z<(n:Int))(l:i<(z.toNat:Int)):i<(n:Int):=tB (Nh h) q l
theorem tM(h:i<(n:Int)):(i+1).toNat<=n:=Int.toNat_le.mpr h
theorem B2(h:i<(n:Int)):(i+1).toNat<n+1:=NR (tM h)
theorem Fn(h:i<(n:Int)):(i+1).toNat<n+m+1:=NR (KF (tM h) (Nz n m))
theorem Fo(h:i<(n:Int))(q:n<=m):(i+1).toNat<=m:=KF (tM h) q
theorem Fp(h:i<(n:Int))(q:n<=1000):0+(i+1).toNat<=1001:=aa (Nk _) (KF (tM h) (MG q))
theorem tP(h:0<=z):(z+1).toNat=z.toNat+1:=Int.toNat_add h (by decide)
theorem tS(h:0<=z)(l:i<(z.toNat:Int))(q:k<=(i+1).toNat):k+1<=(z+1).toNat:=aa (tP h) (Ms (KF q (tM l)))
theorem Fq(h:-1<=z)(e:¬z=-1)(l:i<(z.toNat:Int))(q:k<=(i+1).toNat):k+1<=(z+1).toNat:=tS (tN h e) l q
theorem tF(h:0<=z)(q:(z+1).toNat<n+1)(l:i<(z.toNat:Int)):(i+1).toNat<n:=Lv (tM l) (Om (tP h▸q:z.toNat+1<n+1))
theorem B0(h:-1<=z)(e:¬z=-1)(q:(z+1).toNat<n+1)(l:i<(z.toNat:Int)):(i+1).toNat<n:=tF (tN h e) q l
theorem Fg(h:0<=z)(q:(z+1).toNat<=n+1)(l:i<(z.toNat:Int)):(i+1).toNat<=n:=KF (tM l) (Pf (tP h▸q:z.toNat+1<=n+1))
theorem tC(h:k+((n:Int)+1).toNat<=1001)(l:i<(n:Int)):k+1+(i+1).toNat<=1001:=KF (Mi (tM l) _) (aa (Nat.succ_add k n) h)
theorem tH(h:0<=z)(q:z<(n:Int))(l:i<(z.toNat:Int)):(i+1).toNat<n:=Lv (tM l) (iV h q)
theorem Fk(h:0<=z)(q:z<(n:Int))(l:i<(z.toNat:Int)):(i+1).toNat<n+1:=LG (tH h q l)
theorem tG(h:0<=i)(q:i<(n:Int)):-(n:Int)<=-1-i/\-1-i<(n:Int):=⟨Int.le_sub_right_of_add_le (Int.add_le_of_le_sub_left (by rw[Int.sub_neg,Int.add_comm];exact Int.le_sub_one_of_lt (LR q (Int.le_refl _)))),LR (Int.sub_neg_of_lt (LR (by decide) h)) (K1 n)⟩
theorem tW(h:0<=i)(q:i<32768):(32768*(n:Int)+i)%32768=i:=aa (Int.mul_add_emod_self_left _ _ _) (Int.emod_eq_of_lt h q)
theorem tK(h:n<=k)(q:Nat.ble (k+1) (2^62)=true:=by rfl):(n:Int)<2^62:=LC.mpr (Lv h (KA q))
theorem xQ(h:n<=k)(q:Nat.ble (k+1) (2^63)=true:=by rfl):(n:Int)<2^63:=LC.mpr (Lv h (KA q))
theorem B1(l:j<n)(h:n<=k)(q:Nat.ble (k+1) (2^63)=true:=by rfl):(j:Int)<2^63:=xQ (KF (LD l) h) q
theorem Fl(l:j<n)(h:n<=k)(q:Nat.ble (k+1) (2^63-1)=true:=by rfl):(j:Int)<2^63-1:=LC.mpr (Lv (KF (LD l) h) (KA q))
theorem Fm(e:i=(j:Int))(l:j<n)(h:n<=k)(q:Nat.ble (k+1) (2^63)=true:=by rfl):i<2^63:=aa e (B1 l h q)
theorem tA(h:0<=i)(q:i<z)(o:z<=2^64:=by decide):i.natAbs<2^64:=LC.mp (aa (Int.natAbs_of_nonneg h) (LR q o))
theorem t8(h:i<24):(i-16).toNat<8:=(Int.toNat_lt' (by decide)).mpr (Int.sub_right_lt_of_lt_add h)
theorem tY:((((n:Int)+1)-1))=(n:Int):=Int.add_sub_cancel _ _
theorem Fs:-1+((n:Int)+1)=(n:Int):=by rw[Int.add_comm,Int.add_assoc];exact Int.add_zero _
theorem tU(h:0<=i)(e:i=(n:Int)):-1-(n:Int)<0:=Int.sub_neg_of_lt (LR (by decide) (K1 n))
theorem q1(h:c<b)(e:a=b):c<a:=aa e h
theorem q2(h:c<a)(e:a=b):c<b:=ae e h
theorem q7(h:b<=c)(e:a=b):a<=c:=aa e h
theorem q8(h:a<=c)(e:a=b):b<=c:=ae e h
theorem q9(h:a<b)(g:b<c):a<c:=Mg h g
theorem xN(h:a<b)(g:b<=c):a<c:=K9 h g
theorem EL(h:a<=b)(g:b<c):a<c:=Lv h g
theorem BQ(h:a<=b)(g:b<=c):a<=c:=KF h g
theorem BR(h:a<b):a+1<=b:=h
theorem AK(h:a<=b):a<b+1:=NR h
theorem EM(h:a<b):a<b+1:=LG h
theorem AL(h:a+1<=b):a<=b:=Nat.le_of_succ_le h
theorem EN(h:a<b)(g:b<=a):False:=Nat.not_le_of_lt h g
theorem iR(h:a+b<c):a<c:=Lv (Nz a b) h
theorem EO(h:¬a<b):b<=a:=OD h
theorem z1(h:i<y)(g:y<z):i<z:=Int.lt_trans h g
theorem z4(h:i<=y)(g:y<=z):i<=z:=NG h g
theorem z6(h:i<y)(e:i=y):False:=absurd h (Oe.mpr (Int.le_of_eq e.symm))
theorem vG(h:i<(n:Int))(g:n<m):i<(m:Int):=Int.lt_trans h (LC.mpr g)
theorem pY(h:i<(n:Int))(e:m=n):i<(m:Int):=aa e h
theorem A1(h:i<(n:Int)):i<((n+1:Nat):Int):=Int.lt_trans h (LC.mpr (LP n))
theorem xR(h:n<m):(n:Int)<(m:Int):=LC.mpr h
theorem FV(h:(n:Int)<(m:Int)):n<m:=LC.mp h
theorem A3(h:i<(n:Int))(g:n<m)(e:k=m):i<(k:Int):=aa e (vG h g)
theorem iW:0<=(n:Int):=K1 n
theorem B7:0+(n:Int)*1=(n:Int):=by rw[Int.mul_one,Int.zero_add]
theorem B8(h:0<=i):-1<=i:=NG (by decide) h
theorem pE(h:k+1<=n):n≠0:=Mh (K9 (MN k) h)
theorem BS{P:Prop}(e:n=0)(h:k+1<=n):P:=absurd e (pE h)
theorem BU(h:i<65536):i<16*4096:=h
theorem EP(h:i<32768):i<8*4096:=h
theorem BV(h:i<8):i<4*2:=h
theorem EQ(h:i<16):i<2*8:=h
theorem AM(h:0<n):¬n=0:=Mh h
theorem ER(h:¬1<n):¬(1:Int)<(n:Int):=fun q=>h (LC.mp q)
theorem ES(h:k+1<=n)(q:a+n<c):a+1+(n-1)<c:=aa (Nat.add_assoc a 1 _) (aa (sD (K9 (MN k) h)) q)
theorem ET(h:k+1<=n)(q:a+20*n<c):a+1+20*(n-1)<c:=by
 obtain⟨x,rfl⟩:=Nat.exists_eq_add_of_le h;refine Lv ?_ q;show a+1+20*(k+1+x-1)<=_;rw[Nat.add_right_comm k,OW];exact L0 [a,k,x] (.a (.a V0 W1) (.m 20 (.a V1 V2))) (.a V0 (.m 20 (.a (.a V1 V2) W1))) rfl
theorem EU(h:n<=16777216):¬(n:Int)≥2^63:=Int.not_le.mpr (LC.mpr (Lv h (KA rfl)))
theorem BW(h:n<=100000):(n:Int)<9223372036854775808:=LC.mpr (Lv h (KA rfl))
theorem EV(e:i=(n:Int)):0<=i:=aa e (K1 n)
theorem BX(h:0<=i):-(n:Int)<=i:=NG (Int.neg_nonpos_of_nonneg (K1 n)) h
theorem EW(h:-1<=i)(q:i<(n:Int))(e:¬i=-1):0<=i/\i<(n:Int):=⟨tN h e,q⟩
theorem BY:(((n:Int)-0).toNat:Int)=(n:Int):=by rw[Int.sub_zero];rfl
theorem EX(h:n<9)(e:¬n=8):n<=7:=No (OX (No h) e)
theorem EY(h:n+m=14)(g:1<=m):¬((1:Nat):Int)>((14:Nat):Int)-(n:Int):=by
 rw[←h,Int.natCast_add,Int.add_comm,Int.add_sub_cancel];exact Oe.mpr (NH.mpr g)
theorem EZ(h:n+m=14)(g:1<=m):min 4294967295 (((14:Nat):Int)-(n:Int)).toNat=m:=by
 rw[show (((14:Nat):Int)-(n:Int))=(m:Int) by rw[←h,Int.natCast_add,Int.add_comm,Int.add_sub_cancel]];exact Nat.min_eq_right (KF (KF (Oi m n) (Md h)) (KA rfl))
theorem E0(h:n=45∨n=63):¬(n=98∨n=99∨n=100∨n=108∨n=112∨n=115):=by rcases h with rfl|rfl<;>decide
theorem BZ(h:n+1+1+1<=2){P:Prop}:P:=absurd h (Nat.not_le_of_lt (Oi 3 n))
theorem E1(h:k+1<=0){P:Prop}:P:=absurd h (OE k)
theorem E4:¬n+(m+1)<1:=fun h=>LK _ (Om h)
theorem E5(hz:b<=100)(h:a<=b)(e:n=a):n<=100/\b<=100/\a<=100:=⟨aa e (KF h hz),hz,KF h hz⟩
theorem E6(q:i=2-(j:Int)):9+i<=1000000:=aa q (NG (Int.add_le_add_left (Int.sub_le_self 2 (K1 j)) 9) (by decide))
theorem E7(h:0<=i):0<=9+i:=Int.add_nonneg (by decide) h
theorem E8(h:0<=i)(q:0<=ab)(r:0<=f)(s:0<=g):0<=i*16+f*4+ab+g:=Int.add_nonneg (Int.add_nonneg (Int.add_nonneg (Int.mul_nonneg h (by decide)) (Int.mul_nonneg r (by decide))) q) s
end
section
variable(c:List Nat)(g h:T)(k:Nat)(l r:T)(TC:Nat)(l₂ SK:T)(UF:Nat)(RC UG:T)(VX:Nat)(R5 VZ:T)(Xj:Nat)(Xk Xl:T)
theorem L5(o:lA c.length (.a (.a (.a (.a (.a g (.m k r)) (.m TC SK)) (.m UF UG)) (.m VX VZ)) (.m Xj Xl)) (.a (.a (.a (.a (.a h (.m k l)) (.m TC l₂)) (.m UF RC)) (.m VX R5)) (.m Xj Xk))=true)(q:l.d c<=r.d c)(Wx:l₂.d c<=SK.d c)(VS:RC.d c<=UG.d c)(VY:R5.d c<=VZ.d c)(XZ:Xk.d c<=Xl.d c):g.d c<=h.d c:=
 Mz (KF (L4 c (.a g (.m k r)) (.a h (.m k l)) TC l₂ SK UF RC UG VX R5 VZ Xj Xk Xl o Wx VS VY XZ:g.d c+k*r.d c<=h.d c+k*l.d c) (Mi (Mj k q) _))
variable(XV:Nat)(XW X0:T)
theorem L6(o:lA c.length (.a (.a (.a (.a (.a (.a g (.m k r)) (.m TC SK)) (.m UF UG)) (.m VX VZ)) (.m Xj Xl)) (.m XV X0)) (.a (.a (.a (.a (.a (.a h (.m k l)) (.m TC l₂)) (.m UF RC)) (.m VX R5)) (.m Xj Xk)) (.m XV XW))=true)(q:l.d c<=r.d c)(Wx:l₂.d c<=SK.d c)(VS:RC.d c<=UG.d c)(VY:R5.d c<=VZ.d c)(XZ:Xk.d c<=Xl.d c)(q₆:XW.d c<=X0.d c):g.d c<=h.d c:=
 Mz (KF (L5 c (.a g (.m k r)) (.a h (.m k l)) TC l₂ SK UF RC UG VX R5 VZ Xj Xk Xl XV XW X0 o Wx VS VY XZ q₆:g.d c+k*r.d c<=h.d c+k*l.d c) (Mi (Mj k q) _))
end
section
variable{a b c d j k l m n p r:Nat}{i y z:Int}
theorem u1:(1:Int)<=(n:Int)+1:=Int.le_add_of_nonneg_left (K1 n)
theorem u2:(-1+((n:Int)+1)).toNat=n:=aa Fs rfl
theorem u3(h:j<n):(0<=(if (j:Int)<0 then(j:Int)+n else j)/\(if (j:Int)<0 then(j:Int)+n else j)<(n:Int))/\(if (j:Int)<0 then(j:Int)+n else j).toNat=j:=
 aa (KM (Oe.mpr (K1 j))) ⟨⟨K1 j,LC.mpr h⟩,rfl⟩
theorem Fh(h:0<i)(q:i<(n:Int)):-(n:Int)<=-1-i/\-1-i<(n:Int):=tG (Nh h) q
theorem Fj(e:m=n)(h:0<=i)(q:i<(m:Int)):-(n:Int)<=-1-i/\-1-i<(n:Int):=tG h (ae e q)
theorem u5(h:n<m+1)(e:¬n=m):n<m:=OX (No h) e
theorem u6:(n:Int)<((n+1:Nat):Int):=LC.mpr (LP n)
theorem u7(h:0<n)(e:m=0↔n=0):0<m:=NJ fun q=>Mh h (e.mp q)
theorem u8(e:n=0)(q:i<(n:Int))(h:-1<=i):i=-1:=ON (Int.le_of_lt_add_one (e▸q:i<((0:Nat):Int))) h
theorem u9(h:-1<=i)(q:i<((0:Nat):Int)):i=-1:=ON (Int.le_of_lt_add_one q) h
theorem B5(h:-1<=i)(q:i<0):i=-1:=ON (Int.le_of_lt_add_one q) h
theorem Ft(h:n<m)(q:i<32768):32768*(n:Int)+i<32768*(m:Int):=
 LR (Int.add_lt_add_left q _) (show 32768*(n:Int)+32768<=32768*(m:Int) from NH.mpr (Mj 32768 h))
theorem Fu(h:i<y):32768*(n:Int)+i<32768*(n:Int)+y:=Int.add_lt_add_left h _
theorem Fv(h:y<32768*(n:Int))(q:0<=i):y<32768*(n:Int)+i:=LR h (Int.le_add_of_nonneg_right q)
theorem B6:-1-(-1-(n:Int))=(n:Int):=Int.sub_sub_self (-1) n
theorem Fw:¬ -1-(n:Int)>(n:Int):=fun h=>Int.not_le.mpr (tX h) (K1 n)
theorem Fy:-1-(-1-(n:Int))>-1-(n:Int):=aa B6 (LR (Int.sub_neg_of_lt (LR (by decide) (K1 n))) (K1 n))
theorem Fz:¬(n:Int)<0:=Oe.mpr (K1 n)
theorem FA(h:0<=i):¬i=-1:=fun e=>absurd (e▸h:(0:Int)<=-1) (by decide)
theorem FB(h:0<=z)(q:i<(z.toNat:Int))(g:y<=i):y<=z:=Nh (OS g (aa (tE h) q:i<z))
theorem FC(h:-1<=z)(e:¬z=-1)(q:i<(z.toNat:Int))(g:y<=i):y<=z:=FB (tN h e) q g
theorem FD(h:0<=i)(q:(i+1).toNat<=0){P:Prop}:P:=absurd (KF (Md (tP h).symm) q) (OE _)
theorem FE(e:i=(n:Int))(q:y<(n:Int))(g:z<=y):z≠i:=fun h=>Int.not_le.mpr (OS g q) (Int.le_of_eq (h.trans e).symm)
theorem FF(e:n/4096=m/4096):(n:Int)/4096=(m:Int)/4096:=congrArg Int.ofNat e
theorem FH(e:(n:Int)/4096=(m:Int)/4096):n/4096=m/4096:=Int.ofNat.inj e
theorem FI(q:i=2-(j:Int))(h:0<=i):j<=2:=NH.mp (Int.sub_nonneg.mp (ae q h))
theorem FJ(q:i=2-(j:Int))(h:0<=i):j=0∨j=1∨j=2:=BP (NR (FI q h))
theorem FK(h:(n:Int)<(m:Int)):m=m-1+1:=sQ (Lv (K0 n) (LC.mp h))
theorem FL(h:(n:Int)<((m+1:Nat):Int))(g:i<(n:Int)):i<(m:Int):=LR g (NH.mpr (No (LC.mp h)))
theorem FM(a:0<=i)(b:i<=7){c d:Int}(f:y<=i*16+15)(g:c<=y*16+15)(h:0<=d)(k:d<=c*16+15):0<=d/\d<32768:=
 ⟨h,OS (NG k (Int.add_le_add_right (Od (NG g (Int.add_le_add_right (Od (NG f (Int.add_le_add_right (Od b (by decide)) 15)) (by decide)) 15)) (by decide)) 15)) (by decide)⟩
theorem FN(h:-(n:Int)<=i)(q:i<(n:Int)):-((n+1:Nat):Int)<=i/\i<((n+1:Nat):Int):=⟨NG (Int.neg_le_neg (NH.mpr (MD n))) h,A1 q⟩
theorem FO:-((n+1:Nat):Int)<=(n:Int)/\(n:Int)<((n+1:Nat):Int):=⟨BX (K1 n),u6⟩
theorem FP:-((n+1:Nat):Int)<=-((n+1:Nat):Int)/\-((n+1:Nat):Int)<((n+1:Nat):Int):=⟨Int.le_refl _,LR (Int.neg_neg_of_pos (LC.mpr (MN n))) (K1 _)⟩
theorem FQ(h:0<=i)(q:i<32768):-1<=i/\i<32768:=⟨B8 h,q⟩
theorem AY(h:a<16)(g:b<16)(f:c<16):(((n*16+a)*16+b)*16+c)<(n+1)*4096/\n*4096<=(((n*16+a)*16+b)*16+c):=
 ⟨K9 (OM f _) (by
  rw[←Nat.succ_mul,show 4096=256*16 from rfl,←Nat.mul_assoc];refine MV 16 (KF (OM g _) ?_);rw[←Nat.succ_mul,show 256=16*16 from rfl,←Nat.mul_assoc];refine MV 16 (KF (OM h _) ?_);rw[←Nat.succ_mul];exact KZ _),by
  rw[show 4096=16*16*16 from rfl,←Nat.mul_assoc,←Nat.mul_assoc];exact KF (MV 16 (KF (MV 16 (Nz _ a)) (Nz _ b))) (Nz _ c)⟩
theorem FS(h:a<16)(g:b<16)(f:c<16):(((n*16+a)*16+b)*16+c)/4096=n:=Nat.div_eq_of_lt_le (AY h g f).2 (AY h g f).1
theorem FT(h:a<16)(g:b<16)(f:c<16)(q:k=4↔n/4096=4):((n/4096*4096:Nat):Int)=16384↔((((k*16+a)*16+b)*16+c:Nat):Int)/4096=4:=by
 rw[show ((((k*16+a)*16+b)*16+c:Nat):Int)/4096=(k:Int) from congrArg Int.ofNat (FS h g f)];refine⟨fun e=>Int.ofNat_inj.mpr (q.mpr (Nat.eq_of_mul_eq_mul_right (MN 4095) (Int.ofNat_inj.mp e))),fun e=>?_⟩;rw[q.mp (Int.ofNat_inj.mp e)]
 rfl
theorem FU(h:n<4096):(16384+n)/4096=4:=Nat.div_eq_of_lt_le (Nz _ n) (OM h 16384)
end
theorem tV(h:k+1<=j)(g:d+j<r):d+1+k<r:=Lv (Md (Nat.add_right_comm d 1 k)) (Lv (Mi h d) g)
theorem vw(h:k+1<=j)(g:d+20*j<r):d+3+20*k<r:=by exact L2 [d,j,k,r] (.a (.a (.a V0 (.n 3)) (.m 20 V2)) W1) V3 20 (.a V2 W1) V1 1 (.a (.a V0 (.m 20 V1)) W1) V3 rfl h g
abbrev PR:Program:=PySem.Challenge.pw_pk0128_01
noncomputable def eQ (i:Nat):Stmt:=(PR.main.body[i]?).getD (.Pass ⟨0,0,0,0⟩)
noncomputable def fn (i j:Nat):Stmt:=match eQ i with
 | .ClassDef _ _ _ b _ _ _ _ _ _ _=>(b[j]?).getD (.Pass ⟨0,0,0,0⟩)
 |s=>s
noncomputable def Em (name qual:Str) (globals:Addr) (closure:List (Str×Addr)) (defaults kwdefaults doc pm:Value) (an:Option Addr) (code ct:Value) (builtins:Addr):Stmt->Obj
 | .FunctionDef _ a b _ _ _ sc _ _ _=>⟨.type "function",none, .func {name:=name,qualname:=qual,params:=a,body:= .stmts b,scope:=sc,globals:=globals,closure:=closure,defaults:=defaults,kwdefaults:=kwdefaults,doc:=doc,pyModule:=pm,annotations:=an,code:=code,closureTuple:=ct,builtins:=builtins},#[]⟩
 |_=>default
def dE(P:Params)(s:String)(t:Nat)(v:Value):DictEntry:=⟨PyData.keyHash P (Yc s), .str (Yc s) t,v⟩
def cO(n q:String)(t:Nat)(l p k f:Int)(a u:Nat):Obj:=⟨.type "code",none, .fields #[.str (Yc n) t, .str (Yc q) (t+1), .str (Yc "/claim/cut.py") (t+2), .int l 0, .int p 0, .int 0 0, .int k 0, .int f 0, .ref (a-5), .bool true, .int 276 0, .ref (a-4), .none, .ref (a-3), .ref (a-2), .ref (a-1), .int u 0, .int l 0, .str (Yc "/claim/cut.py") (u+1)],#[]⟩
def mF(n q:String)(d k m:Value)(c:Nat)(s:Stmt):Obj:=Em (Yc n) (Yc q) 3 [] d k .none m none (.ref c) .none 0 s
def Ej:Value:=(.str (Yc "__main__") 164)
def fS:Value:=(.str (Yc "cpy313.xml.etree.ElementTree") 289)
def Ai:Value:=(.str (Yc "cpy313.stat") 539)
def ju:Value:=(.str (Yc "law_pk0128_01") 631)
def o2(P:Params):Obj:=⟨.none,none,(.dict #[dE P "\x69mport.loaded._sre" 183 (.bool true),dE P "class._frozen_importlib.BuiltinImporter" 185 (.ref 14),dE P "watched.\x69mport" 206 (.ref 18),dE P "class._frozen_importlib.ModuleSpec" 216 (.ref 22),dE P "sys.modules.booked-epoch" 245 (.int (3) 0),dE P "\x69mport.later-laid._sre" 270 (.bool true),dE P "watched.library" 272 (.ref 27),dE P "watched.library-objects" 0 (.str (Yc "\x0c") 0),dE P "watched.library-deep._sre" 273 (.str (Yc "\x04\x00\x00\x0b\x04\x00\x00\x0b\x04\x00\x00\x03\x04\x00\x00\x0b\x08\x04dict\x02") 0)] 9),#[]⟩
def o3(P:Params):Obj:=⟨(.type "dict"),none,(.dict #[dE P "__name__" 165 (.str (Yc "law_pk0128_01") 631),dE P "__doc__" 166 .none,dE P "__package__" 167 .none,dE P "__loader__" 168 (.builtin "__main__.__loader__#opaque"),dE P "__spec__" 169 .none,dE P "__annotations__" 170 (.ref 6),dE P "__builtins__" 171 (.ref 4),dE P "__file__" 173 (.str (Yc "/claim/cut.py") 172),dE P "__cached__" 174 .none,dE P "_sre" 275 (.ref 12),dE P "_wall" 288 (.ref 38),dE P "_twin_re_1" 328 (.ref 43),dE P "_namespace_map" 350 (.ref 44),dE P "_raise_serialization_error" 357 (.ref 51),dE P "_looks_like_prefix_name" 359 (.ref 52),dE P "C14NWriterTarget" 524 (.ref 150),dE P "_escape_cdata_c14n" 531 (.ref 161),dE P "_escape_attrib_c14n" 538 (.ref 168),dE P "S_IFMT" 547 (.ref 175),dE P "S_IFDIR" 549 (.int (16384) 548),dE P "S_IFCHR" 551 (.int (8192) 550),dE P "S_IFBLK" 553 (.int (24576) 552),dE P "S_IFREG" 555 (.int (32768) 554),dE P "S_IFIFO" 557 (.int (4096) 556),dE P "S_IFLNK" 559 (.int (40960) 558),dE P "S_IFSOCK" 561 (.int (49152) 560),dE P "S_ISDIR" 568 (.ref 182),dE P "S_ISUID" 570 (.int (2048) 569),dE P "S_ISGID" 572 (.int (1024) 571),dE P "S_ISVTX" 574 (.int (512) 573),dE P "S_IRUSR" 576 (.int (256) 575),dE P "S_IWUSR" 578 (.int (128) 577),dE P "S_IXUSR" 580 (.int (64) 579),dE P "S_IRGRP" 582 (.int (32) 581),dE P "S_IWGRP" 584 (.int (16) 583),dE P "S_IXGRP" 586 (.int (8) 585),dE P "S_IROTH" 588 (.int (4) 587),dE P "S_IWOTH" 590 (.int (2) 589),dE P "S_IXOTH" 592 (.int (1) 591),dE P "_filemode_table" 618 (.ref 215),dE P "filemode" 630 (.ref 222),dE P "_law_mode" 641 (.ref 229),dE P "_law_name" 648 (.ref 236),dE P "_law_tell" 661 (.ref 243),dE P "_law_told" 667 (.ref 248),dE P "_law_code" 678 (.ref 255),dE P "_law_row" 688 (.ref 262),dE P "_law_chain" 697 (.ref 269),dE P "_law_text" 703 (.ref 274),dE P "_law_due" 709 (.ref 279),dE P "law" 715 (.ref 284)] 51),#[]⟩
def Ep:Obj:=cO "_wall" "_wall" 282 2 1 0 3 37 286
def DQ:{o:Obj//mF "_wall" "_wall" .none .none Ej 37 (eQ 1)=o}:=by
 refine⟨?b,?h⟩
 case h=>conv=>lhs;whnf
def Er:Obj:=DQ.1
noncomputable def Av:Obj:=⟨(.type "tuple"),none,(.seq #[(.int (14) 0),(.int (4) 0),(.int (0) 0),(.int (3) 0),(.int (4294967295) 0),(.int (6) 0),(.int (0) 0),(.int (24) 0),(.int (9) 0),(.int (1) 0),(.int (4294967295) 0),(.int (13) 0),(.int (4) 0),(.int (8) 0),(.int (14) 0),(.int (0) 0),(.int (1) 0),(.int (16) 0),(.int (58) 0),(.int (24) 0),(.int (9) 0),(.int (1) 0),(.int (4294967295) 0),(.int (13) 0),(.int (4) 0),(.int (8) 0),(.int (14) 0),(.int (0) 0),(.int (1) 0),(.int (6) 0),(.int (5) 0),(.int (1) 0)] 0),#[]⟩
def Aw:Obj:=⟨(.type "re.Pattern"),none,(.fields #[(.str (Yc "^\\w+:\\w+$") 292),(.int (32) 327),(.int (0) 0), .none, .none,(.ref 42),(.int (0) 0)]),#[]⟩
def Es(P:Params):Obj:=⟨(.type "dict"),none,(.dict #[dE P "http://www.w3.org/XML/1998/namespace" 329 (.str (Yc "xml") 330),dE P "http://www.w3.org/1999/xhtml" 331 (.str (Yc "html") 332),dE P "http://www.w3.org/1999/02/22-rdf-syntax-ns#" 333 (.str (Yc "rdf") 334),dE P "http://schemas.xmlsoap.org/wsdl/" 335 (.str (Yc "wsdl") 336),dE P "http://www.w3.org/2001/XMLSchema" 337 (.str (Yc "xs") 338),dE P "http://www.w3.org/2001/XMLSchema-\x69nstance" 339 (.str (Yc "xsi") 340),dE P "http://purl.org/dc/elements/1.1/" 341 (.str (Yc "dc") 342)] 7),#[]⟩
def Et:Obj:=cO "_raise_serialization_error" "_raise_serialization_error" 351 8 1 0 3 50 355
def DR:{o:Obj//mF "_raise_serialization_error" "_raise_serialization_error" .none .none fS 50 (eQ 5)=o}:=by
 refine⟨?b,?h⟩
 case h=>conv=>lhs;whnf
def Eu:Obj:=DR.1
noncomputable def Ax:Obj:=⟨(.type "builtin_function_or_method"),none,(.fields #[(.builtin "re.Pattern.match"),(.ref 43)]),#[]⟩
def BN(P:Params):Obj:=⟨(.type "dict"),none,(.dict #[dE P "with_comments" 372 (.bool false),dE P "strip_text" 373 (.bool false),dE P "rewrite_prefixes" 374 (.bool false),dE P "qname_aware_tags" 375 .none,dE P "qname_aware_attrs" 376 .none,dE P "exclude_attrs" 377 .none,dE P "exclude_tags" 378 .none] 7),#[]⟩
def Ev:Obj:=cO "__init__" "C14NWriterTarget.__init__" 379 13 2 7 3 66 391
def DT:{o:Obj//mF "__init__" "C14NWriterTarget.__init__" .none (.ref 60) fS 66 (fn 7 0)=o}:=by
 refine⟨?b,?h⟩
 case h=>conv=>lhs;whnf
def Ew:Obj:=DT.1
noncomputable def Ex:Obj:=⟨(.type "tuple"),none,(.seq #[(.type "reversed")] 0),#[]⟩
def Ey:Obj:=cO "_iter_namespaces" "C14NWriterTarget._iter_namespaces" 394 41 3 0 35 74 401
def DU:{o:Obj//mF "_iter_namespaces" "C14NWriterTarget._iter_namespaces" (.ref 68) .none fS 74 (fn 7 1)=o}:=by
 refine⟨?b,?h⟩
 case h=>conv=>lhs;whnf
def Ez:Obj:=DU.1
def EA:Obj:=cO "_resolve_prefix_name" "C14NWriterTarget._resolve_prefix_name" 404 46 2 0 3 81 413
def DV:{o:Obj//mF "_resolve_prefix_name" "C14NWriterTarget._resolve_prefix_name" .none .none fS 81 (fn 7 2)=o}:=by
 refine⟨?b,?h⟩
 case h=>conv=>lhs;whnf
def EB:Obj:=DV.1
noncomputable def EC:Obj:=⟨(.type "tuple"),none,(.seq #[.none] 0),#[]⟩
def ED:Obj:=cO "_qname" "C14NWriterTarget._qname" 416 53 3 0 3 89 426
def DW:{o:Obj//mF "_qname" "C14NWriterTarget._qname" (.ref 83) .none fS 89 (fn 7 3)=o}:=by
 refine⟨?b,?h⟩
 case h=>conv=>lhs;whnf
def EE:Obj:=DW.1
def EF:Obj:=cO "data" "C14NWriterTarget.data" 429 80 2 0 3 96 434
def DX:{o:Obj//mF "data" "C14NWriterTarget.data" .none .none fS 96 (fn 7 4)=o}:=by
 refine⟨?b,?h⟩
 case h=>conv=>lhs;whnf
def EG:Obj:=DX.1
def Ay:Obj:=⟨(.type "builtin_function_or_method"),none,(.fields #[(.builtin "str.join"),(.str (Yc "") 437)]),#[]⟩
noncomputable def EH:Obj:=⟨(.type "tuple"),none,(.seq #[(.ref 98)] 0),#[]⟩
def Ck:Obj:=cO "_flush" "C14NWriterTarget._flush" 439 84 2 0 3 105 447
def Bd:{o:Obj//mF "_flush" "C14NWriterTarget._flush" (.ref 99) .none fS 105 (fn 7 5)=o}:=by
 refine⟨?b,?h⟩
 case h=>conv=>lhs;whnf
def Cm:Obj:=Bd.1
def Cn:Obj:=cO "start_ns" "C14NWriterTarget.start_ns" 450 98 3 0 3 112 456
def Be:{o:Obj//mF "start_ns" "C14NWriterTarget.start_ns" .none .none fS 112 (fn 7 6)=o}:=by
 refine⟨?b,?h⟩
 case h=>conv=>lhs;whnf
def Co:Obj:=Be.1
def Cp:Obj:=cO "start" "C14NWriterTarget.start" 459 105 3 0 3 119 466
def Bf:{o:Obj//mF "start" "C14NWriterTarget.start" .none .none fS 119 (fn 7 7)=o}:=by
 refine⟨?b,?h⟩
 case h=>conv=>lhs;whnf
def Cq:Obj:=Bf.1
def Cr:Obj:=⟨(.type "tuple"),none,(.seq #[.none] 0),#[]⟩
def Cs:Obj:=⟨(.type "code"),none,(.fields #[(.str (Yc "_start") 469),(.str (Yc "C14NWriterTarget._start") 470),(.str (Yc "/claim/cut.py") 471),(.int (118) 0),(.int (5) 0),(.int (0) 0),(.int (0) 0),(.int (3) 0),(.ref 122),(.bool true),(.int (276) 0),(.ref 123), .none, .none, .none,(.ref 124),(.int (472) 0),(.int (118) 0),(.str (Yc "/claim/cut.py") 473)]),#[]⟩
def Bg:{o:Obj//mF "_start" "C14NWriterTarget._start" (.ref 121) .none fS 125 (fn 7 8)=o}:=by
 refine⟨?b,?h⟩
 case h=>conv=>lhs;whnf
def Ct:Obj:=Bg.1
def Cu:Obj:=cO "end" "C14NWriterTarget.end" 475 163 2 0 3 132 480
def Bh:{o:Obj//mF "end" "C14NWriterTarget.end" .none .none fS 132 (fn 7 9)=o}:=by
 refine⟨?b,?h⟩
 case h=>conv=>lhs;whnf
def Cv:Obj:=Bh.1
def Cw:Obj:=cO "comment" "C14NWriterTarget.comment" 483 175 2 0 3 139 488
def Bi:{o:Obj//mF "comment" "C14NWriterTarget.comment" .none .none fS 139 (fn 7 10)=o}:=by
 refine⟨?b,?h⟩
 case h=>conv=>lhs;whnf
def Cx:Obj:=Bi.1
def Cy:Obj:=cO "pi" "C14NWriterTarget.pi" 491 178 3 0 3 146 497
def Bj:{o:Obj//mF "pi" "C14NWriterTarget.pi" .none .none fS 146 (fn 7 11)=o}:=by
 refine⟨?b,?h⟩
 case h=>conv=>lhs;whnf
def Cz:Obj:=Bj.1
def CA:Obj:=⟨(.type "tuple"),none,(.seq #[(.str (Yc "_data") 500),(.str (Yc "_declared_ns_stack") 501),(.str (Yc "_exclude_attrs") 502),(.str (Yc "_exclude_tags") 503),(.str (Yc "_find_qname_aware_attrs") 504),(.str (Yc "_ignored_depth") 505),(.str (Yc "_ns_stack") 506),(.str (Yc "_pending_start") 507),(.str (Yc "_prefix_map") 508),(.str (Yc "_preserve_space") 509),(.str (Yc "_qname_aware_tags") 510),(.str (Yc "_rewrite_prefixes") 511),(.str (Yc "_root_done") 512),(.str (Yc "_root_seen") 513),(.str (Yc "_strip_text") 514),(.str (Yc "_with_comments") 515),(.str (Yc "_write") 516)] 0),#[]⟩
def CB(P:Params):Obj:=⟨(.type "dict"),none,(.dict #[dE P "__module__" 367 (.str (Yc "cpy313.xml.etree.ElementTree") 289),dE P "__firstlineno__" 371 (.int (11) 370),dE P "__init__" 393 (.ref 67),dE P "_iter_namespaces" 403 (.ref 75),dE P "_resolve_prefix_name" 415 (.ref 82),dE P "_qname" 428 (.ref 90),dE P "data" 436 (.ref 97),dE P "_flush" 449 (.ref 106),dE P "start_ns" 458 (.ref 113),dE P "start" 468 (.ref 120),dE P "_start" 474 (.ref 126),dE P "end" 482 (.ref 133),dE P "comment" 490 (.ref 140),dE P "pi" 499 (.ref 147),dE P "__static_attributes__" 517 (.ref 148),dE P "__dict__" 519 (.ref 151),dE P "__weakref__" 521 (.ref 152),dE P "__doc__" 522 .none] 4),#[]⟩
def CC:Obj:=⟨(.type "type"),none,(.cls {name:=(Yc "C14NWriterTarget"),bases:=[(.type "object")],mro:=[(.ref 150),(.type "object")],ns:=149,qualname:=(Yc "C14NWriterTarget"),hasDict:=true,slotNames:=[],subclasses:=[],abstract:=false,collection:=none,hasDel:=false}),#[none,none,(some (.str (Yc "C14NWriterTarget") 360)),(some (.str (Yc "C14NWriterTarget") 368)),(some (.builtin "object.__new__")),(some (.bool true))]⟩
def CD:Obj:=⟨(.type "getset_descriptor"),none,(.fields #[(.str (Yc "__dict__") 518),(.ref 150),(.builtin "function.__dict__"),(.builtin "function.__dict__#set")]),#[]⟩
def CE:Obj:=⟨(.type "getset_descriptor"),none,(.fields #[(.str (Yc "__weakref__") 520),(.ref 150),(.builtin "ExceptionGroup.__weakref__"), .none]),#[]⟩
def CF:Obj:=cO "_escape_cdata_c14n" "_escape_cdata_c14n" 525 180 1 0 3 160 529
def Bk:{o:Obj//mF "_escape_cdata_c14n" "_escape_cdata_c14n" .none .none fS 160 (eQ 8)=o}:=by
 refine⟨?b,?h⟩
 case h=>conv=>lhs;whnf
def CG:Obj:=Bk.1
def CH:Obj:=cO "_escape_attrib_c14n" "_escape_attrib_c14n" 532 193 1 0 3 167 536
def Bl:{o:Obj//mF "_escape_attrib_c14n" "_escape_attrib_c14n" .none .none fS 167 (eQ 9)=o}:=by
 refine⟨?b,?h⟩
 case h=>conv=>lhs;whnf
def CI:Obj:=Bl.1
def CJ:Obj:=cO "S_IFMT" "S_IFMT" 541 211 1 0 3 174 545
def Bm:{o:Obj//mF "S_IFMT" "S_IFMT" .none .none Ai 174 (eQ 11)=o}:=by
 refine⟨?b,?h⟩
 case h=>conv=>lhs;whnf
def CK:Obj:=Bm.1
def CM:Obj:=cO "S_ISDIR" "S_ISDIR" 562 220 1 0 3 181 566
def Bn:{o:Obj//mF "S_ISDIR" "S_ISDIR" .none .none Ai 181 (eQ 19)=o}:=by
 refine⟨?b,?h⟩
 case h=>conv=>lhs;whnf
def CN:Obj:=Bn.1
def CO:Obj:=⟨(.type "tuple"),none,(.seq #[(.int (40960) 558),(.str (Yc "l") 593)] 0),#[]⟩
def CP:Obj:=⟨(.type "tuple"),none,(.seq #[(.int (49152) 560),(.str (Yc "s") 594)] 0),#[]⟩
def CQ:Obj:=⟨(.type "tuple"),none,(.seq #[(.int (32768) 554),(.str (Yc "-") 595)] 0),#[]⟩
def CR:Obj:=⟨(.type "tuple"),none,(.seq #[(.int (24576) 552),(.str (Yc "b") 596)] 0),#[]⟩
def CS:Obj:=⟨(.type "tuple"),none,(.seq #[(.int (16384) 548),(.str (Yc "d") 597)] 0),#[]⟩
def CT:Obj:=⟨(.type "tuple"),none,(.seq #[(.int (8192) 550),(.str (Yc "c") 598)] 0),#[]⟩
def CU:Obj:=⟨(.type "tuple"),none,(.seq #[(.int (4096) 556),(.str (Yc "p") 599)] 0),#[]⟩
noncomputable def CV:Obj:=⟨(.type "tuple"),none,(.seq #[(.ref 183),(.ref 184),(.ref 185),(.ref 186),(.ref 187),(.ref 188),(.ref 189)] 0),#[]⟩
def CW:Obj:=⟨(.type "tuple"),none,(.seq #[(.int (256) 575),(.str (Yc "r") 600)] 0),#[]⟩
noncomputable def CX:Obj:=⟨(.type "tuple"),none,(.seq #[(.ref 191)] 0),#[]⟩
def CY:Obj:=⟨(.type "tuple"),none,(.seq #[(.int (128) 577),(.str (Yc "w") 601)] 0),#[]⟩
noncomputable def CZ:Obj:=⟨(.type "tuple"),none,(.seq #[(.ref 193)] 0),#[]⟩
def C0:Obj:=⟨(.type "tuple"),none,(.seq #[(.int (2112) 602),(.str (Yc "s") 603)] 0),#[]⟩
def C1:Obj:=⟨(.type "tuple"),none,(.seq #[(.int (2048) 569),(.str (Yc "S") 604)] 0),#[]⟩
def C5:Obj:=⟨(.type "tuple"),none,(.seq #[(.int (64) 579),(.str (Yc "x") 605)] 0),#[]⟩
noncomputable def C6:Obj:=⟨(.type "tuple"),none,(.seq #[(.ref 195),(.ref 196),(.ref 197)] 0),#[]⟩
def C7:Obj:=⟨(.type "tuple"),none,(.seq #[(.int (32) 581),(.str (Yc "r") 606)] 0),#[]⟩
noncomputable def C8:Obj:=⟨(.type "tuple"),none,(.seq #[(.ref 199)] 0),#[]⟩
def C9:Obj:=⟨(.type "tuple"),none,(.seq #[(.int (16) 583),(.str (Yc "w") 607)] 0),#[]⟩
noncomputable def Db:Obj:=⟨(.type "tuple"),none,(.seq #[(.ref 201)] 0),#[]⟩
def Dc:Obj:=⟨(.type "tuple"),none,(.seq #[(.int (1032) 608),(.str (Yc "s") 609)] 0),#[]⟩
def De:Obj:=⟨(.type "tuple"),none,(.seq #[(.int (1024) 571),(.str (Yc "S") 610)] 0),#[]⟩
def Dg:Obj:=⟨(.type "tuple"),none,(.seq #[(.int (8) 585),(.str (Yc "x") 611)] 0),#[]⟩
noncomputable def Di:Obj:=⟨(.type "tuple"),none,(.seq #[(.ref 203),(.ref 204),(.ref 205)] 0),#[]⟩
def Dj:Obj:=⟨(.type "tuple"),none,(.seq #[(.int (4) 587),(.str (Yc "r") 612)] 0),#[]⟩
noncomputable def Dk:Obj:=⟨(.type "tuple"),none,(.seq #[(.ref 207)] 0),#[]⟩
def Dl:Obj:=⟨(.type "tuple"),none,(.seq #[(.int (2) 589),(.str (Yc "w") 613)] 0),#[]⟩
noncomputable def Dm:Obj:=⟨(.type "tuple"),none,(.seq #[(.ref 209)] 0),#[]⟩
def Do:Obj:=⟨(.type "tuple"),none,(.seq #[(.int (513) 614),(.str (Yc "t") 615)] 0),#[]⟩
def Ds:Obj:=⟨(.type "tuple"),none,(.seq #[(.int (512) 573),(.str (Yc "T") 616)] 0),#[]⟩
def Dt:Obj:=⟨(.type "tuple"),none,(.seq #[(.int (1) 591),(.str (Yc "x") 617)] 0),#[]⟩
noncomputable def Du:Obj:=⟨(.type "tuple"),none,(.seq #[(.ref 211),(.ref 212),(.ref 213)] 0),#[]⟩
noncomputable def Dv:Obj:=⟨(.type "tuple"),none,(.seq #[(.ref 190),(.ref 192),(.ref 194),(.ref 198),(.ref 200),(.ref 202),(.ref 206),(.ref 208),(.ref 210),(.ref 214)] 0),#[]⟩
def Dw:Obj:=cO "filemode" "filemode" 619 235 1 0 3 221 628
def Bo:{o:Obj//mF "filemode" "filemode" .none .none Ai 221 (eQ 33)=o}:=by
 refine⟨?b,?h⟩
 case h=>conv=>lhs;whnf
def Dx:Obj:=Bo.1
def Dy:Obj:=cO "_law_mode" "_law_mode" 633 253 1 0 3 228 639
def Bp:{o:Obj//mF "_law_mode" "_law_mode" .none .none ju 228 (eQ 35)=o}:=by
 refine⟨?b,?h⟩
 case h=>conv=>lhs;whnf
def Dz:Obj:=Bp.1
def DA:Obj:=cO "_law_name" "_law_name" 642 261 1 0 3 235 646
def Bq:{o:Obj//mF "_law_name" "_law_name" .none .none ju 235 (eQ 36)=o}:=by
 refine⟨?b,?h⟩
 case h=>conv=>lhs;whnf
def DB:Obj:=Bq.1
def DC:Obj:=cO "_law_tell" "_law_tell" 649 263 4 0 3 242 659
def Bs:{o:Obj//mF "_law_tell" "_law_tell" .none .none ju 242 (eQ 37)=o}:=by
 refine⟨?b,?h⟩
 case h=>conv=>lhs;whnf
def DD:Obj:=Bs.1
def DE:Obj:=⟨(.type "code"),none,(.fields #[(.str (Yc "_law_told") 662),(.str (Yc "_law_told") 663),(.str (Yc "/claim/cut.py") 664),(.int (280) 0),(.int (2) 0),(.int (0) 0),(.int (0) 0),(.int (3) 0),(.ref 244),(.bool true),(.int (276) 0),(.ref 245), .none, .none, .none,(.ref 246),(.int (665) 0),(.int (280) 0),(.str (Yc "/claim/cut.py") 666)]),#[]⟩
def Bu:{o:Obj//mF "_law_told" "_law_told" .none .none ju 247 (eQ 38)=o}:=by
 refine⟨?b,?h⟩
 case h=>conv=>lhs;whnf
def DF:Obj:=Bu.1
def DG:Obj:=cO "_law_code" "_law_code" 668 289 1 0 3 254 676
def Bv:{o:Obj//mF "_law_code" "_law_code" .none .none ju 254 (eQ 39)=o}:=by
 refine⟨?b,?h⟩
 case h=>conv=>lhs;whnf
def DH:Obj:=Bv.1
def DI:Obj:=cO "_law_row" "_law_row" 679 296 1 0 3 261 686
def Bw:{o:Obj//mF "_law_row" "_law_row" .none .none ju 261 (eQ 40)=o}:=by
 refine⟨?b,?h⟩
 case h=>conv=>lhs;whnf
def DJ:Obj:=Bw.1
def DK:Obj:=cO "_law_chain" "_law_chain" 689 302 2 0 3 268 695
def Bx:{o:Obj//mF "_law_chain" "_law_chain" .none .none ju 268 (eQ 41)=o}:=by
 refine⟨?b,?h⟩
 case h=>conv=>lhs;whnf
def DL:Obj:=Bx.1
def DM:Obj:=⟨(.type "code"),none,(.fields #[(.str (Yc "_law_text") 698),(.str (Yc "_law_text") 699),(.str (Yc "/claim/cut.py") 700),(.int (308) 0),(.int (4) 0),(.int (0) 0),(.int (0) 0),(.int (3) 0),(.ref 270),(.bool true),(.int (276) 0),(.ref 271), .none, .none, .none,(.ref 272),(.int (701) 0),(.int (308) 0),(.str (Yc "/claim/cut.py") 702)]),#[]⟩
def By:{o:Obj//mF "_law_text" "_law_text" .none .none ju 273 (eQ 42)=o}:=by
 refine⟨?b,?h⟩
 case h=>conv=>lhs;whnf
def At:Obj:=By.1
def DN:Obj:=⟨(.type "code"),none,(.fields #[(.str (Yc "_law_due") 704),(.str (Yc "_law_due") 705),(.str (Yc "/claim/cut.py") 706),(.int (329) 0),(.int (2) 0),(.int (0) 0),(.int (0) 0),(.int (3) 0),(.ref 275),(.bool true),(.int (276) 0),(.ref 276), .none, .none, .none,(.ref 277),(.int (707) 0),(.int (329) 0),(.str (Yc "/claim/cut.py") 708)]),#[]⟩
def Bz:{o:Obj//mF "_law_due" "_law_due" .none .none ju 278 (eQ 43)=o}:=by
 refine⟨?b,?h⟩
 case h=>conv=>lhs;whnf
def Au:Obj:=Bz.1
def DO:Obj:=⟨(.type "code"),none,(.fields #[(.str (Yc "law") 710),(.str (Yc "law") 711),(.str (Yc "/claim/cut.py") 712),(.int (362) 0),(.int (1) 0),(.int (0) 0),(.int (0) 0),(.int (3) 0),(.ref 280),(.bool true),(.int (276) 0),(.ref 281), .none, .none, .none,(.ref 282),(.int (713) 0),(.int (362) 0),(.str (Yc "/claim/cut.py") 714)]),#[]⟩
def BA:{o:Obj//mF "law" "law" .none .none ju 283 (eQ 44)=o}:=by
 refine⟨?b,?h⟩
 case h=>conv=>lhs;whnf
def DP:Obj:=BA.1
def am(P:Params):Frag:=(nat_lit 2,o2 P)::(nat_lit 3,o3 P)::(nat_lit 37,Ep)::(nat_lit 38,Er)::(nat_lit 42,Av)::(nat_lit 43,Aw)::(nat_lit 44,Es P)::(nat_lit 50,Et)::(nat_lit 51,Eu)::(nat_lit 52,Ax)::(nat_lit 60,BN P)::(nat_lit 66,Ev)::(nat_lit 67,Ew)::(nat_lit 68,Ex)::(nat_lit 74,Ey)::(nat_lit 75,Ez)::(nat_lit 81,EA)::(nat_lit 82,EB)::(nat_lit 83,EC)::(nat_lit 89,ED)::(nat_lit 90,EE)::(nat_lit 96,EF)::(nat_lit 97,EG)::(nat_lit 98,Ay)::(nat_lit 99,EH)::(nat_lit 105,Ck)::(nat_lit 106,Cm)::(nat_lit 112,Cn)::(nat_lit 113,Co)::(nat_lit 119,Cp)::(nat_lit 120,Cq)::(nat_lit 121,Cr)::(nat_lit 125,Cs)::(nat_lit 126,Ct)::(nat_lit 132,Cu)::(nat_lit 133,Cv)::(nat_lit 139,Cw)::(nat_lit 140,Cx)::(nat_lit 146,Cy)::(nat_lit 147,Cz)::(nat_lit 148,CA)::(nat_lit 149,CB P)::(nat_lit 150,CC)::(nat_lit 151,CD)::(nat_lit 152,CE)::(nat_lit 160,CF)::(nat_lit 161,CG)::(nat_lit 167,CH)::(nat_lit 168,CI)::(nat_lit 174,CJ)::(nat_lit 175,CK)::(nat_lit 181,CM)::(nat_lit 182,CN)::(nat_lit 183,CO)::(nat_lit 184,CP)::(nat_lit 185,CQ)::(nat_lit 186,CR)::(nat_lit 187,CS)::(nat_lit 188,CT)::(nat_lit 189,CU)::(nat_lit 190,CV)::(nat_lit 191,CW)::(nat_lit 192,CX)::(nat_lit 193,CY)::(nat_lit 194,CZ)::(nat_lit 195,C0)::(nat_lit 196,C1)::(nat_lit 197,C5)::(nat_lit 198,C6)::(nat_lit 199,C7)::(nat_lit 200,C8)::(nat_lit 201,C9)::(nat_lit 202,Db)::(nat_lit 203,Dc)::(nat_lit 204,De)::(nat_lit 205,Dg)::(nat_lit 206,Di)::(nat_lit 207,Dj)::(nat_lit 208,Dk)::(nat_lit 209,Dl)::(nat_lit 210,Dm)::(nat_lit 211,Do)::(nat_lit 212,Ds)::(nat_lit 213,Dt)::(nat_lit 214,Du)::(nat_lit 215,Dv)::(nat_lit 221,Dw)::(nat_lit 222,Dx)::(nat_lit 228,Dy)::(nat_lit 229,Dz)::(nat_lit 235,DA)::(nat_lit 236,DB)::(nat_lit 242,DC)::(nat_lit 243,DD)::(nat_lit 247,DE)::(nat_lit 248,DF)::(nat_lit 254,DG)::(nat_lit 255,DH)::(nat_lit 261,DI)::(nat_lit 262,DJ)::(nat_lit 268,DK)::(nat_lit 269,DL)::(nat_lit 273,DM)::(nat_lit 274,At)::(nat_lit 278,DN)::(nat_lit 279,Au)::(nat_lit 283,DO)::(nat_lit 284,DP)::[]
noncomputable def AV:List Addr:=[2,3,37,38,42,43,44,50,51,52,60,66,67,68,74,75,81,82,83,89,90,96,97,98,99,105,106,112,113,119,120,121,125,126,132,133,139,140,146,147,148,149,150,151,152,160,161,167,168,174,175,181,182,183,184,185,186,187,188,189,190,191,192,193,194,195,196,197,198,199,200,201,202,203,204,205,206,207,208,209,210,211,212,213,214,215,221,222,228,229,235,236,242,243,247,248,254,255,261,262,268,269,273,274,278,279,283,284]
noncomputable def FW:List Nat:=[0,1,3,4,5,6,7,8,9,11,12,13,14,15,16,17,18,19,20,21,22,23,24,25,26,27,28,29,30,31,32,33,35,36,37,38,39,40,41,42,43,44]
def cr:Program:={PR with main:={PR.main with body:=FW.map eQ}}
abbrev loose:List Str:=[Yc "_twin_re_1",Yc "_namespace_map",Yc "_looks_like_prefix_name",Yc "C14NWriterTarget",Yc "_filemode_table"]
theorem yO:∀ P,AV=(am P).map (·.1):=fun P=>by kernel_rfl
def D9:Hook:=kmHook am AV yO [123]
abbrev RR:RowW:=PySem.Challenge.rw_pk0128_01.row.toRowW
abbrev Seen(w:World):Prop:=(openEnds treeTable PR w 3616).map (fun s=>(openSeen cr loose (importedModules PR.main.body) (fun s=>xlAt cr [] s&&recOk RR.records s) true s,D9.obs s))=some (openGood cr loose,D9.val w)
noncomputable def mN (w:World) (Uy:Nat) (ann:Option Value) (n:Nat):SharedT->Thread->Option SharedT:=
 Nat.rec (fun _ _=>none) (fun _ ih s t=>cond (through t) (some s) (cond (stepOk Uy ann t) ((stepT (denote treeTable) PR w s t).bind fun x=>ih x.1 x.2) none)) n
theorem sO{w:World}(n:Nat):∀ {s s' t},mN w Uy ann n s t=some s'->topRun treeTable PR w Uy ann n s.abs t=some s'.abs:=by
 induction n with
 |zero=>intro _ _ _ h;cases h
 |succ n ih=>
  intro s s' t h;change cond (through t) (some s) (cond (stepOk Uy ann t) ((stepT (denote treeTable) PR w s t).bind fun x=>mN w Uy ann n x.1 x.2) none)=some s' at h;unfold topRun;revert h
  cases through t with
  |true=>intro h;cases h;rfl
  |false=>
   cases stepOk Uy ann t with
   |false=>intro h;cases h
   |true=>
    intro h;obtain⟨⟨QS,XC⟩,h1,h2⟩:=Option.bind_eq_some_iff.mp h;dsimp only;refine aa (stepT_spec h1) ?_;exact ih h2
def Az(l:List Obj):BT->Nat->Option BT:=List.rec (fun T _=>some T) (fun o _ ih T n=>cond ((T.ins n o).get n).isSome (ih (T.ins n o) (n+1)) none) l
theorem wO(life:Life)(l:List Obj):∀ {T T' n},Az l T n=some T'->absHeap T' (n+l.length) life=⟨(absHeap T n life).objs++l.toArray,life⟩:=by
 induction l with
 |nil=>intro T T' n h;cases h;exact congrArg (Heap.mk · life) Array.append_empty.symm
 |cons o l ih=>
  intro T T' n h;change cond ((T.ins n o).get n).isSome (Az l (T.ins n o) (n+1)) none=some T' at h
  cases he:((T.ins n o).get n).isSome with
  |false=>rw[he] at h;cases h
  |true=>
   rw[he] at h;refine(congrArg (absHeap T' · life) (Nat.succ_add_eq_add_succ n l.length)).symm.trans ((ih h).trans ?_);refine aa (absHeap_ins he) (congrArg (Heap.mk · life) ?_);show ((absHeap T n life).objs.push o)++l.toArray=_;exact Array.ext' (by simp)
def B4(s:Shared):Option SharedT:=(Az s.heap.objs.toList .nil 0).map fun T=>⟨T,s.heap.objs.toList.length,s.heap.life,s.gens,s.drawn,s.toks,s.os⟩
theorem xf{s:Shared}{x:SharedT}(h:B4 s=some x):x.abs=s:=by
 obtain⟨⟨objs,life⟩,gens,drawn,toks,os⟩:=s;obtain⟨T,h1,rfl⟩:=Ls.mp h;have e:=wO life _ h1;rw[Nk] at e;exact congrArg (Shared.mk · gens drawn toks os) (e.trans (congrArg (Heap.mk · life) Array.empty_append))
def jW(w:World)(Qq:Shared):Option Shared:=
 cond (Qq.heap.isNs mainGlobals&&Qq.gens.size==0) (((B4 Qq).bind fun x=>mN w Qq.heap.objs.size (Qq.heap.nsMap mainGlobals "__annotations__") 3616 x (topStub PR)).bind fun y=>
  cond (staticsOk (importedModules PR.main.body) Qq.heap y.abs.heap&&namesBound PR y.abs.heap&&gensDone y.abs&&laidKept Qq.heap y.abs.heap) (some y.abs) none) none
theorem qD{w:World}{Qq s:Shared}(h:jW w Qq=some s):topFrom treeTable PR w 3616 Qq=some s:=by
 unfold jW at h;unfold topFrom;revert h
 cases Qq.heap.isNs mainGlobals&&Qq.gens.size==0 with
 |false=>intro h;cases h
 |true=>
  intro h;obtain⟨y,h1,h2⟩:=Option.bind_eq_some_iff.mp h;obtain⟨x,h3,h4⟩:=Option.bind_eq_some_iff.mp h1;have e:=sO _ h4;rw[xf h3] at e;dsimp only;refine aa e ?_;revert h2;dsimp only[Option.bind]
  cases staticsOk (importedModules PR.main.body) Qq.heap y.abs.heap&&namesBound PR y.abs.heap&&gensDone y.abs&&laidKept Qq.heap y.abs.heap with
  |false=>exact id
  |true=>exact id
abbrev kb(w:World):Prop:=((fencedOpening treeTable PR w 3616).bind (jW w)).map (fun s=>(openSeen cr loose (importedModules PR.main.body) (fun s=>xlAt cr [] s&&recOk RR.records s) true s,D9.obs s))=some (openGood cr loose,D9.val w)
theorem rn{w:World}(h:kb w):Seen w:=by
 obtain⟨s,h1,h2⟩:=Ls.mp h;obtain⟨Qq,h3,h4⟩:=Option.bind_eq_some_iff.mp h1;show ((fencedOpening treeTable PR w 3616).bind _).map _=_;refine aa h3 ?_;show (topFrom treeTable PR w 3616 Qq).map _=_;exact aa (qD h4) (congrArg some h2)
set_option maxHeartbeats 0 in
theorem AO:∀ w:World,Seen (w.withFollow "special-get-raises" false):=fun w=>rn (show kb (w.withFollow "special-get-raises" false) by unfold kb;kernel_rfl)
set_option maxHeartbeats 0 in
theorem AP:∀ w:World,Seen (w.withFollow "special-get-raises" true):=fun w=>rn (show kb (w.withFollow "special-get-raises" true) by unfold kb;kernel_rfl)
theorem left:LeftO PR cr loose (fun s=>xlAt cr [] s&&recOk RR.records s) D9.obs D9.val 3616:=byRow2 "special-get-raises" (P:=Seen) AO AP
theorem D0:PySem.Challenge.rw_pk0128_01.wellSaid=true:=by kernel_rfl
noncomputable def eY:{x:DefRec×List (Str×X7)//defOf cr (Yc "law")=some x}:=by
 refine⟨?b,?h⟩
 case h=>conv=>lhs;whnf
theorem hd(call:WalkO cr loose (XL cr []) D9.says RR eY.1.1 eY.1.2 fun f vs=>PySem.call f vs):PySem.Challenge.rw_pk0128_01.Holds:=
 holds_law D0 fun ok=>holds_open (q:=cr) (loose:=loose) (Xt:=fun s=>xlAt cr [] s&&recOk RR.records s) (XP:=XL cr []) (Yf:=D9.obs) (Ya:=D9.val) (YP:=D9.says) (N:=3616)
  left D9.of D9.keeps (fun s e=>xl_of s (Ng.mp e).1) XL.keeps eY.2 (by kernel_rfl) (by kernel_rfl) (fun s e=>recFacts_of (Ng.mp e).2) rfl ok (by decide+kernel) ⟨rfl,rfl,rfl,rfl,rfl,by decide+kernel⟩ ⟨[.list []],by decide+kernel,by decide+kernel⟩ call
theorem yy:Nonempty World:=⟨⟨fun _ _=>0,{strHash:=fun _=>0,shareClass:=fun a=>a,mergeTok:=fun t=>t,idOf:=fun _=>0,idOfShared:=fun _ _=>0,followText:=fun _=>false,idOfImm:=fun _=>0}⟩⟩
def qw:{Q:World->Prop//(∀ w,Q w)->WalkO cr loose (XL cr []) D9.says RR eY.1.1 eY.1.2 fun f vs=>PySem.call f vs}:=⟨_,fun h=>h⟩
def pk{α:Type}(ne:Nonempty α)(P:α->Prop):α:=@Classical.epsilon α ne fun a=>¬P a
theorem cT{α:Type}{ne:Nonempty α}{P:α->Prop}(h:P (pk ne P))(a:α):P a:=Classical.byContradiction fun q=>(@Classical.epsilon_spec α (fun a=>¬P a) ⟨a,q⟩:¬P (pk _ P)) h
def w:World:=pk yy qw.1
theorem cC(h:Nonempty α)(g:Nonempty β):Nonempty (α×β):=h.elim fun a=>g.elim fun b=>⟨(a,b)⟩
abbrev MP:Model:=model PR w
inductive aM{a0:Type}(p0 p1:a0->Prop):Prop
 |mk (x0:a0) (h0:p0 x0) (h1:p1 x0):aM p0 p1
inductive fJ{a0:Type}(p0 p1 p2:a0->Prop):Prop
 |mk (x0:a0) (h0:p0 x0) (h1:p1 x0) (h2:p2 x0):fJ p0 p1 p2
inductive vH{a0:Type}(p0 p1 p2 p3:a0->Prop):Prop
 |mk (x0:a0) (h0:p0 x0) (h1:p1 x0) (h2:p2 x0) (h3:p3 x0):vH p0 p1 p2 p3
inductive yX{a0:Type}(p0 p1 p2 p3 p4:a0->Prop):Prop
 |mk (x0:a0) (h0:p0 x0) (h1:p1 x0) (h2:p2 x0) (h3:p3 x0) (h4:p4 x0):yX p0 p1 p2 p3 p4
inductive yY{a0:Type}(p0 p1 p2 p3 p4 p5:a0->Prop):Prop
 |mk (x0:a0) (h0:p0 x0) (h1:p1 x0) (h2:p2 x0) (h3:p3 x0) (h4:p4 x0) (h5:p5 x0):yY p0 p1 p2 p3 p4 p5
inductive lY{a0 a1:Type}(p0:a0->a1->Prop):Prop
 |mk (x0:a0) (x1:a1) (h0:p0 x0 x1):lY p0
inductive bG{a0 a1:Type}(p0 p1:a0->a1->Prop):Prop
 |mk (x0:a0) (x1:a1) (h0:p0 x0 x1) (h1:p1 x0 x1):bG p0 p1
inductive bV{a0 a1:Type}(p0 p1 p2:a0->a1->Prop):Prop
 |mk (x0:a0) (x1:a1) (h0:p0 x0 x1) (h1:p1 x0 x1) (h2:p2 x0 x1):bV p0 p1 p2
inductive ru{a0 a1:Type}(p0 p1 p2 p3:a0->a1->Prop):Prop
 |mk (x0:a0) (x1:a1) (h0:p0 x0 x1) (h1:p1 x0 x1) (h2:p2 x0 x1) (h3:p3 x0 x1):ru p0 p1 p2 p3
inductive iy{a0 a1:Type}(p0 p1 p2 p3 p4:a0->a1->Prop):Prop
 |mk (x0:a0) (x1:a1) (h0:p0 x0 x1) (h1:p1 x0 x1) (h2:p2 x0 x1) (h3:p3 x0 x1) (h4:p4 x0 x1):iy p0 p1 p2 p3 p4
inductive nY{a0 a1:Type}(p0 p1 p2 p3 p4 p5:a0->a1->Prop):Prop
 |mk (x0:a0) (x1:a1) (h0:p0 x0 x1) (h1:p1 x0 x1) (h2:p2 x0 x1) (h3:p3 x0 x1) (h4:p4 x0 x1) (h5:p5 x0 x1):nY p0 p1 p2 p3 p4 p5
inductive rv{a0 a1 a2:Type}(p0:a0->a1->a2->Prop):Prop
 |mk (x0:a0) (x1:a1) (x2:a2) (h0:p0 x0 x1 x2):rv p0
inductive gQ{a0 a1 a2:Type}(p0 p1:a0->a1->a2->Prop):Prop
 |mk (x0:a0) (x1:a1) (x2:a2) (h0:p0 x0 x1 x2) (h1:p1 x0 x1 x2):gQ p0 p1
inductive eg{a0 a1 a2:Type}(p0 p1 p2:a0->a1->a2->Prop):Prop
 |mk (x0:a0) (x1:a1) (x2:a2) (h0:p0 x0 x1 x2) (h1:p1 x0 x1 x2) (h2:p2 x0 x1 x2):eg p0 p1 p2
inductive gR{a0 a1 a2:Type}(p0 p1 p2 p3:a0->a1->a2->Prop):Prop
 |mk (x0:a0) (x1:a1) (x2:a2) (h0:p0 x0 x1 x2) (h1:p1 x0 x1 x2) (h2:p2 x0 x1 x2) (h3:p3 x0 x1 x2):gR p0 p1 p2 p3
inductive vI{a0 a1 a2:Type}(p0 p1 p2 p3 p4:a0->a1->a2->Prop):Prop
 |mk (x0:a0) (x1:a1) (x2:a2) (h0:p0 x0 x1 x2) (h1:p1 x0 x1 x2) (h2:p2 x0 x1 x2) (h3:p3 x0 x1 x2) (h4:p4 x0 x1 x2):vI p0 p1 p2 p3 p4
inductive vJ{a0 a1 a2:Type}(p0 p1 p2 p3 p4 p5:a0->a1->a2->Prop):Prop
 |mk (x0:a0) (x1:a1) (x2:a2) (h0:p0 x0 x1 x2) (h1:p1 x0 x1 x2) (h2:p2 x0 x1 x2) (h3:p3 x0 x1 x2) (h4:p4 x0 x1 x2) (h5:p5 x0 x1 x2):vJ p0 p1 p2 p3 p4 p5
inductive yZ{a0 a1 a2:Type}(p0 p1 p2 p3 p4 p5 p6 p7:a0->a1->a2->Prop):Prop
 |mk (x0:a0) (x1:a1) (x2:a2) (h0:p0 x0 x1 x2) (h1:p1 x0 x1 x2) (h2:p2 x0 x1 x2) (h3:p3 x0 x1 x2) (h4:p4 x0 x1 x2) (h5:p5 x0 x1 x2) (h6:p6 x0 x1 x2) (h7:p7 x0 x1 x2):yZ p0 p1 p2 p3 p4 p5 p6 p7
inductive vK{a0 a1 a2 a3:Type}(p0:a0->a1->a2->a3->Prop):Prop
 |mk (x0:a0) (x1:a1) (x2:a2) (x3:a3) (h0:p0 x0 x1 x2 x3):vK p0
inductive y7{a0 a1 a2 a3:Type}(p0 p1:a0->a1->a2->a3->Prop):Prop
 |mk (x0:a0) (x1:a1) (x2:a2) (x3:a3) (h0:p0 x0 x1 x2 x3) (h1:p1 x0 x1 x2 x3):y7 p0 p1
inductive vL{a0 a1 a2 a3:Type}(p0 p1 p2:a0->a1->a2->a3->Prop):Prop
 |mk (x0:a0) (x1:a1) (x2:a2) (x3:a3) (h0:p0 x0 x1 x2 x3) (h1:p1 x0 x1 x2 x3) (h2:p2 x0 x1 x2 x3):vL p0 p1 p2
inductive vM{a0 a1 a2 a3:Type}(p0 p1 p2 p3:a0->a1->a2->a3->Prop):Prop
 |mk (x0:a0) (x1:a1) (x2:a2) (x3:a3) (h0:p0 x0 x1 x2 x3) (h1:p1 x0 x1 x2 x3) (h2:p2 x0 x1 x2 x3) (h3:p3 x0 x1 x2 x3):vM p0 p1 p2 p3
inductive y8{a0 a1 a2 a3:Type}(p0 p1 p2 p3 p4:a0->a1->a2->a3->Prop):Prop
 |mk (x0:a0) (x1:a1) (x2:a2) (x3:a3) (h0:p0 x0 x1 x2 x3) (h1:p1 x0 x1 x2 x3) (h2:p2 x0 x1 x2 x3) (h3:p3 x0 x1 x2 x3) (h4:p4 x0 x1 x2 x3):y8 p0 p1 p2 p3 p4
inductive vN{a0 a1 a2 a3:Type}(p0 p1 p2 p3 p4 p5:a0->a1->a2->a3->Prop):Prop
 |mk (x0:a0) (x1:a1) (x2:a2) (x3:a3) (h0:p0 x0 x1 x2 x3) (h1:p1 x0 x1 x2 x3) (h2:p2 x0 x1 x2 x3) (h3:p3 x0 x1 x2 x3) (h4:p4 x0 x1 x2 x3) (h5:p5 x0 x1 x2 x3):vN p0 p1 p2 p3 p4 p5
inductive y9{a0 a1 a2 a3:Type}(p0 p1 p2 p3 p4 p5 p6:a0->a1->a2->a3->Prop):Prop
 |mk (x0:a0) (x1:a1) (x2:a2) (x3:a3) (h0:p0 x0 x1 x2 x3) (h1:p1 x0 x1 x2 x3) (h2:p2 x0 x1 x2 x3) (h3:p3 x0 x1 x2 x3) (h4:p4 x0 x1 x2 x3) (h5:p5 x0 x1 x2 x3) (h6:p6 x0 x1 x2 x3):y9 p0 p1 p2 p3 p4 p5 p6
inductive lZ{a0 a1 a2 a3:Type}(p0 p1 p2 p3 p4 p5 p6 p7:a0->a1->a2->a3->Prop):Prop
 |mk (x0:a0) (x1:a1) (x2:a2) (x3:a3) (h0:p0 x0 x1 x2 x3) (h1:p1 x0 x1 x2 x3) (h2:p2 x0 x1 x2 x3) (h3:p3 x0 x1 x2 x3) (h4:p4 x0 x1 x2 x3) (h5:p5 x0 x1 x2 x3) (h6:p6 x0 x1 x2 x3) (h7:p7 x0 x1 x2 x3):lZ p0 p1 p2 p3 p4 p5 p6 p7
inductive l9{a0 a1 a2 a3 a4:Type}(p0 p1 p2:a0->a1->a2->a3->a4->Prop):Prop
 |mk (x0:a0) (x1:a1) (x2:a2) (x3:a3) (x4:a4) (h0:p0 x0 x1 x2 x3 x4) (h1:p1 x0 x1 x2 x3 x4) (h2:p2 x0 x1 x2 x3 x4):l9 p0 p1 p2
inductive zj{a0 a1 a2 a3 a4:Type}(p0 p1 p2 p3:a0->a1->a2->a3->a4->Prop):Prop
 |mk (x0:a0) (x1:a1) (x2:a2) (x3:a3) (x4:a4) (h0:p0 x0 x1 x2 x3 x4) (h1:p1 x0 x1 x2 x3 x4) (h2:p2 x0 x1 x2 x3 x4) (h3:p3 x0 x1 x2 x3 x4):zj p0 p1 p2 p3
inductive rx{a0 a1 a2 a3 a4:Type}(p0 p1 p2 p3 p4:a0->a1->a2->a3->a4->Prop):Prop
 |mk (x0:a0) (x1:a1) (x2:a2) (x3:a3) (x4:a4) (h0:p0 x0 x1 x2 x3 x4) (h1:p1 x0 x1 x2 x3 x4) (h2:p2 x0 x1 x2 x3 x4) (h3:p3 x0 x1 x2 x3 x4) (h4:p4 x0 x1 x2 x3 x4):rx p0 p1 p2 p3 p4
inductive zk{a0 a1 a2 a3 a4:Type}(p0 p1 p2 p3 p4 p5:a0->a1->a2->a3->a4->Prop):Prop
 |mk (x0:a0) (x1:a1) (x2:a2) (x3:a3) (x4:a4) (h0:p0 x0 x1 x2 x3 x4) (h1:p1 x0 x1 x2 x3 x4) (h2:p2 x0 x1 x2 x3 x4) (h3:p3 x0 x1 x2 x3 x4) (h4:p4 x0 x1 x2 x3 x4) (h5:p5 x0 x1 x2 x3 x4):zk p0 p1 p2 p3 p4 p5
inductive vO{a0 a1 a2 a3 a4:Type}(p0 p1 p2 p3 p4 p5 p6 p7:a0->a1->a2->a3->a4->Prop):Prop
 |mk (x0:a0) (x1:a1) (x2:a2) (x3:a3) (x4:a4) (h0:p0 x0 x1 x2 x3 x4) (h1:p1 x0 x1 x2 x3 x4) (h2:p2 x0 x1 x2 x3 x4) (h3:p3 x0 x1 x2 x3 x4) (h4:p4 x0 x1 x2 x3 x4) (h5:p5 x0 x1 x2 x3 x4) (h6:p6 x0 x1 x2 x3 x4) (h7:p7 x0 x1 x2 x3 x4):vO p0 p1 p2 p3 p4 p5 p6 p7
inductive vP{a0 a1 a2 a3 a4:Type}(p0 p1 p2 p3 p4 p5 p6 p7 p8:a0->a1->a2->a3->a4->Prop):Prop
 |mk (x0:a0) (x1:a1) (x2:a2) (x3:a3) (x4:a4) (h0:p0 x0 x1 x2 x3 x4) (h1:p1 x0 x1 x2 x3 x4) (h2:p2 x0 x1 x2 x3 x4) (h3:p3 x0 x1 x2 x3 x4) (h4:p4 x0 x1 x2 x3 x4) (h5:p5 x0 x1 x2 x3 x4) (h6:p6 x0 x1 x2 x3 x4) (h7:p7 x0 x1 x2 x3 x4) (h8:p8 x0 x1 x2 x3 x4):vP p0 p1 p2 p3 p4 p5 p6 p7 p8
inductive vQ{a0 a1 a2 a3 a4 a5:Type}(p0 p1 p2:a0->a1->a2->a3->a4->a5->Prop):Prop
 |mk (x0:a0) (x1:a1) (x2:a2) (x3:a3) (x4:a4) (x5:a5) (h0:p0 x0 x1 x2 x3 x4 x5) (h1:p1 x0 x1 x2 x3 x4 x5) (h2:p2 x0 x1 x2 x3 x4 x5):vQ p0 p1 p2
inductive zn{a0 a1 a2 a3 a4 a5:Type}(p0 p1 p2 p3:a0->a1->a2->a3->a4->a5->Prop):Prop
 |mk (x0:a0) (x1:a1) (x2:a2) (x3:a3) (x4:a4) (x5:a5) (h0:p0 x0 x1 x2 x3 x4 x5) (h1:p1 x0 x1 x2 x3 x4 x5) (h2:p2 x0 x1 x2 x3 x4 x5) (h3:p3 x0 x1 x2 x3 x4 x5):zn p0 p1 p2 p3
inductive vR{a0 a1 a2 a3 a4 a5:Type}(p0 p1 p2 p3 p4:a0->a1->a2->a3->a4->a5->Prop):Prop
 |mk (x0:a0) (x1:a1) (x2:a2) (x3:a3) (x4:a4) (x5:a5) (h0:p0 x0 x1 x2 x3 x4 x5) (h1:p1 x0 x1 x2 x3 x4 x5) (h2:p2 x0 x1 x2 x3 x4 x5) (h3:p3 x0 x1 x2 x3 x4 x5) (h4:p4 x0 x1 x2 x3 x4 x5):vR p0 p1 p2 p3 p4
inductive zq{a0 a1 a2 a3 a4 a5:Type}(p0 p1 p2 p3 p4 p5:a0->a1->a2->a3->a4->a5->Prop):Prop
 |mk (x0:a0) (x1:a1) (x2:a2) (x3:a3) (x4:a4) (x5:a5) (h0:p0 x0 x1 x2 x3 x4 x5) (h1:p1 x0 x1 x2 x3 x4 x5) (h2:p2 x0 x1 x2 x3 x4 x5) (h3:p3 x0 x1 x2 x3 x4 x5) (h4:p4 x0 x1 x2 x3 x4 x5) (h5:p5 x0 x1 x2 x3 x4 x5):zq p0 p1 p2 p3 p4 p5
inductive xu{a0 a1 a2 a3 a4 a5:Type}(p0 p1 p2 p3 p4 p5 p6 p7 p8 p9 XN:a0->a1->a2->a3->a4->a5->Prop):Prop
 |mk (x0:a0) (x1:a1) (x2:a2) (x3:a3) (x4:a4) (x5:a5) (h0:p0 x0 x1 x2 x3 x4 x5) (h1:p1 x0 x1 x2 x3 x4 x5) (h2:p2 x0 x1 x2 x3 x4 x5) (h3:p3 x0 x1 x2 x3 x4 x5) (h4:p4 x0 x1 x2 x3 x4 x5) (h5:p5 x0 x1 x2 x3 x4 x5) (h6:p6 x0 x1 x2 x3 x4 x5) (h7:p7 x0 x1 x2 x3 x4 x5) (h8:p8 x0 x1 x2 x3 x4 x5) (h9:p9 x0 x1 x2 x3 x4 x5) (h10:XN x0 x1 x2 x3 x4 x5):xu p0 p1 p2 p3 p4 p5 p6 p7 p8 p9 XN
inductive zr{a0 a1 a2 a3 a4 a5 a6:Type}(p0 p1 p2 p3 p4 p5 p6 p7 p8:a0->a1->a2->a3->a4->a5->a6->Prop):Prop
 |mk (x0:a0) (x1:a1) (x2:a2) (x3:a3) (x4:a4) (x5:a5) (x6:a6) (h0:p0 x0 x1 x2 x3 x4 x5 x6) (h1:p1 x0 x1 x2 x3 x4 x5 x6) (h2:p2 x0 x1 x2 x3 x4 x5 x6) (h3:p3 x0 x1 x2 x3 x4 x5 x6) (h4:p4 x0 x1 x2 x3 x4 x5 x6) (h5:p5 x0 x1 x2 x3 x4 x5 x6) (h6:p6 x0 x1 x2 x3 x4 x5 x6) (h7:p7 x0 x1 x2 x3 x4 x5 x6) (h8:p8 x0 x1 x2 x3 x4 x5 x6):zr p0 p1 p2 p3 p4 p5 p6 p7 p8
inductive zu{a0 a1 a2 a3 a4 a5 a6 a7:Type}(p0 p1 p2 p3:a0->a1->a2->a3->a4->a5->a6->a7->Prop):Prop
 |mk (x0:a0) (x1:a1) (x2:a2) (x3:a3) (x4:a4) (x5:a5) (x6:a6) (x7:a7) (h0:p0 x0 x1 x2 x3 x4 x5 x6 x7) (h1:p1 x0 x1 x2 x3 x4 x5 x6 x7) (h2:p2 x0 x1 x2 x3 x4 x5 x6 x7) (h3:p3 x0 x1 x2 x3 x4 x5 x6 x7):zu p0 p1 p2 p3
inductive xm{a0 a1 a2 a3 a4 a5 a6 a7 a8 a9:Type}(p0 p1:a0->a1->a2->a3->a4->a5->a6->a7->a8->a9->Prop):Prop
 |mk (x0:a0) (x1:a1) (x2:a2) (x3:a3) (x4:a4) (x5:a5) (x6:a6) (x7:a7) (x8:a8) (x9:a9) (h0:p0 x0 x1 x2 x3 x4 x5 x6 x7 x8 x9) (h1:p1 x0 x1 x2 x3 x4 x5 x6 x7 x8 x9):xm p0 p1
inductive xo{a0 a1 a2 a3 a4 a5 a6 a7 a8 a9 a10 a11 a12:Type}(p0 p1 p2 p3 p4 p5 p6 p7:a0->a1->a2->a3->a4->a5->a6->a7->a8->a9->a10->a11->a12->Prop):Prop
 |mk (x0:a0) (x1:a1) (x2:a2) (x3:a3) (x4:a4) (x5:a5) (x6:a6) (x7:a7) (x8:a8) (x9:a9) (SM:a10) (SN:a11) (SO:a12) (h0:p0 x0 x1 x2 x3 x4 x5 x6 x7 x8 x9 SM SN SO) (h1:p1 x0 x1 x2 x3 x4 x5 x6 x7 x8 x9 SM SN SO) (h2:p2 x0 x1 x2 x3 x4 x5 x6 x7 x8 x9 SM SN SO) (h3:p3 x0 x1 x2 x3 x4 x5 x6 x7 x8 x9 SM SN SO) (h4:p4 x0 x1 x2 x3 x4 x5 x6 x7 x8 x9 SM SN SO) (h5:p5 x0 x1 x2 x3 x4 x5 x6 x7 x8 x9 SM SN SO) (h6:p6 x0 x1 x2 x3 x4 x5 x6 x7 x8 x9 SM SN SO) (h7:p7 x0 x1 x2 x3 x4 x5 x6 x7 x8 x9 SM SN SO):xo p0 p1 p2 p3 p4 p5 p6 p7
inductive xr{a0 a1 a2 a3 a4 a5 a6 a7 a8 a9 a10 a11 a12 a13:Type}(p0 p1 p2 p3:a0->a1->a2->a3->a4->a5->a6->a7->a8->a9->a10->a11->a12->a13->Prop):Prop
 |mk (x0:a0) (x1:a1) (x2:a2) (x3:a3) (x4:a4) (x5:a5) (x6:a6) (x7:a7) (x8:a8) (x9:a9) (SM:a10) (SN:a11) (SO:a12) (x13:a13) (h0:p0 x0 x1 x2 x3 x4 x5 x6 x7 x8 x9 SM SN SO x13) (h1:p1 x0 x1 x2 x3 x4 x5 x6 x7 x8 x9 SM SN SO x13) (h2:p2 x0 x1 x2 x3 x4 x5 x6 x7 x8 x9 SM SN SO x13) (h3:p3 x0 x1 x2 x3 x4 x5 x6 x7 x8 x9 SM SN SO x13):xr p0 p1 p2 p3
abbrev lO(x:X8)(k:Nat):Obj:=listOf x.toArray k
inductive eC{α β:Type}(R:α->β->Prop):List α->List β->Prop
 |nil:eC R [] []
 |cons {a:α} {b:β} {as:List α} {bs:List β}:R a b->eC R as bs->eC R (a::as) (b::bs)
section
variable{α β:Type}{R R':α->β->Prop}{as:List α}{bs:List β}{a:α}{b:β}{j:Nat}
theorem eC.mono(k:∀ a b,R a b->R' a b)(h:eC R as bs):eC R' as bs:=by
 induction h with
 |nil=>exact .nil
 |cons x _ ih=>exact .cons (k _ _ x) ih
theorem eC.snoc(x:R a b)(h:eC R as bs):eC R (as++[a]) (bs++[b]):=by
 induction h with
 |nil=>exact .cons x .nil
 |cons y _ ih=>exact .cons y ih
theorem eC.len(h:eC R as bs):as.length=bs.length:=by
 induction h with
 |nil=>rfl
 |cons _ _ ih=>exact congrArg Nat.succ ih
theorem eC.at(h:eC R as bs)(e:as[j]?=some a):aM (fun b=>bs[j]?=some b) (fun b=>R a b):=by
 induction h generalizing j with
 |nil=>cases e
 |cons x _ ih=>
  cases j with
  |zero=>cases e;exact⟨_,rfl,x⟩
  |succ j=>exact ih (j:=j) e
theorem eC.at'(h:eC R as bs)(e:j<bs.length):bV (fun a b=>as[j]?=some a) (fun _ b=>bs[j]?=some b) (fun a b=>R a b):=by
 obtain⟨b,hb,x⟩:=eC.at h (j:=j) (KJ (h.len▸e));exact⟨_,b,KJ _,hb,x⟩
theorem wS(h:as.Perm [x,y]):as=[x,y]∨as=[y,x]:=by
 cases as with
 |nil=>cases h.length_eq
 |cons a t=>
  rcases KG.mp (h.subset (.head _)) with e|q
  ·rw[e] at h⊢
   exact .inl (by exact aa (List.perm_singleton.mp ((List.perm_cons _).mp h)) rfl)
  ·rw[KD.mp q] at h⊢
   exact .inr (by exact aa (List.perm_singleton.mp ((List.perm_cons _).mp (h.trans (.swap ..)))) rfl)
theorem sy:∀ {l:List Nat},(∀ x∈l,x<=C)->l.sum<=l.length*C:=by
 intro l
 induction l with
 |nil=>exact fun _=>K0 _
 |cons x l ih=>
  intro h;have h1:=h x (.head _);have h2:=ih fun y hy=>h y (.tail _ hy);refine aa List.sum_cons (aa Lc (aa (Nat.succ_mul _ _) ?_));exact L2 [_,_,_,_] (.a V0 V2) (.a V3 V1) 1 V0 V1 1 V2 V3 rfl h1 h2
theorem rh(L:Nat){l:List Nat}(h:l.Nodup):(l.map (L+·)).Nodup:=List.pairwise_map.mpr (h.imp fun h e=>h (Nat.add_left_cancel e))
theorem rf{L x:Nat}{l:List Nat}(h:∀ k∈l,0<k)(hx:x∈l.map (L+·)):L<x:=by
 obtain⟨k,hk,rfl⟩:=KI.mp hx;exact Nat.lt_add_of_pos_right (h k hk)
end
inductive PT where
 |v (i:Nat)
 |a (s t:PT)
def PT.den(e:Nat->List α)(s:PT):List α:=PT.rec (fun i=>e i) (fun _ _ x y=>x++y) s
def PT.lvs(s:PT):List Nat:=PT.rec (fun i=>[i]) (fun _ _ x y=>x++y) s
theorem PT.eq(e:Nat->List α)(s:PT):s.den e=s.lvs.flatMap e:=by
 induction s with
 |v i=>exact(List.flatMap_singleton e i).symm
 |a s t hs ht=>
  show s.den e++t.den e=(s.lvs++t.lvs).flatMap e;exact aa N8 (aa hs (aa ht rfl))
theorem lE(e:Nat->List α)(s t:PT)(h:s.lvs.isPerm t.lvs=true):(s.den e).Perm (t.den e):=aa (PT.eq e s) (aa (PT.eq e t) ((List.isPerm_iff.mp h).flatMap_right e))
abbrev gl(l:List Nat)(t:PT):PT:=l.foldr (fun i t=> .a (.v i) t) t
abbrev TT(Qt:ExcName->Option Value)(mg mb:X5)(h:Heap):Prop:=Top topProg (looseW cr loose++(recsOf cr).map (·.name)++(litsOf cr).map (·.1)++(clssOf cr (looseW cr loose)).map (·.name)) Qt mg mb h
def md(news P1:X4)(h:Heap):Prop:=∀ p∈news,(∀ q∈P1,q.1≠p.1)->h.get? p.1=some p.2
section
variable{A₀ A:Around}{s:Shared}{base h₀:Heap}{outer:List Env}{L:Addr}{m:X5}{env:Env}{news P1:X4}{R:Result->Shared->Prop}{name qual:Str}{params:Arguments}{body:Yb}{scope:Scope}{cl:List (Str×Addr)}{dV kV doc pm PV ct:Value}{an:Option Addr}{fo:Obj}{f:Addr}{args:Args}{binds:List (Str×Value)}
theorem A9(B:Below A₀ base outer h₀)(F:Fr h₀ L s.heap m)(N:News h₀ L s.heap news)(TY:h₀.NoLimit)(hA:A.frames=some (env::outer))(hf:env.frame=some L)(SE:env.scope.kind=.function)
  (SR:∀ p∈P1,p∈news)
  (ho:s.heap.get? f=some fo) (hd:fo.data=.func (fnX name qual params body scope cl dV kV doc pm an PV ct)) (QZ:s.heap.CodeRec PV qual) (P9:A.depth<recursionLimit)
  (Qv:BindsTo s (fnX name qual params body scope cl dV kV doc pm an PV ct) args binds) (Rz:∀ y∈binds,scope.names.lookup y.1=some .local)
  (h:∀ g L' h₁,Fr h₀ L g m->Fr g L' h₁ (fun y=>binds.reverse.lookup y)->News g L' h₁ P1->Below A base (env::outer) g->h₀.StaysIn g->(∀ p∈news,p.1<L')->(∀ p∈news,(∀ q∈P1,q.1≠p.1)->g.get? p.1=some p.2)->
   wpAny MP (A.deeper (envX qual scope L' f PV cl)) (execs body (envX qual scope L' f PV cl))
    (fun fl s'=>LeaveK h₀ L m g (fun r s'=>md news P1 s'.heap->R r s') (match fl with| .ret v=>v|_=> .none) s')
    (fun e s'=>wpAny MP (A.deeper (envX qual scope L' f PV cl)) (leaving (envX qual scope L' f PV cl) e) (fun _ Qh=>R (.error e) Qh) (fun e' Qh=>R (.error e') Qh) s')
    {s with heap:=h₁,toks:=s.toks+binds.length})
  (P6:∀ x∈scope.names,x.2≠ .cell) (Q0:scope.isCoroutine=false:=by rfl) (QV:scope.isGenerator=false:=by rfl) (hk:scope.kind=.function:=by rfl):codeAny MP A (.call (.ref f) args) R s:=by
 have N':News h₀ L s.heap P1:=fun p hp=>N p (SR p hp);obtain⟨FG,BG,st,lv⟩:=groundX (R:=R) B F N' hA hf SE;have hg:∀ p∈news,(∀ q∈P1,q.1≠p.1)->(hideAll s.heap (P1.map (·.1))).get? p.1=some p.2:=fun p hp hq=>hideAll_get _ (N p hp).1 fun hm=>by
  obtain⟨q,h1,h2⟩:=KI.mp hm;exact hq q h1 h2
 refine codeAny_call_def (fd:=fnX name qual params body scope cl dV kV doc pm an PV ct) (body:=body) (binds:=binds) P9 ho hd (TY.keeps F.keep) QZ rfl Qv P6 Rz (fun h₁ UW RZ=>?_) Q0 QV hk;refine K7 (h _ s.heap.objs.size h₁ FG ⟨UW,fun b o e=>RZ b o (of_hideAll _ e),Md (hideAll_size _ _)⟩
  (fun p hp=>⟨RZ _ _ (N' p hp).1,K6 (KO (N' p hp).1),hideAll_none _ (KU hp)⟩) BG st (fun p hp=>KO (N p hp).1) hg) (fun fl s' hl=>lv _ _ ?_) fun _ _ y=>y
 obtain⟨L',m',PX,F',Vi,k⟩:=hl;exact⟨L',m',PX,F',Vi,fun a b=>k a b fun p hp hq=>F'.keep _ _ (hg p hp hq)⟩
variable{C:Addr}{mg mb:X5}{Qt:ExcName->Option Value}
theorem iC{K:Frag}{env:Env}{outer:List Env}{R:Result->Shared->Prop}{name qual:Str}{params:Arguments}{body:Yb}{scope:Scope}{dV kV doc pm PV ct oc:Value}{an od:Option Addr}{RL:Array (Option Value)}{f:Addr}{args:Args}{binds:List (Str×Value)}
  (B:Below A₀ base outer h₀) (F:Fr h₀ L s.heap m) (VW:K.In h₀) (N:News h₀ L s.heap news) (T:TT Qt mg mb h₀) (hA:A.frames=some (env::outer)) (hf:env.frame=some L) (SE:env.scope.kind=.function)
  (SR:∀ p∈P1,p∈news)
  (ho:K.lookup f=some ⟨oc,od, .func (fnOf name qual params body scope dV kV doc pm an PV ct),RL⟩) (QZ:codeIn K PV qual=true) (P9:A.depth<recursionLimit)
  (Qv:BindsTo s (fnOf name qual params body scope dV kV doc pm an PV ct) args binds) (Rz:∀ y∈binds,scope.names.lookup y.1=some .local)
  (h:∀ g L' h₁,Fr h₀ L g m->Fr g L' h₁ (fun y=>binds.reverse.lookup y)->News g L' h₁ P1->Below A base (env::outer) g->K.In g->TT Qt mg mb g->(∀ p∈news,p.1<L')->(∀ p∈news,(∀ q∈P1,q.1≠p.1)->g.get? p.1=some p.2)->
   wpAny MP (A.deeper (envOf qual scope L' f PV)) (execs body (envOf qual scope L' f PV))
    (fun fl s'=>LeaveK h₀ L m g (fun r s'=>md news P1 s'.heap->R r s') (match fl with| .ret v=>v|_=> .none) s')
    (fun e s'=>wpAny MP (A.deeper (envOf qual scope L' f PV)) (leaving (envOf qual scope L' f PV) e) (fun _ Qh=>R (.error e) Qh) (fun e' Qh=>R (.error e') Qh) s')
    {s with heap:=h₁,toks:=s.toks+binds.length})
  (Q0:scope.isCoroutine=false) (QV:scope.isGenerator=false) (hk:scope.kind=.function)
  (P6:∀ x∈scope.names,x.2≠ .cell):codeAny MP A (.call (.ref f) args) R s:=
 A9 (cl:=[]) B F N T.nolimit hA hf SE SR ((VW.keeps F.keep) _ _ ho) rfl (codeRec_of (VW.keeps F.keep) QZ) P9 Qv Rz (fun g L' h₁ FG F' N' B' st hl hg=>h g L' h₁ FG F' N' B' (VW.keeps st) (T.keeps st) hl hg) P6 Q0 QV hk
def rC(i:Int)(v:Value):Prop:=∃ t,v=.int i t
def fe(x:Str)(v:Value):Prop:=∃ t,v=.str x t
theorem fe.of(h:x=y):fe y (.str x t):=⟨t,by exact aa h rfl⟩
variable{h h' g:Heap}{new:X4}
theorem Cf:PySem.Challenge.rw_pk0128_01=PySem.Challenge.rw_pk0128_01/\am=am:=by k_fill;exact⟨rfl,rfl⟩
noncomputable def eZ(part:Int):Int:=
 (if 15<part.fmod 24 then[4,4,4,6,2,10,1,12].getD (part.fmod 24-16).toNat 0 else part.fmod 24)*4096+
  (if 1<(part.fdiv 98304).fmod 4 then Builtin.bitOr ((part.fdiv 24).fmod 4096) 438 else(part.fdiv 24).fmod 4096)
def av(x:Str):Str:=Yc "k1_"++Txt.slice x none (some 1)++Yc ":"++Txt.slice x (some 1) none
structure aE where
 W:Nat
 D:Nat
 data:Nat
 decl:Nat
 ns:Nat
 YB:Nat
 Yn:Nat
 Yh:Nat
 Yt:Nat
 Yu:Nat
theorem i9:Nonempty aE:=⟨⟨0,0,0,0,0,0,0,0,0,0⟩⟩
def aD(a:aE)(t:Nat->Tok)(Yg:Value)(seen done:Bool):List DictEntry:=[
 ⟨PyData.keyHash w.params (Yc "_write"), .str (Yc "_write") (t 0), .ref a.Yt⟩,
 ⟨PyData.keyHash w.params (Yc "_data"), .str (Yc "_data") (t 1), .ref a.data⟩,
 ⟨PyData.keyHash w.params (Yc "_with_comments"), .str (Yc "_with_comments") (t 2), .bool false⟩,
 ⟨PyData.keyHash w.params (Yc "_strip_text"), .str (Yc "_strip_text") (t 3), .bool false⟩,
 ⟨PyData.keyHash w.params (Yc "_exclude_attrs"), .str (Yc "_exclude_attrs") (t 4), .none⟩,
 ⟨PyData.keyHash w.params (Yc "_exclude_tags"), .str (Yc "_exclude_tags") (t 5), .none⟩,
 ⟨PyData.keyHash w.params (Yc "_rewrite_prefixes"), .str (Yc "_rewrite_prefixes") (t 6), .bool true⟩,
 ⟨PyData.keyHash w.params (Yc "_qname_aware_tags"), .str (Yc "_qname_aware_tags") (t 7), .ref a.Yu⟩,
 ⟨PyData.keyHash w.params (Yc "_find_qname_aware_attrs"), .str (Yc "_find_qname_aware_attrs") (t 8), .none⟩,
 ⟨PyData.keyHash w.params (Yc "_declared_ns_stack"), .str (Yc "_declared_ns_stack") (t 9), .ref a.decl⟩,
 ⟨PyData.keyHash w.params (Yc "_ns_stack"), .str (Yc "_ns_stack") (t 10), .ref a.ns⟩,
 ⟨PyData.keyHash w.params (Yc "_prefix_map"), .str (Yc "_prefix_map") (t 11), .ref a.YB⟩,
 ⟨PyData.keyHash w.params (Yc "_preserve_space"), .str (Yc "_preserve_space") (t 12), .ref a.Yn⟩,
 ⟨PyData.keyHash w.params (Yc "_pending_start"), .str (Yc "_pending_start") (t 13),Yg⟩,
 ⟨PyData.keyHash w.params (Yc "_root_seen"), .str (Yc "_root_seen") (t 14), .bool seen⟩,
 ⟨PyData.keyHash w.params (Yc "_root_done"), .str (Yc "_root_done") (t 15), .bool done⟩,
 ⟨PyData.keyHash w.params (Yc "_ignored_depth"), .str (Yc "_ignored_depth") (t 16), .int 0 (t 17)⟩]
theorem yz{α:Type}{x:α}{P:Prop}(e:(none:Option α)=some x):P:=nomatch e
def ie{α:Type}(env:Addr->Option Obj)(S:Setting)(t:Sem α):Option (List Addr×α):=
 Sem.rec (motive:=fun _=>Option (List Addr×α)) (fun a=>some ([],a)) (fun _=>none) (fun _=>none) (fun _=>none) (fun _ _ ih=>ih ()) (fun _ _ _=>none) (fun a _ _ ih=>(env a).elim none fun o=>(ih o).map fun x=>(a::x.1,x.2)) (fun _ _ _ _ _=>none) (fun _ _ _=>none) (fun _ _ _=>none) (fun _ _ ih=>ih ()) (fun _ _ _=>none) (fun _ _=>none) (fun _ ih=>ih S)
  (fun _ _ _ _=>none) (fun _ _ _ _=>none) (fun _ _ _ _ _ _=>none) (fun _ _ _=>none) (fun _ _ _=>none) (fun _ _ _=>none) (fun _ _ _ _ _=>none) (fun _ _ _ _ _=>none) (fun _ _=>none) (fun _ _ _=>none) (fun _ _=>none) (fun _ _ _ _ _ _=>none) t
theorem lU{α:Type}{env:Addr->Option Obj}{M:Model}{A:Around}{Q:α->Shared->Prop}{E:X6}{s:Shared}{r:α}(q:Q r s):
  ∀ {t:Sem α} {as:List Addr},ie env ⟨M.prog,M.w.params⟩ t=some (as,r)->(∀ a∈as,∀ o,env a=some o->s.heap.get? a=some o)->wpAny M A t Q E s:=by
 intro t
 induction t with
 |pure b=>intro as e _ _ _ _;cases (e:some ([],b)=some (as,r));exact q
 |rule _ k ih=>exact fun e h=>ih () e h
 |point _ k ih=>exact fun e h=>ih () e h
 |ask k ih=>exact fun e h=>ih _ e h
 |load a _ k ih=>
  intro as e h Γ p hΓ;have e1:(env a).elim none (fun o=>(ie env ⟨M.prog,M.w.params⟩ (k o)).map fun x=>(a::x.1,x.2))=some (as,r):=e
  cases ho:env a with
  |none=>rw[ho] at e1;cases e1
  |some o=>
   rw[ho] at e1;obtain⟨⟨as',r'⟩,e2,e3⟩:=Ls.mp e1
   cases e3;exact⟨o,h a (.head _) o ho,ih o e2 (fun b hb=>h b (.tail _ hb)) Γ p hΓ⟩
 |_=>exact fun e=>yz e
theorem gE{α:Type}{o:Obj}{M:Model}{A:Around}{Q:α->Shared->Prop}{E:X6}{s:Shared}{t:Sem α}{r:α}{as:List Addr}
  (e:ie (fun _=>some o) ⟨M.prog,M.w.params⟩ t=some (as,r)) (h:∀ a∈as,s.heap.get? a=some o) (q:Q r s):wpAny M A t Q E s:=lU q e fun a ha o' h'=>by cases h';exact h a ha
noncomputable abbrev be(id:String)(self:Value):Obj:={cls:= .type "builtin_function_or_method",data:= .fields #[.builtin id,self]}
end
section
variable{A:Around}{E:X6}{s:Shared}{h₀:Heap}{L:Addr}{m:X5}{news PX:X4}
theorem uv(N:News h₀ L s.heap news)(hm:(l,lO (xs++[v]) c)∈news)(h:Q v s)
  (hs:subscripted slice false (.ref l) (.int (-1) u)=operate [.ref l, .int (-1) u] (getItem (.ref l) (.int (-1) u)):=by with_unfolding_all rfl):
  wpAny MP A (subscriptTail value slice (.ref l) (.int (-1) u)) Q E s:=by
 have hl:s.heap.IsList l (xs++[v]).toArray:=⟨_,(N _ hm).1,rfl,c,rfl⟩;refine tail_any hl.typeIs slot_list_getitem.lookup (wpAny_getItem_list_neg hl (by decide) (by simp;exact u1) (by decide) ?_ h) hs;have e:((-1:Int)+((xs++[v]).toArray.size:Int)).toNat=xs.length:=by simp;exact u2
 refine aa e ?_;simp
theorem qL{id:String}{b:Builtin}{q:Addr}{self:Value}{args:X8}{Q:X6}(hq:s.heap.get? q=some (be id self))(hp:plainId id=true)(hb:entryFor table id=some b)
  (hc:∀ (Q':Unit->Shared->Prop) (E':X6),Q' () s->wpAny MP A.in1 (checkBoundCall id ⟨self::args,[]⟩) Q' E' s)
  (h:wpAny MP A.in1 (b ⟨self::args,[]⟩) (fun fin s'=>∃ v,fin=.done (.ret v)/\Q v s') E s):wpAny MP A (call (.ref q) args) Q E s:=by
 refine OJ (NN ?_);show wpAny _ _ (callAny (.ref q) _) _ _ _;refine Kx (wpAny_load hq ?_);show wpAny _ A.in1 (checkBoundCall id ⟨self::args,[]⟩>>=fun _=>again (.builtin id ⟨self::args,[]⟩)>>=fun x=>pure x) _ _ _;refine Kx (hc _ _ (Kx (KC (KC ⟨M4 hp _,NN ?_⟩))));show wpAny _ _ (match entryFor table id with|some b=>b ⟨self::args,[]⟩|none=>unsupported ((withoutEnding? id "#data").getD id)) _ _ s;refine aa hb (aa (LM hp _) ?_);refine K7 h (fun fin s' h'=>?_) fun _ _ h'=>h';obtain⟨v,rfl,hv⟩:=h';exact hv
theorem ji{id:String}{q:Addr}{self:Value}{pos:Pos}{env:Env}{e:X7}{Q:X6}(_N:News h₀ L s.heap news)(_hm:(q,be id self)∈news)
  (h:wpAny MP A (spliced (backTo pos (starEach [e] env))) (fun vs PZ=>PZ.heap.get? q=some (be id self)/\wpAny MP A (call (.ref q) vs) Q E PZ) E s)
  (he:starEach [e] env=[(false,eval e env)]:=by rfl):
  wpAny MP A (callWith pos (.ref q) [] (backTo pos (starEach [e] env)) []) Q E s:=by
 rw[he] at h⊢;exact callWith_of (P:=fun h=>h.get? q=some (be id self)) rfl (fun h hq=>⟨.machine, .inr (.inl rfl),(Looks.ld (part:=none) hq).andThen .now⟩) (evalArgs_plain h)
theorem oB(D:Addr)(its:Array Value)(n:Nat)(x:Value)(S:Setting):∃ k,ie (fun _=>some (listOf its n)) S (checkBoundCall "list.append" ⟨[.ref D,x],[]⟩)=some (List.replicate k D,()):=by
 first
 |exact⟨1,by kernel_rfl!⟩
 |exact⟨2,by kernel_rfl!⟩
 |exact⟨3,by kernel_rfl!⟩
 |exact⟨4,by kernel_rfl!⟩
 |exact⟨5,by kernel_rfl!⟩
 |exact⟨6,by kernel_rfl!⟩
theorem yR{q D:Addr}{its:Array Value}{n:Nat}{x:Value}{Q:X6}(F:Fr h₀ L s.heap m)(N:News h₀ L s.heap news)(hq:(q,be "list.append" (.ref D))∈news)(U:Upd D (listOf its n) (listOf (its.push x) (n+1)) news PX)
  (h:∀ h',Fr h₀ L h' m->News h₀ L h' PX->Q .none {s with heap:=h'}) (Qf:its.size<=sizeLine:=by size_fits):wpAny MP A (call (.ref q) [x]) Q E s:=by
 obtain⟨pre,post,rfl,rfl,a,b⟩:=U.split;have z:=N (D,listOf its n) (KK.mpr (.inr (.head _)));refine qL (N _ hq).1 (by decide+kernel) entry_list_append (fun Q' E' hQ=>?_) ?_
 ·obtain⟨k,e⟩:=oB D its n x ⟨PR,w.params⟩
  exact gE e (fun a ha=>by refine aa (OT ha) ?_;exact z.1) hQ
 ·show wpAny _ _ (updateSeq D (·.push x)>>=fun _=>ret .none) _ _ s
  refine Kx (wpAny_updateSeq z.1 rfl (KC ⟨.none,rfl,?_⟩));have hs:=Lm s.heap D (Obj.mapSeq (·.push x));refine h _ (F.change hs z.2.1 z.2.2) (news_set N a b hs ?_);exact aa (ML _ z.1 (by rw[mapSeq_push];rfl)) (aa (mapSeq_push _ _ _ _ _) rfl)
noncomputable abbrev AX(h:Heap):Heap:=h.push {cls:= .type "tuple",data:= .seq #[]}
noncomputable abbrev BJ(h:Heap):Heap:=(AX h).push {cls:= .type "StopIteration",data:= .fields (#[.ref h.objs.size, .none, .none, .none, .bool false, .none]++ownMembersOf (.type "StopIteration") [])}
theorem ft{α:Type}{A:Around}{E:X6}{s:Shared}{Q:α->Shared->Prop}(hh:A.handled=none)(h:E (.ref (AX s.heap).objs.size) {s with heap:=BJ s.heap}):wpAny MP A (newExc (.type "StopIteration") []>>=fun e=>raiseNew e) Q E s:=by
 refine Kx ?_;unfold newExc newTuple;refine Kx (LW ?_ (by size_fits));refine Kx (m:=firstArgMember _ _) (Nf (a:=Value.none) (by first|rfl|(simp only[firstArgMember];rfl)) ?_);refine LW ?_ (by size_fits);unfold raiseNew;refine Kx (wpAny_handled ?_);refine aa hh ?_;refine Kx (KC (wpAny_throw ?_));exact h
end
section
variable{A:Around}
def dh(nb C:Nat)(Qq s:Shared):Prop:=bG (fun h' tk=>s={Qq with heap:=h',toks:=tk}) (fun h' _=>∀ b o,b<nb->b≠C->Qq.heap.get? b=some o->h'.get? b=some o)
theorem dh.refl(nb C:Nat)(s:Shared):dh nb C s s:=⟨s.heap,s.toks,rfl,fun _ _ _ _ e=>e⟩
theorem dh.step(x:dh nb C Qq s)(hk:∀ b o,b<nb->b≠C->s.heap.get? b=some o->h'.get? b=some o):dh nb C Qq {s with heap:=h',toks:=tk}:=by
 obtain⟨h₁,Tv,rfl,RZ⟩:=x;exact⟨h',tk,rfl,fun b o hb hc e=>hk b o hb hc (RZ b o hb hc e)⟩
def mn(nb C:Nat):GenEnd:=fun n Qq r PZ=>r=.ok (.ret .none)/\(n=0/\dh nb C Qq PZ)
def bF(h:Heap)(l:X4):Prop:=∀ p∈l,h.get? p.1=some p.2
def gN(nb C:Nat)(sh:X4)(all:X8):Protocol:=fun m Qq v s kap=>all[all.length-1-m]?=some v/\dh nb C Qq s/\
 zj (fun(oC:Obj) (I J:Nat) (oI oJ:Obj)=>nb<=I) (fun _ _ J _ _=>nb<=J) (fun oC I J oI oJ=>bF s.heap [(C,oC),(I,oI),(J,oJ)]) (fun oC I J oI oJ=>∀ Qh:Shared,bF Qh.heap [(C,oC),(I,oI),(J,oJ)]->bF Qh.heap sh->kap (.send .none) Qh)
theorem oP:entryFor table "proto.yield_from"=some Builtin.«proto.yield_from»:=OI (by kernel_rfl)
theorem xH{id:String}{args:Args}{b:Builtin}(hb:entryFor table id=some b):MP.den (.builtin id args)=b args:=by
 show (match entryFor table id with|some b=>b args|none=>unsupported ((withoutEnding? id "#data").getD id))=_;exact aa hb rfl
theorem wc:typeLookup (.type "list_iterator") "close"=pure none:=by refine aa (Oj _ _) (aa Nc ?_);kernel_rfl
theorem jC{M:Model}{E:X6}{s:Shared}{it:Addr}{b:Bool}{T:String}{Q:Unit->Shared->Prop}(hT:s.TypeIs (.ref it) T)(P2:T≠"generator")(h:Q () s):wpAny M A (Builtin.Generator.sleptOver (.ref it) b) Q E s:=by
 obtain⟨o,ho,hc⟩:=hT;unfold Builtin.Generator.sleptOver;dsimp only;refine Kx (wpAny_load ho ?_);refine aa (KW (by rw[hc];simpa using P2)) ?_;exact KC h
theorem AR{nb C I:Nat}{sh:X4}{all items rest:X8}{J l:Nat}{cl:Nat}{kf:Result->Sem Fin}{gf:Bool}{lf:X8}{WC:Code}{XH:Pos}{kp:X8}{fs:List Frame}
  (hh:(marksOver (.ret kf none gf lf WC XH kp::fs) (A.handled,A.handled)).1=none) (hJ:nb<=J) (hI:nb<=I) (hls:(l,lO items cl)∈sh) (hlJ:l≠J)
  (RY:splitAtGen (.ret kf none gf lf WC XH kp::fs)=none) (hfg:(Frame.ret kf none gf lf WC XH kp::fs).any Frame.guarded=false)
  (G:Heap->Prop) (hG1:∀ h,G h->bV (fun oC oI=>h.get? C=some oC) (fun _ oI=>h.get? I=some oI) (fun oC oI=>∀ h',h'.get? C=some oC->h'.get? I=some oI->bF h' sh->G h')) (hG2:∀ h h',G h->Heap.ExtBut J h h'->G h')
  (Ra:∀ Qq s,G s.heap->dh nb C Qq s->Seg MP A (mn nb C) (gN nb C sh all) rest.length Qq WC (kf (.ok (.ret .none))) fs s):
  ∀ (k j:Nat) (Qq s:Shared),items.length-j=k->j<=items.length->(∃ pre,all=pre++(items.drop j++rest))->s.heap.IsListIter J l j->s.heap.IsList l items.toArray->G s.heap->dh nb C Qq s->
   Seg MP A (mn nb C) (gN nb C sh all) (k+rest.length) Qq (.builtin "proto.yield_from" ⟨[.ref J, .bool false, .none],[]⟩) (MP.den (.builtin "proto.yield_from" ⟨[.ref J, .bool false, .none],[]⟩))
    (.ret kf none gf lf WC XH kp::fs) s:=by
 intro k
 induction k with
 |zero=>
  intro j Qq s hk hj hall QE hl hg Sk;have S1:j=items.length:=sZ hk hj;subst S1;refine aa (xH oP) ?_;unfold Builtin.«proto.yield_from»;dsimp only;refine NP (Nf (a:=Value.none) rfl ?_);refine NP (Nt (Li ?_));refine aa (KM KP) (aa (KW (show ((Value.none==Value.none)=true) from rfl)) ?_);obtain⟨o,ho,hc,hd⟩:=id QE;obtain⟨ol,R0,_,nl,Qy⟩:=id hl;refine Kx (My ?_);refine Kx (Mn (name:=Yc "__next__") QE.typeIs O1 (LQ O1 QE.typeIs entry_listiter_next ?_ (args_listiter_next _)));show wpAny _ _ (field (.ref J) 0>>=_) _ _ s;refine Kx (Mf ho hd (x:= .ref l) rfl ?_);show wpAny _ _ (if (Value.ref l==Value.none)=true then _ else _) _ _ s;refine aa (KM (show¬((Value.ref l==Value.none)=true) from KP)) ?_;show wpAny _ _ (field (.ref J) 1>>=_) _ _ s;refine Kx (Mf ho hd (x:= .int (items.length:Nat) 0) rfl ?_);show wpAny _ _ (seqItems? (.ref l)>>=_) _ _ s;refine Kx (NX R0 Qy ?_);dsimp only;refine aa (K8 _) (aa (show (items.toArray)[items.length]?=none from by simp) ?_);refine Kx (My (Kx (O4 ho hd (by simp) ?_)));refine ft hh ?_;refine NP ?_;unfold Builtin.Generator.endsTheTurnAsAValue Builtin.Generator.isStopAndMetaclass;refine Kx (Kx (Oz (T:="StopIteration") ⟨_,La _ rfl,rfl⟩ ?_));dsimp only;refine Kx (Nf isSubtype_stop ?_);refine Kx (Nf (a:=Value.type "type") (by kernel_rfl) (KC ?_));dsimp only;refine aa (KM KP) ?_;refine KC ?_;refine aa (KW rfl) (aa (KM KP) ?_);refine NP (My ?_);refine NP (Mf (La _ rfl) rfl (x:= .none) rfl ?_);refine seg_leaf (.ok (.ret .none)) ?_;have UC:Heap.ExtBut J s.heap (((s.heap.update J (Obj.mapFields fun x=>x.setIfInBounds 0 Value.none)).push {cls:=Value.type "tuple",data:=Data.seq #[]}).push {cls:=Value.type "StopIteration",data:=Data.fields (#[Value.ref (s.heap.update J (Obj.mapFields fun x=>x.setIfInBounds 0 Value.none)).objs.size,Value.none,Value.none,Value.none,Value.bool false,Value.none]++ownMembersOf (Value.type "StopIteration") [])}):=(((Lm ..).extBut.push _).push _);refine aa (Nk _) ?_;exact Ra Qq _ (hG2 _ _ hg UC) (Sk.step (tk:=s.toks) fun b o hb _ e=>UC b o (by intro h;subst h;exact absurd hb (MW.mpr hJ)) e)
 |succ k ih=>
  intro j Qq s hk hj hall QE hl hg Sk;have PU:j<items.length:=sJ hk;refine aa (xH oP) ?_;unfold Builtin.«proto.yield_from»;dsimp only;refine NP (Nf (a:=Value.none) rfl ?_);refine NP (Nt (Li ?_));refine aa (KM KP) (aa (KW (show ((Value.none==Value.none)=true) from rfl)) ?_);obtain⟨o,ho,hc,hd⟩:=id QE;obtain⟨ol,R0,_,nl,Qy⟩:=id hl;refine Kx (My ?_);refine Kx (Mn (name:=Yc "__next__") QE.typeIs O1 (LQ O1 QE.typeIs entry_listiter_next ?_ (args_listiter_next _)));show wpAny _ _ (field (.ref J) 0>>=_) _ _ s;refine Kx (Mf ho hd (x:= .ref l) rfl ?_);show wpAny _ _ (if (Value.ref l==Value.none)=true then _ else _) _ _ s;refine aa (KM (show¬((Value.ref l==Value.none)=true) from KP)) ?_;show wpAny _ _ (field (.ref J) 1>>=_) _ _ s;refine Kx (Mf ho hd (x:= .int (j:Nat) 0) rfl ?_);show wpAny _ _ (seqItems? (.ref l)>>=_) _ _ s;refine Kx (NX R0 Qy ?_);dsimp only;refine aa (K8 _) (aa (show (items.toArray)[j]?=some items[j] from by simp[PU]) ?_);refine Kx (O4 ho hd (by simp) (KC ⟨_,rfl,KC ?_⟩));refine NP (Oz (T:="list_iterator") ⟨_,ML _ ho (Ov (NK hd _)),(Obj.cls_mapFields ..).trans hc⟩ ?_);dsimp only;refine NP (Nf wc ?_);refine NP (KC ?_);have hty:∀ h':Heap,h'.IsListIter J l (j+1)->({s with heap:=h'}:Shared).TypeIs (.ref J) "list_iterator":=fun h' x=>let ⟨o,ho,hc,_⟩:=x;⟨o,ho,hc⟩;have Ti:(s.heap.update J (Obj.mapFields fun x=>x.setIfInBounds 1 (rawInt (j+1)))).IsListIter J l (j+1):=
   ⟨_,ML _ ho (Ov (NK hd _)),(Obj.cls_mapFields ..).trans hc,by refine aa (NK hd _) ?_;simp[rawInt]⟩
  refine NP (jC (hty _ Ti) (by decide) ?_);have UC:Heap.ExtBut J s.heap (s.heap.update J (Obj.mapFields fun x=>x.setIfInBounds 1 (rawInt (j+1)))):=(Lm ..).extBut;have hg':=hG2 _ _ hg UC;generalize s.heap.update J (Obj.mapFields fun x=>x.setIfInBounds 1 (rawInt (j+1)))=h₁ at Ti UC hg'⊢;refine aa (show k+1+rest.length=(k+rest.length)+1 from LE [_,_] (.a (.a V0 W1) V1) (.a (.a V0 V1) W1) rfl) ?_;obtain⟨pre,QW⟩:=hall;have W3:items.drop j=items[j]::items.drop (j+1):=(List.getElem_cons_drop PU).symm;show Seg _ _ _ _ _ _ _ (Sem.yield _ _ _ _) _ _;obtain⟨oC,oI,hoC,hoI,hback⟩:=hG1 _ hg';obtain⟨oJ,hoJ,hcJ,hdJ⟩:=id Ti;refine seg_yield RY rfl hfg ⟨?_,Sk.step (tk:=s.toks) fun b o hb _ e=>UC b o (by intro h;subst h;exact absurd hb (MW.mpr hJ)) e,oC,I,J,oI,oJ,hI,hJ,?_,fun Qh QC Sj=>?_⟩
  ·refine aa QW (aa W3 (aa (LS (by simp;exact s6 hk)) ?_))
   simp only[KH,Lc,Nx];exact aa (show pre.length+(items.length-(j+1)+1+rest.length)-1-(k+rest.length)-pre.length=0 from s7 hk) rfl
  ·intro p hp
   simp only[KG,Lw,O0] at hp;rcases hp with rfl|rfl|rfl
   ·exact hoC
   ·exact hoI
   ·exact hoJ
  ·have hit2:Qh.heap.IsListIter J l (j+1):=⟨oJ,QC (J,oJ) (by simp),hcJ,hdJ⟩
   have Uo:Qh.heap.IsList l items.toArray:=⟨_,Sj _ hls,rfl,cl,rfl⟩;show Seg _ _ _ _ _ _ _ (Builtin.Generator.sleptOver (.ref J) false>>=_) _ _;refine NP (jC (T:="list_iterator") (let ⟨o,ho,hc,_⟩:=hit2;⟨o,ho,hc⟩) (by decide) ?_);refine NP (Nf (a:=Value.none) rfl ?_);exact seg_again (Code.quiet_builtin _ (by decide+kernel)) (ih (j+1) Qh Qh (sP hk) PU ⟨pre++[items[j]],by refine aa QW (aa W3 (aa (KQ _ _ _) ?_));rfl⟩ hit2 Uo (hback _ (QC (C,oC) (by simp)) (QC (I,oI) (by simp)) Sj) (dh.refl _ _ _))
noncomputable abbrev iN(p1 p2 p3 p4:Pos):Yb:=[.If (.Name "namespaces" p1) [.Expr (.YieldFrom (.Name "namespaces" p2) p3) p3] [] p4]
abbrev jg:=List (Nat×X8×Nat)
noncomputable def aI (xs:jg):X8:=xs.reverse.flatMap (·.2.1)
noncomputable def bH (L cL:Nat) (xs:jg):X4:=(L,lO (xs.map fun x=>Value.ref x.1) cL)::xs.map fun x=>(x.1,lO x.2.1 x.2.2)
structure dU(env:Env)(I L cL:Nat)(xs:jg)(i:Int)(h:Heap):Prop where
 it:h.IsRevIter I L i
 sh:bF h (bH L cL xs)
 loc:∃ m,h.Ns env.locals m
theorem dU.stk(x:dU env I L cL xs i h):h.IsList L (xs.map fun x=>Value.ref x.1).toArray:=⟨_,x.sh (L,_) (M9 ..),rfl,cL,rfl⟩
theorem dU.each(x:dU env I L cL xs i h)(y:Nat×X8×Nat)(hy:y∈xs):h.IsList y.1 y.2.1.toArray:=
 ⟨_,x.sh (y.1,lO y.2.1 y.2.2) (List.mem_cons_of_mem _ (KI.mpr ⟨y,hy,rfl⟩)),rfl,_,rfl⟩
theorem bF.keeps(x:bF h l)(P:Addr->Prop)(hp:∀ p∈l,P p.1)(hk:∀ b o,P b->h.get? b=some o->h'.get? b=some o):bF h' l:=fun p hm=>hk _ _ (hp p hm) (x p hm)
theorem dU.keeps(x:dU env I L cL xs i h)(P:Addr->Prop)(hI:P I)(hs:∀ p∈bH L cL xs,P p.1)(hc:P env.locals)
  (hk:∀ b o,P b->h.get? b=some o->h'.get? b=some o):dU env I L cL xs i h' where
 it:=x.it.at fun o e=>hk _ o hI e
 sh:=x.sh.keeps P hs hk
 loc:=let ⟨m,hm⟩:=x.loc;⟨m,hm.at' fun o e=>hk _ o hc e⟩
theorem dU.again(x:dU env I L cL xs i h):bV (fun oC oI=>h.get? env.locals=some oC) (fun _ oI=>h.get? I=some oI) (fun oC oI=>∀ h':Heap,h'.get? env.locals=some oC->h'.get? I=some oI->bF h' (bH L cL xs)->dU env I L cL xs i h'):=by
 obtain⟨m,oC,es,ep,h1,h2⟩:=x.loc;obtain⟨oI,h3,h4⟩:=x.it;exact⟨oC,oI,h1,h3,fun h' e1 e2 e3=>⟨⟨oI,e2,h4⟩,e3,⟨m,oC,es,ep,e1,h2⟩⟩⟩
theorem AQ{M:Model}{R:GenEnd}{Y:Protocol}{n:Nat}{Qq:Shared}{c:Code}{fs:List Frame}{s:Shared}{env:Env}{K:Flow->Sem PySem.Fin}{H:Value->Sem PySem.Fin}{gd lv}{test:X7}{body orelse:Yb}{pos:Pos}
  (h:wpAny M (A.over c fs) (isTrue test env (eval test env)) (fun b s'=>if b=true then Seg M A R Y n Qq c ((execs body env).wrap K H gd lv) fs s' else Seg M A R Y n Qq c ((execs orelse env).wrap K H gd lv) fs s')
   (fun x s'=>Seg M A R Y n Qq c (H x) fs s') s):Seg M A R Y n Qq c ((exec (.If test body orelse pos) env).wrap K H gd lv) fs s:=by
 refine aa (exec_If _ _ _ _ _) ?_;refine LT (LF ?_);refine LT (K7 h (fun b s' hb=>?_) fun _ _ x=>x)
 cases b<;>exact hb
theorem sr{nb:Nat}{xs:jg}{I L cL:Nat}{env:Env}{p0 p1 p2 p3 p4:Pos}{kF:Result->Sem PySem.Fin}{lF:X8}{cF:Code}{pF:Pos}{kpF:X8}
  (hh:A.handled=none) (hI:nb<=I) (hC:env.locals<nb) (hsC:∀ p∈bH L cL xs,p.1≠env.locals) (Q3:∀ p∈bH L cL xs,p.1<nb)
  (QI:∀ x∈xs,(x.2.1.length:Int)<2^63)
  (hn:env.kindOf "namespaces"=some .local) (hk:env.scope.kind=.function) (hi:interactive env=false)
  (WF:∀ Qq s,dh nb env.locals Qq s->Seg MP A (mn nb env.locals) (gN nb env.locals (bH L cL xs) (aI xs)) 0 Qq cF (kF (.ok .next)) [] s):
  ∀ (m:Nat) (Qq s:Shared),m<=xs.length->dU env I L cL xs ((m:Int)-1) s.heap->dh nb env.locals Qq s->
   Seg MP A (mn nb env.locals) (gN nb env.locals (bH L cL xs) (aI xs)) (aI (xs.take m)).length Qq (.forLoop (.Name "namespaces" p0) (.ref I) (iN p1 p2 p3 p4) [] env)
    (MP.den (.forLoop (.Name "namespaces" p0) (.ref I) (iN p1 p2 p3 p4) [] env)) [.ret kF none false lF cF pF kpF] s:=by
 have SV:I≠env.locals:=MF (K6 (K9 hC hI));have hp:(env.scope.kind== .class||(env.scope.kind== .module&&env.locals !=env.globals))=false:=aa hk rfl;intro m
 induction m with
 |zero=>
  intro Qq s hm hG Sk;show Seg _ A _ _ _ Qq _ ((forTurn (.Name "namespaces" p0) (.ref I) (iN p1 p2 p3 p4) [] env).onRaise (fun x=>do noteFrame x env;theTreesLotGoes x)) _ s;unfold forTurn;refine aa (Sem.onRaise_eq_wrap _ _) ?_;refine LT (LF ?_);refine LT (wpAny_onRaise ?_);refine wpAny_pyNext_rev_end hh hG.it fun h' he=>?_;refine seg_again rfl ?_;show Seg _ A _ _ _ Qq _ ((((execs [] env).onRaise (fun x=>do noteFrame x env;theTreesLotGoes x))>>=fun f=>pure (.done f)):Sem PySem.Fin) _ _;refine seg_leaf (.ok .next) ?_;exact WF _ _ (Sk.step (tk:=s.toks) fun b o hb _ e=>he b o (by intro h;subst h;exact absurd hb (MW.mpr hI)) e)
 |succ m ih=>
  intro Qq s hm hG Sk;have PU:m<xs.length:=hm;obtain⟨l,items,cl,hx⟩:rv (fun l items cl=>xs[m]=(l,items,cl)):=⟨_,_,_,rfl⟩;have Rj:(l,items,cl)∈xs:=hx▸M5 PU;have W8:aI (xs.take (m+1))=items++aI (xs.take m):=by
   unfold aI;refine aa (List.take_succ_eq_append_getElem PU) (aa Nu (aa hx ?_));rfl
  have QE:s.heap.IsRevIter I L ((m:Nat):Int):=by have:=hG.it;rwa [show ((m+1:Nat):Int)-1=(m:Nat) from tY] at this
  show Seg _ A _ _ _ Qq _ ((forTurn (.Name "namespaces" p0) (.ref I) (iN p1 p2 p3 p4) [] env).onRaise (fun x=>do noteFrame x env;theTreesLotGoes x)) _ s;unfold forTurn;refine aa (Sem.onRaise_eq_wrap _ _) ?_;refine LT (LF ?_);refine LT (wpAny_onRaise ?_);refine wpAny_pyNext_rev_item (x:= .ref l) QE hG.stk (by simp[PU,hx]) fun h₁ Wh U0=>?_;dsimp only;have RZ:∀ b o,b≠I->s.heap.get? b=some o->h₁.get? b=some o:=fun b o hb e=>U0.extBut b o hb e;obtain⟨mm,PQ⟩:=hG.loc;refine LT (Nf (a:=()) rfl ?_);refine LT (Op (wpAny_storeName_local hn (PQ.at' fun o e=>RZ _ o (MF SV) e) (fun R8 V5 S8=>?_) hp));have XM:∀ b o,b≠I->b≠env.locals->s.heap.get? b=some o->R8.get? b=some o:=fun b o hb RX e=>S8.extBut b o RX (RZ b o hb e);have V4:dU env I L cL xs ((m:Int)-1) R8:=
   ⟨Wh.at fun o e=>S8.extBut _ o SV e,hG.sh.keeps (fun b=>b≠I/\b≠env.locals) (fun p hp=>⟨K6 (K9 (Q3 p hp) hI),hsC p hp⟩) fun b o hb e=>XM b o hb.1 hb.2 e,⟨_,V5⟩⟩
  have V6:dh nb env.locals Qq {s with heap:=R8,toks:=s.toks+1}:=Sk.step fun b o hb hc e=>XM b o (by rintro rfl;exact EN hb hI) hc e
  (refine aa (Sem.bind_eq_wrap' _ _) ?_;rw[Sem.wrap_wrap])
  refine seg_execs_cons (AQ (wpAny_isTrue_value ?_));refine wpAny_Name (NT hk hn V5 (v:= .ref l) (by simp) ?_);refine wpAny_truthy_list (V4.each _ Rj) (by simpa using QI _ Rj) ?_;refine aa W8 ?_
  cases items with
  |nil=>
   refine aa (KM (by simp)) ?_;refine seg_execs_nil ?_;refine seg_again rfl ?_;exact ih Qq _ (AL hm) V4 (V6.step fun _ _ _ _ e=>e)
  |cons x items=>
   refine aa (KW (by simp)) ?_;refine seg_execs_cons ?_;refine aa (exec_Expr env _ p3 hi rfl) ?_;refine LT (LF ?_);show Seg _ A _ _ _ _ _ (((eval (.Name "namespaces" p2) env>>=fun v=>standAt p3>>=fun _=>yieldFrom env v)>>=_).wrap _ _ _ _) _ _;refine aa (bind_assoc _ _ _) ?_;refine LT (wpAny_Name (NT hk hn V5 (v:= .ref l) (by simp) ?_));refine aa (bind_assoc _ _ _) ?_;refine LT (LF ?_);unfold yieldFrom;refine aa (bind_assoc _ _ _) ?_;refine LT (Oz (V4.each _ Rj).typeIs ?_);refine aa (KM (by decide)) (aa (bind_assoc _ _ _) ?_);refine LT (Li (wpAny_pyIter_list (V4.each _ Rj) ?_));refine seg_call fun p=>?_;refine aa KH ?_;have Qf:∀ b o,R8.get? b=some o->b<R8.objs.size:=fun b o e=>KO e;have QH:I<R8.objs.size:=let ⟨o,ho,_⟩:=V4.it;Qf _ o ho;have hbC:env.locals<R8.objs.size:=V5.lt;have hls:((l:Addr),lO (x::items) cl)∈bH L cL xs:=List.mem_cons_of_mem _ (KI.mpr ⟨_,Rj,rfl⟩);have hlb:l<nb:=Q3 _ hls;have hJb:nb<=R8.objs.size:=LD (Lv hI QH);have XK:dU env I L cL xs ((m:Int)-1) (R8.push {cls:= .type "list_iterator",data:= .fields #[.ref l, .int 0 0]}):=V4.keeps (fun _=>True) trivial (fun _ _=>trivial) trivial fun b o _ e=>KL _ e;refine AR (items:=x::items) (rest:=aI (xs.take m)) (J:=R8.objs.size) (l:=l) (I:=I) ?_ hJb hI hls (K6 (K9 hlb hJb)) ?_ ?_
    (fun h=>dU env I L cL xs ((m:Int)-1) h) (fun h x=>x.again)
    (fun h h' x hk=>x.keeps (·≠R8.objs.size) (K6 QH) (fun y hy=>K6 (K9 (Q3 y hy) hJb)) (K6 hbC) fun b o hb e=>hk b o hb e) ?_
    (x::items).length 0 Qq _ (by simp) (by exact L0 [_] W0 V0 rfl) ⟨aI (xs.drop (m+1)),?_⟩ ⟨_,La _ rfl,rfl,rfl⟩ (XK.each _ Rj) XK (V6.step (tk:=s.toks+1+1+1) fun b o hb _ e=>KL _ e)
   ·exact hh
   ·rfl
   ·rfl
   ·intro Qq s' hG' S7
    exact seg_again rfl (ih Qq s' (AL hm) hG' S7)
   ·(rw[List.drop_zero];refine ae W8 ?_)
    unfold aI;exact ae N8 (ae Nu (aa (Ps _ _) rfl))
noncomputable abbrev lz(p0 p1 p2 p3 p4 p5 p6 p7 p8:Pos):Stmt:= .For (.Name "namespaces" p0) (.Call (.Name "_reversed" p5) [.Name "ns_stack" p6] [] p7) (iN p1 p2 p3 p4) [] p8
theorem yK
  (hh:A.handled=none) (hC:env.locals<nb) (hsC:∀ p∈bH L cL xs,p.1≠env.locals) (Q3:∀ p∈bH L cL xs,p.1<nb)
  (QI:∀ x∈xs,(x.2.1.length:Int)<2^63)
  (hn:env.kindOf "namespaces"=some .local) (hn1:env.kindOf "_reversed"=some .local) (hn2:env.kindOf "ns_stack"=some .local) (hk:env.scope.kind=.function) (hi:interactive env=false)
  (UR:m "_reversed"=some (.type "reversed")) (Tk:m "ns_stack"=some (.ref L))
  (s:Shared) (Qf:nb<=s.heap.objs.size) (hN:s.heap.Ns env.locals m) (hS:bF s.heap (bH L cL xs)):
  Seg MP A (mn nb env.locals) (gN nb env.locals (bH L cL xs) (aI xs)) (aI xs).length s (.func [lz p0 p1 p2 p3 p4 p5 p6 p7 p8] env) (MP.den (.func [lz p0 p1 p2 p3 p4 p5 p6 p7 p8] env)) [] s:=by
 refine seg_func (seg_execs_cons ?_);refine aa (exec_For _ _ _ _ _) ?_;refine LT (LF ?_);refine LT (wpAny_Call_NameR (wpAny_Name (NT hk hn1 hN UR ?_)));refine callWith_type1 (wpAny_Name (NT hk hn2 hN Tk ?_));have hSl:s.heap.IsList L (xs.map fun x=>Value.ref x.1).toArray:=⟨_,hS (L,_) (M9 ..),rfl,cL,rfl⟩;refine call_reversed_list hSl ?_;refine LT (Nf (a:=Value.ref s.heap.objs.size) rfl ?_);refine LT (LF ?_);have hz:(xs.map fun x=>Value.ref x.1).toArray.size=xs.length:=by simp
 have QE:(s.heap.push (revObj L (((xs.map fun x=>Value.ref x.1).toArray.size:Int)-1))).IsRevIter s.heap.objs.size L ((xs.length:Int)-1):=by
  refine aa hz ?_;exact⟨_,La _ rfl,rfl,rfl⟩
 refine LT (Li (wpAny_pyIter_revIter QE ?_));refine seg_call fun p=>?_;have e:aI xs=aI (xs.take xs.length):=by exact aa Lk rfl
 conv=>arg 5;rw[e]
 have keep:∀ b o,s.heap.get? b=some o->(s.heap.push (revObj L (((xs.map fun x=>Value.ref x.1).toArray.size:Int)-1))).get? b=some o:=fun b o e=>KL _ e;refine sr hh Qf hC hsC Q3 QI hn hk hi ?_ xs.length s _ (KZ _) ⟨QE,fun p hp=>keep _ _ (hS p hp),⟨m,hN.at' fun o e=>keep _ o e⟩⟩
  ((dh.refl _ _ s).step (tk:=s.toks) fun b o _ _ e=>keep b o e)
 intro Qq PZ h;exact seg_end (.ok (.ret .none)) ⟨rfl,rfl,h⟩
variable{E:X6}{s:Shared}
theorem nq{a:Addr}{g n:Nat}{gs:GenState}{P:Nat->Shared->Shared->Prop}{Y:Protocol}{Q:Option Value->Shared->Prop}(hh:A.handled=none)
  (hl:s.heap.NoLimit) (P9:A.depth<recursionLimit) (hg:s.heap.IsGen a g) (Ul:s.gens[g]?=some gs)
  (hgo:gs.Goes MP A.in1 (fun n Qq r PZ=>r=.ok (.ret .none)/\P n Qq PZ) Y n (.send .none) (s.setGen g .running))
  (hY:∀ v PZ T7,T7.bare=true->Y (n-1) (s.setGen g .running) v PZ (fun r' Qh=>match n with
    |0=>False
    |m+1=>T7.Goes MP A.in1 (fun n Qq r PZ=>r=.ok (.ret .none)/\P n Qq PZ) Y m r' Qh)->Q (some v) (PZ.setGen g T7))
  (hP:∀ PZ,P n (s.setGen g .running) PZ->∀ h',(∀ b o,PZ.heap.get? b=some o->h'.get? b=some o)->Q none {PZ.setGen g .finished with heap:=h'}):
  wpAny MP A (pyNext (.ref a)) Q E s:=by
 unfold pyNext;refine Kx (Nt (Mn (name:=Yc "__next__") hg.typeIs slot_gen_next
  (LQ slot_gen_next hg.typeIs entry_gen_next ?_ (args_gen_next _))))
 show wpAny _ A.in1 (Builtin.Generator.genWake (.ref a) (.send .none)) _ _ s;unfold Builtin.Generator.genWake;refine Kx (Li (wpAny_genNumber hg (Kx (wpAny_genState Ul ?_))))
 cases gs with
 |running=>exact hgo.elim
 |finished=>exact hgo.elim
 |_=>
  refine Kx (wpAny_roomToWake hl P9 ?_);show wpAny _ A.in1 (.resume g (.send .none) [] _) _ _ s;refine wpAny_resumeQ Ul hgo (fun x PZ hx=>?_) (fun v PZ T7 hb hv=>?_)
  ·obtain⟨rfl,hp⟩:=hx
   show wpAny _ A.in1 ((newExc (.type "StopIteration") []>>=fun e=>raiseNew e)>>=_) _ _ _;refine Kx (ft hh ?_);refine Kx (ND (T:="StopIteration") (b:=true) ⟨_,La _ rfl,rfl⟩ isSubtype_stop ?_);exact KC (hP PZ hp _ fun b o hb=>KL _ (KL _ hb))
  ·exact KC ⟨v,rfl,KC (hY v PZ T7 hb hv)⟩
def oW(o:Obj)(g:Nat):Prop:=bV (fun nm qn=>o.cls=.type "generator") (fun nm qn=>o.data=.fields #[.int g 0,nm,qn]) (fun _ _=>o.slots=#[])
inductive fm(A:Around)(nb C L cL:Nat)(xs:jg)(a:Nat)(g j:Nat)(own:X4)(s:Shared):Prop
 |mk (oa oC oI oJ:Obj) (I J:Nat):own=[(a,oa),(C,oC),(I,oI),(J,oJ)]->C<=I->C<=J->oW oa g->bF s.heap own->aM (fun gs=>s.gens[g]?=some gs) (fun gs=>∀ Qh:Shared,bF Qh.heap own->bF Qh.heap (bH L cL xs)->
   gs.Goes MP A.in1 (mn nb C) (gN nb C (bH L cL xs) (aI xs)) ((aI xs).length-j) (.send .none) Qh)->fm A nb C L cL xs a g j own s
theorem fm.lies(x:fm A nb C L cL xs a g j own s)(TG:C<=a):∀ p∈own,C<=p.1:=by
 obtain⟨oa,oC,oI,oJ,I,J,rfl,h1,h2,_⟩:=x;intro p hp;simp only[KG,Lw,O0] at hp;rcases hp with rfl|rfl|rfl|rfl
 ·exact TG
 ·exact KZ _
 ·exact h1
 ·exact h2
theorem fm.to(x:fm A nb C L cL xs a g j own s)(hh:bF s'.heap own)(hg:s'.gens=s.gens):fm A nb C L cL xs a g j own s':=by
 obtain⟨oa,oC,oI,oJ,I,J,rfl,h1,h2,h3,h4,gs,h5,h6⟩:=x;exact⟨oa,oC,oI,oJ,I,J,rfl,h1,h2,h3,hh,gs,by refine aa hg ?_;exact h5,h6⟩
theorem fm.item{nb C L cL:Nat}{xs:jg}{a:Nat}{g j:Nat}{own:X4}{v:Value}{Q:Option Value->Shared->Prop}(hh:A.handled=none)(hl:s.heap.NoLimit)(P9:A.depth<recursionLimit)
  (TG:C<a) (Sg:a<nb) (x:fm A nb C L cL xs a g j own s) (Sj:bF s.heap (bH L cL xs)) (hv:(aI xs)[j]?=some v)
  (hQ:∀ h' tk Qe WW,fm A nb C L cL xs a g (j+1) WW ⟨h',Qe,s.drawn,tk,s.os⟩->(∀ b o,b<nb->b≠C->s.heap.get? b=some o->h'.get? b=some o)->(AllBare s.gens->AllBare Qe)->
   Q (some v) ⟨h',Qe,s.drawn,tk,s.os⟩):wpAny MP A (pyNext (.ref a)) Q E s:=by
 obtain⟨oa,oC,oI,oJ,I,J,rfl,h1,h2,h3,h4,gs,h5,h6⟩:=x;have PU:j<(aI xs).length:=by
  rcases M3 j (aI xs).length with h|h
  ·exact h
  ·rw[NM h] at hv;cases hv
 obtain⟨m,hm⟩:∃ m,(aI xs).length-j=m+1:=⟨(aI xs).length-j-1,s1 PU⟩;rw[hm] at h6;have hoa:=h4 (a,oa) (M9 ..);have hG:s.heap.IsGen a g:=let ⟨nm,qn,r1,r2,r3⟩:=h3;⟨oa,nm,qn,hoa,r1,r2,r3⟩;refine nq (P:=fun n Qq PZ=>n=0/\dh nb C Qq PZ) hh hl P9 hG h5 (h6 _ (fun p hp=>h4 p hp) (fun p hp=>Sj p hp)) (fun v' PZ T7 hb hy=>?_) (fun PZ hp h' hk=>?_)
 ·obtain⟨Uw,⟨h₁,Tv,rfl,RZ⟩,Qo,I',J',Q1,oJ',hI',hJ',R7,WG⟩:=hy
  rw[show (aI xs).length-1-(m+1-1)=j from s5 hm,hv] at Uw
  cases Uw;refine hQ _ _ _ [(a,oa),(C,Qo),(I',Q1),(J',oJ')] ⟨oa,Qo,Q1,oJ',I',J',rfl,by exact L3 [_,_,_,_] V0 V3 1 (.a V0 W1) V1 1 (.a V1 W1) V2 1 V2 V3 rfl TG Sg hI',by exact L3 [_,_,_,_] V0 V3 1 (.a V0 W1) V1 1 (.a V1 W1) V2 1 V2 V3 rfl TG Sg hJ',h3,?_,T7,setGen_self (gs:= .running) (setGen_self h5),fun Qh ha hs=>?_⟩ (fun b o hb hc e=>RZ b o hb hc e) fun QC=>?_
  ·intro p hp
   rcases KG.mp hp with rfl|hp
   ·exact RZ a oa Sg (MF (K6 TG)) hoa
   ·exact R7 p hp
  ·exact aa (show (aI xs).length-(j+1)=m from sP hm) (WG Qh (fun p hp=>ha p (List.mem_cons_of_mem _ hp)) hs)
  ·exact GenOnlyQ.bare (GenOnlyQ.of ((GenOnly.setGen s g .running).trans (GenOnly.setGen _ g T7)) (setGen_self (gs:= .running) (setGen_self h5)) hb) QC
 ·exact absurd hp.1 (Pm m)
theorem fm.done{nb C L cL:Nat}{xs:jg}{a:Nat}{g j:Nat}{own:X4}{Q:Option Value->Shared->Prop}(hh:A.handled=none)(hl:s.heap.NoLimit)(P9:A.depth<recursionLimit)
  (x:fm A nb C L cL xs a g j own s) (Sj:bF s.heap (bH L cL xs)) (Q3:∀ p∈bH L cL xs,p.1<nb/\p.1≠C) (hj:j=(aI xs).length)
  (hQ:∀ h' tk Qe,(∀ b o,b<nb->b≠C->s.heap.get? b=some o->h'.get? b=some o)->(AllBare s.gens->AllBare Qe)->Q none ⟨h',Qe,s.drawn,tk,s.os⟩):wpAny MP A (pyNext (.ref a)) Q E s:=by
 obtain⟨oa,oC,oI,oJ,I,J,rfl,h1,h2,h3,h4,gs,h5,h6⟩:=x;subst hj;rw[OY] at h6;have hG:s.heap.IsGen a g:=let ⟨nm,qn,r1,r2,r3⟩:=h3;⟨oa,nm,qn,h4 (a,oa) (M9 ..),r1,r2,r3⟩;refine nq (P:=fun n Qq PZ=>n=0/\dh nb C Qq PZ) hh hl P9 hG h5 (h6 _ (fun p hp=>h4 p hp) (fun p hp=>Sj p hp)) (fun v' PZ T7 hb hy=>?_) (fun PZ hp h' hk=>?_)
 ·obtain⟨_,⟨h₁,Tv,rfl,RZ⟩,Qo,I',J',Q1,oJ',_,_,R7,WG⟩:=hy
  exact False.elim (WG _ R7 fun p hp=>RZ p.1 p.2 (Q3 p hp).1 (Q3 p hp).2 (Sj p hp))
 ·obtain⟨_,h₁,Tv,rfl,RZ⟩:=hp
  refine hQ _ _ _ (fun b o hb hc e=>hk b o (RZ b o hb hc e)) fun QC=>?_;exact GenOnlyQ.bare (GenOnlyQ.of ((GenOnly.setGen s g .running).trans (GenOnly.setGen _ g .finished)) (setGen_self (gs:= .running) (setGen_self h5)) rfl) QC
def A5(h₀:Heap)(L':Addr)(own:X4)(J:X5->X4->Prop)(V9:Array GenState)(os:OsState)(Q:Flow->Shared->Prop)(f:Flow)(s':Shared):Prop:=
 match f with
 | .next| .cont=>iy (fun m' PX=>Fr h₀ L' s'.heap m') (fun _ PX=>News h₀ L' s'.heap (own++PX)) (fun m' PX=>J m' PX) (fun _ _=>s'.gens=V9) (fun _ _=>s'.os=os)
 | .brk=>Q .next s'
 | .ret v=>Q (.ret v) s'
inductive nZ(A:Around)(h₀:Heap)(env:Env)(PM:X7)(body:Yb)(Q:Flow->Shared->Prop)(E:X6)(xv:Value)(PZ:Shared):Prop
 |mk (nb C L cL a g:Nat) (xs:jg) (own:X4) (J:Nat->X5->X4->Prop) (m:X5) (news:X4):xv=.ref a->A.handled=none->h₀.NoLimit->A.depth<recursionLimit->C<a->a<nb->h₀.objs.size<=C->env.locals<C->fm A nb C L cL xs a g 0 own PZ->Fr h₀ env.locals PZ.heap m->News h₀ env.locals PZ.heap news->AllBare PZ.gens->(∀ j m news,J j m news->(∀ p∈news,p.1<C)/\∀ p∈bH L cL xs,p∈news∨h₀.get? p.1=some p.2)->J 0 m news->(∀ j v SH Rc (oa oC oI oJ:Obj) (I J':Nat) h₁ V9 XQ Tv,(aI xs)[j]?=some v->J j SH Rc->C<=I->C<=J'->AllBare V9->Fr h₀ env.locals h₁ SH->News h₀ env.locals h₁ ([(a,oa),(C,oC),(I,oI),(J',oJ)]++Rc)->
   wpAny MP A (assign PM env v) (fun _ TD=>wpAny MP A (execs body env)
    (A5 h₀ env.locals [(a,oa),(C,oC),(I,oI),(J',oJ)] (J (j+1)) V9 PZ.os Q) E TD) E ⟨h₁,V9,XQ,Tv,PZ.os⟩)->(∀ h' tk d' Qe m' PX,Fr h₀ env.locals h' m'->News h₀ env.locals h' PX->AllBare Qe->J (aI xs).length m' PX->Q .next ⟨h',Qe,d',tk,PZ.os⟩)->nZ A h₀ env PM body Q E xv PZ
theorem uC(ho:s.heap.get? a=some o)(hg:oW o g)(h:Q () s):wpAny MP A (letOwnedTupleGo PM (.ref a) v) Q E s:=by
 obtain⟨nm,qn,hc,hd,_⟩:=hg;obtain⟨oc,od,dt,sl⟩:=o
 cases hc
 cases hd;unfold letOwnedTupleGo
 cases PM<;>first
  |exact KC h
  |(cases v<;>first
    |exact KC h
    |(refine Kx (wpAny_load ho ?_);dsimp only;rw[show ["enumerate","zip","dict_itemiterator","dict_reverseitemiterator","odict_iterator","itertools.zip_longest","itertools.pairwise"].contains "generator"=false from by decide+kernel,Bool.false_and,KM KP];exact KC h))
theorem xV(_F:Fr h₀ env.locals s.heap X1)
  (h:wpAny MP A (eval iter env) (fun xv PZ=>nZ A h₀ env PM body Q E xv PZ) E s)
  (hs:∀ x,foldedSetIterable iter env x=pure x:=by intro _;rfl) (hE:PassesOwn MP A env E:=by passes_own):
  wpAny MP A (exec (.For PM iter body [] pos) env) Q E s:=by
 refine wpAny_For (K7 h (fun xv PZ h₁=>?_) fun _ _ e=>e) hs;obtain⟨nb,C,L,cL,a,g,xs,own,J,m,news,rfl,hh,TY,P9,TG,Sg,hhC,hlC,hG,F,N,QC,RD,Td,step,last⟩:=h₁;have hIs:∀ (j:Nat) (own:X4) (s:Shared),fm A nb C L cL xs a g j own s->s.heap.IsGen a g:=fun j own s x=>by
  obtain⟨oa,oC,oI,oJ,I,J,rfl,h1,h2,⟨nm,qn,r1,r2,r3⟩,h4,_⟩:=x;exact⟨oa,nm,qn,h4 (a,oa) (M9 ..),r1,r2,r3⟩
 refine wpAny_pyIter_gen (hIs _ _ _ hG) ?_;have Q3:∀ j m news,J j m news->∀ p∈bH L cL xs,p.1<nb/\p.1≠C:=fun j m news hj p hp=>by
  have PU:p.1<C:=by
   rcases(RD j m news hj).2 p hp with h|h
   ·exact(RD j m news hj).1 p h
   ·exact K9 (KO h) hhC
  exact⟨Mg (Mg PU TG) Sg,K6 PU⟩
 have hnb:∀ b,b<C->b<nb/\b≠C:=fun b hb=>⟨Mg (Mg hb TG) Sg,K6 hb⟩;have Xf:∀ (s:Shared) (h':Heap) m news j,J j m news->Fr h₀ env.locals s.heap m->News h₀ env.locals s.heap news->(∀ b o,b<nb->b≠C->s.heap.get? b=some o->h'.get? b=some o)->Fr h₀ env.locals h' m/\News h₀ env.locals h' news:=by
  intro s h' m news j hj F N hk;refine⟨⟨F.ns.at' fun o e=>hk _ o (hnb _ hlC).1 (hnb _ hlC).2 e,fun b o e=>?_,F.above⟩,fun p hp=>⟨hk _ _ (hnb _ ((RD j m news hj).1 p hp)).1 (hnb _ ((RD j m news hj).1 p hp)).2 (N p hp).1,(N p hp).2⟩⟩;have hb:b<C:=K9 (KO e) hhC;exact hk b o (hnb b hb).1 (hnb b hb).2 (F.keep b o e)
 have hshH:∀ (h:Heap) m news j,J j m news->Fr h₀ env.locals h m->News h₀ env.locals h news->bF h (bH L cL xs):=fun h m news j hj F N p hp=>by
  rcases(RD j m news hj).2 p hp with h'|h'
  ·exact(N p h').1
  ·exact F.keep _ _ h'
 refine codeAny_forLoop_any (I:=fun n s=>lZ (fun j own m news=>j<=(aI xs).length) (fun j _ _ _=>n=(aI xs).length-j) (fun j own _ _=>fm A nb C L cL xs a g j own s) (fun _ _ m _=>Fr h₀ env.locals s.heap m) (fun _ _ _ news=>News h₀ env.locals s.heap news) (fun _ _ _ _=>AllBare s.gens) (fun j _ m news=>J j m news) (fun _ _ _ _=>s.os=PZ.os)) (fun n s hI=>?_) (aI xs).length ⟨0,own,m,news,K0 _,s0,hG,F,N,QC,Td,rfl⟩;obtain⟨j,own,m,news,hj,rfl,hG,F,N,QC,hJ,Rt⟩:=hI;have hl:s.heap.NoLimit:=TY.keeps F.keep;have Sj:=hshH _ _ _ _ hJ F N;rcases M3 j (aI xs).length with PU|hge
 ·refine fm.item (v:=(aI xs)[j]) hh hl P9 TG Sg hG Sj (by simp[PU]) fun h' tk Qe WW hG' hk hb=>?_
  obtain⟨F',N'⟩:=Xf s h' m news j hJ F N hk;obtain⟨oa,oC,oI,oJ,I,J',Wl,hCI,hCJ,hga,W9,gs,Ul,hgo⟩:=id hG';refine uC (W9 (a,oa) (by refine aa Wl ?_;exact M9 ..)) hga ?_;have Nall:News h₀ env.locals h' ([(a,oa),(C,oC),(I,oI),(J',oJ)]++news):=by
   intro p hp;rcases KK.mp hp with hp|hp
   ·have hCp:C<=p.1:=hG'.lies (LD TG) p (by refine aa Wl ?_;exact hp)
    refine⟨W9 p (by refine aa Wl ?_;exact hp),MF (K6 (K9 hlC hCp)),?_⟩
    cases hq:h₀.get? p.1 with
    |none=>rfl
    |some o=>exact absurd (K9 (KO hq) hhC) (MW.mpr hCp)
   ·exact N' p hp
  have st:=step j (aI xs)[j] m news oa oC oI oJ I J' h' Qe s.drawn tk (by simp[PU]) hJ hCI hCJ (hb QC) F' Nall;rw[←Rt] at st;refine K7 st (fun _ TD Sc=>K7 Sc (fun f Rg R1=>?_) fun _ _ e=>hE _ _ e) fun _ _ e=>hE _ _ e;have Se:(iy (fun m' PX=>Fr h₀ env.locals Rg.heap m') (fun _ PX=>News h₀ env.locals Rg.heap ([(a,oa),(C,oC),(I,oI),(J',oJ)]++PX)) (fun m' PX=>J (j+1) m' PX) (fun _ _=>Rg.gens=Qe) (fun _ _=>Rg.os=s.os))->
    ∃ n,n<(aI xs).length-j/\lZ (fun j own m news=>j<=(aI xs).length) (fun j _ _ _=>n=(aI xs).length-j) (fun j own _ _=>fm A nb C L cL xs a g j own Rg) (fun _ _ m _=>Fr h₀ env.locals Rg.heap m) (fun _ _ _ news=>News h₀ env.locals Rg.heap news) (fun _ _ _ _=>AllBare Rg.gens) (fun j _ m news=>J j m news) (fun _ _ _ _=>Rg.os=PZ.os):=by
   rintro⟨m',PX,F4,N4,Vl,hg4,ho4⟩;refine⟨(aI xs).length-(j+1),xP PU,j+1,WW,m',PX,PU,rfl,hG'.to (fun p hp=>(N4 p (Ky _ (by refine ae Wl ?_;exact hp))).1) hg4,F4,fun p hp=>N4 p (Kz _ hp),by refine aa hg4 ?_;exact hb QC,Vl,ho4.trans Rt⟩
  cases f with
  |next=>exact Se R1
  |cont=>exact Se R1
  |brk=>exact R1
  |ret v=>exact R1
 ·have S1:j=(aI xs).length:=aS hj hge
  refine fm.done hh hl P9 hG Sj (Q3 _ _ _ hJ) S1 fun h' tk Qe hk hb=>?_;obtain⟨F',N'⟩:=Xf s h' m news j hJ F N hk;refine wpAny_execs_nil ?_;exact aa Rt (last _ _ _ _ _ _ F' N' (hb QC) (S1▸hJ))
variable{L:Addr}{h₀:Heap}{m mg mb:X5}{news:X4}{Qt:ExcName->Option Value}
theorem rR{K:Frag}{Q:X6}{name qual:Str}{params:Arguments}{p0 p1 p2 p3 p4 p5 p6 p7 p8:Pos}{scope:Scope}{dV kV doc pm PV ct oc:Value}{an od:Option Addr}{RL:Array (Option Value)}{f:Addr}{args:X8}{wv:Value}{Ln cL:Nat}{xs:jg}
  (F:Fr h₀ L s.heap m) (VW:K.In h₀) (N:News h₀ L s.heap news) (T:TT Qt mg mb h₀)
  (ho:K.lookup f=some ⟨oc,od, .func (fnOf name qual params [lz p0 p1 p2 p3 p4 p5 p6 p7 p8] scope dV kV doc pm an PV ct),RL⟩) (QZ:codeIn K PV qual=true) (P9:A.depth<recursionLimit)
  (Qv:BindsTo s (fnOf name qual params [lz p0 p1 p2 p3 p4 p5 p6 p7 p8] scope dV kV doc pm an PV ct) ⟨args,[]⟩ [("self",wv),("ns_stack", .ref Ln),("_reversed", .type "reversed")])
  (Rz:∀ y∈([("self",wv),("ns_stack", .ref Ln),("_reversed", .type "reversed")]:List (Str×Value)),scope.names.lookup y.1=some .local)
  (Q0:scope.isCoroutine=false) (QV:scope.isGenerator=true) (hk:scope.kind=.function) (P6:∀ x∈scope.names,x.2≠ .cell) (hn:scope.names.lookup (Yc "namespaces")=some .local)
  (Sj:bF s.heap (bH Ln cL xs)) (QI:∀ x∈xs,(x.2.1.length:Int)<2^63) (hh:A.handled=none)
  (h:∀ (C:Nat) h' Qe tk own,C=s.heap.objs.size->fm A (C+2) C Ln cL xs (C+1) s.gens.size 0 own ⟨h',Qe,s.drawn,tk,s.os⟩->Fr h₀ L h' m->News h₀ L h' news->(AllBare s.gens->AllBare Qe)->L<C->h₀.objs.size<=C->(∀ p∈news,p.1<C)->Q (.ref (C+1)) ⟨h',Qe,s.drawn,tk,s.os⟩):
  wpAny MP A (call (.ref f) args) Q E s:=by
 have TY:s.heap.NoLimit:=T.nolimit.keeps F.keep;refine OJ (codeAny_call_generator (body:=[lz p0 p1 p2 p3 p4 p5 p6 p7 p8]) P9 ((VW.keeps F.keep) _ _ ho) rfl Q0 QV rfl (codeRec_of (VW.keeps F.keep) QZ) (Qv _ _ _ _ ?_));refine wpAny_newFunctionEnv P6 Rz (fun h₁ UW Q3=>⟨TY.fresh _ Q3,?_⟩) hk;have Qf:h₁.objs.size=s.heap.objs.size+1:=by exact aa Q3.1 (aa (LZ _ _) rfl)
 have XE:∀ b o,s.heap.get? b=some o->h₁.get? b=some o:=fun b o e=>Q3.extBut b o (K6 (KO e)) (KL _ e);have hsz':h₁.objs.size=s.heap.objs.size+1:=Qf;obtain⟨og,hog,hgo⟩:aM (fun(og:Obj)=>oW og s.gens.size) (fun og=>og={cls:=Value.type "generator",data:=Data.fields #[.int s.gens.size 0, .str name (s.toks+3), .str qual (s.toks+3+1)]}):=⟨_,⟨_,_,rfl,rfl,rfl⟩,rfl⟩;show Q (.ref h₁.objs.size) ⟨h₁.push {cls:=Value.type "generator",data:=Data.fields #[.int s.gens.size 0, .str name (s.toks+3), .str qual (s.toks+3+1)]},s.gens.push _,s.drawn,_,s.os⟩;refine aa Qf (ae hgo ?_);have hof:og.isFreed=false:=aa hgo rfl;have Wu:∀ (o':Obj) b o,s.heap.get? b=some o->(h₁.push o').get? b=some o:=fun o' b o e=>KL _ (XE b o e);obtain⟨oC,es,ep,hC1,hC2⟩:=id UW;have hCget:h₁.get? s.heap.objs.size=some oC:=hC1;have hagt:∀ o':Obj,o'.isFreed=false->(h₁.push o').get? (s.heap.objs.size+1)=some o':=fun o' hf=>ae Qf (La _ hf);refine h s.heap.objs.size _ _ _ [(s.heap.objs.size+1,og),(s.heap.objs.size,oC),(s.heap.objs.size,oC),(s.heap.objs.size,oC)] rfl
  ⟨og,oC,oC,oC,s.heap.objs.size,s.heap.objs.size,rfl,KZ _,KZ _,hog,?_,_,Array.getElem?_push_size ..,fun Qh QC hs=>⟨rfl,?_⟩⟩
  ⟨F.ns.at' fun o e=>Wu _ _ o e,fun b o e=>Wu _ b o (F.keep b o e),F.above⟩ (fun p hp=>⟨Wu _ _ _ (N p hp).1,(N p hp).2⟩) (fun QC=>QC.push rfl) F.ns.lt (KF F.above (LD F.ns.lt)) fun p hp=>KO (N p hp).1
 ·intro p hp
  simp only[KG,Lw,O0] at hp;rcases hp with rfl|rfl|rfl|rfl
  ·exact hagt _ hof
  all_goals exact KL _ hCget
 ·refine aa (Nat.sub_zero _) ?_
  have PU:∀ p∈bH Ln cL xs,p.1<s.heap.objs.size:=fun p hp=>KO (Sj p hp);have g1:(s.heap.objs.size:Nat)<s.heap.objs.size+2:=Nat.lt_add_of_pos_right (by decide);have g2:s.heap.objs.size+2<=Qh.heap.objs.size:=KO (QC _ (M9 ..));have g3:Qh.heap.Ns s.heap.objs.size (fun x=>([("self",wv),("ns_stack", .ref Ln),("_reversed", .type "reversed")]:List (Str×Value)).reverse.lookup x):=⟨oC,es,ep,QC (s.heap.objs.size,oC) (by simp),hC2⟩;have l1:=Rz ("_reversed", .type "reversed") (by simp);have l2:=Rz ("ns_stack", .ref Ln) (by simp);refine yK (A:=A.in1) (nb:=s.heap.objs.size+2) (env:=newEnv scope s.heap.objs.size mainGlobals [] (qual++Yc ".<locals>.") (some f) PV none builtinsNs) (m:=fun x=>([("self",wv),("ns_stack", .ref Ln),("_reversed", .type "reversed")]:List (Str×Value)).reverse.lookup x) hh ?a1 ?a2 ?a3 QI ?a4 ?a5 ?a6 ?a7 ?a8 rfl rfl Qh ?a9 ?a10 hs
  case a1=>exact g1
  case a2=>exact fun p hp=>K6 (PU p hp)
  case a3=>exact fun p hp=>Mg (PU p hp) g1
  case a4=>exact hn
  case a5=>exact l1
  case a6=>exact l2
  case a7=>exact hk
  case a8=>(unfold interactive newEnv;simp[hk])
  case a9=>exact g2
  case a10=>exact g3
variable{PZ:Shared}
end
theorem o9(N:News h₀ L h news)(K:md news P1 h')(N':News h₀ L h' V8)(hr:∀ p∈rest,p∈news/\∀ q∈P1,q.1≠p.1):News h₀ L h' (V8++rest):=by
 intro p hp;rcases KK.mp hp with hp|hp
 ·exact N' p hp
 ·obtain⟨h1,h2⟩:=hr p hp
  exact⟨K p h1 h2,(N p h1).2⟩
section
variable{M:Model}{A:Around}{E:X6}{s':Shared}{base g TA:Heap}{outer:List Env}{L e t:Addr}{m:X5}{env:Env}{Q:Unit->Shared->Prop}{news Yp:X4}
theorem oZ(K:Below A base outer g)(hf:env.frame=some L)(F:Fr g L TA m)(R:RaisedS base TA (env::outer) e cls t vs news s'.heap)(Rl:TA.UpToSlots s'.heap)
  (Ry:∀ q∈Yp,q∈news∨(TA.get? q.1=some q.2/\q.1≠L)) (hcg:∀ q∈Yp,g.get? q.1=none)
  (hQ:∀ h',RaisedS base g outer e cls t vs Yp h'->g.UpToSlots h'->Q () {s' with heap:=h'}):
  wpAny M (A.deeper env) (leaving env (.ref e)) Q E s':=by
 obtain⟨⟨B,hB,hBG,hl,Qi,Rk⟩,htup⟩:=R;have Rj:∀ {b:Addr},b∈(env::outer).filterMap (·.frame)->b=L∨b∈outer.filterMap (·.frame):=fun {b} hm=>by
  obtain⟨env',he,hf'⟩:=OV.mp hm;rcases KG.mp he with rfl|he
  ·rw[hf] at hf';exact .inl (Mq hf').symm
  ·exact .inr (OV.mpr ⟨env',he,hf'⟩)
 refine wpAny_leaves_onW (Around.frames_deeper K.stack) hf Qi fun h' x1 x2=>?_;refine hQ h' ⟨⟨B,hB,fun b o q nm=>hBG b o (F.keep b o q) (fun hm=>?_),fun q hq=>?_,x1,Rk⟩,htup.of_slots x2⟩ ((Heap.UpToSlots.of_keeps F.keep).trans (Rl.trans x2))
 ·rcases Rj hm with z|z
  ·rw[z,kts_self F] at q;cases q
  ·exact nm z
 ·refine⟨?_,hcg q hq,fresh_of_stays K.stays (hcg q hq)⟩
  rcases Ry q hq with h|⟨h1,h2⟩
  ·exact(hl q h).1
  ·refine hBG _ _ h1 fun hm=>?_
   rcases Rj hm with z|z
   ·exact h2 z
   ·obtain⟨o,ho,_⟩:=(K.frames.mem z).2
    rw[hcg q hq] at ho;cases ho
structure Pr where
 a:Nat
 YA:Str
 pre:Str
 tu:Tok
 tp:Tok
def Pr.val(p:Pr):Value:= .ref p.a
noncomputable abbrev bl (x y:Value) (n:Nat):Obj:={cls:= .type "tuple",data:= .seq #[x,y] n}
noncomputable def Pr.ent (p:Pr):Addr×Obj:=(p.a,bl (.str p.YA p.tu) (.str p.pre p.tp) 0)
abbrev ay:=List (Nat×List Pr×Nat)
noncomputable def ay.stk (ns:ay):jg:=ns.map fun x=>(x.1,x.2.1.map Pr.val,x.2.2)
noncomputable def ay.flat (ns:ay):List Pr:=ns.reverse.flatMap (·.2.1)
noncomputable def ay.lists (ns:ay):X4:=ns.map fun x=>(x.1,lO (x.2.1.map Pr.val) x.2.2)
noncomputable def ay.read (ns:ay):X4:=ns.lists++ns.flat.map Pr.ent
noncomputable def ay.refs (ns:ay):X8:=ns.map fun x=>Value.ref x.1
theorem GX(ns:ay):aI ns.stk=ns.flat.map Pr.val:=by
 unfold aI ay.stk ay.flat;exact ae List.map_reverse (aa (List.flatMap_map _ _ _) (aa Pi rfl))
theorem HU(ns:ay)(L c:Nat):bH L c ns.stk=(L,lO ns.refs c)::ns.lists:=by
 unfold bH ay.stk ay.lists ay.refs;simp only[M1]
 rfl
noncomputable def ay.uriOf (ns:ay) (x:Str):Option Str:=(ns.flat.find? fun p=>p.pre==x).map (·.YA)
end
theorem pT{l:List (Str×Tok)}{x y:Str}(h:l.map (fun z=>z.1)=[x,y]):lY (fun t u=>l=[(x,t),(y,u)]):=by
 obtain⟨⟨_,t⟩,l2,rfl,rfl,h2⟩:=List.map_eq_cons_iff.mp h;obtain⟨⟨_,u⟩,l3,rfl,rfl,h3⟩:=List.map_eq_cons_iff.mp h2
 cases List.map_eq_nil_iff.mp h3;exact⟨t,u,rfl⟩
theorem Ij{ns:ay}{x:Str}(h:∀ i,i<(aI ns.stk).length->∀ p,ns.flat[i]?=some p->p.pre≠x):ns.uriOf x=none:=by
 unfold ay.uriOf;rw[On,NI];intro p hp;obtain⟨i,hi,he⟩:=LO.mp hp;have:=h i (by refine aa (GX _) (aa (KE _) ?_);exact hi) p (by exact aa (KJ hi) (aa he rfl));simpa using this
theorem Ik{ns:ay}{x:Str}{j:Nat}{p:Pr}(hp:ns.flat[j]?=some p)(e:p.pre=x)(h:∀ i,i<j->∀ p,ns.flat[i]?=some p->p.pre≠x):ns.uriOf x=some p.YA:=by
 unfold ay.uriOf;rw[Ls];refine⟨p,?_,rfl⟩;rw[List.find?_eq_some_iff_getElem];obtain⟨hj,he⟩:=Lj.mp hp;refine⟨by simpa using e,j,hj,he,fun i hi=>?_⟩;have:=h i hi _ (KJ (Mg hi hj));simpa using this
theorem iM(N:News h₀ L h (x::l)):News h₀ L h l:=fun p hp=>N p (.tail _ hp)
theorem uF:(Yc ":").length=1:=by decide+kernel
theorem uG:(Yc "{").length=1:=by decide+kernel
theorem Ah:(Yc "}").length=1:=by decide+kernel
theorem Ci:(Yc "<").length=1:=by decide+kernel
theorem wG:(Yc " ").length=1:=by decide+kernel
theorem Af:(Yc "=\"").length=2:=by decide+kernel
theorem Ag:(Yc "\"").length=1:=by decide+kernel
theorem wH:(Yc "xmlns:").length=6:=by decide+kernel
noncomputable def b8 (pm:List (Str×Str)) (u:Str):Option Str:=(pm.find? fun x=>x.1==u).map (·.2)
inductive gw:List (Str×Value)->List (Str×Str)->Prop
 |nil:gw [] []
 |cons (k v:Str) (t:Tok) {r:List (Str×Value)} {q:List (Str×Str)}:gw r q->gw ((k, .str v t)::r) ((k,v)::q)
def gv(po:Obj)(pm:List (Str×Str)):Prop:=aM (fun PN=>po.IsDictOf (PySem.strKind PR w) PN) (fun PN=>gw PN pm)
theorem gw.len(h:gw r q):r.length=q.length:=by
 induction h with
 |nil=>rfl
 |cons _ _ _ _ ih=>exact congrArg Nat.succ ih
theorem gw.get(h:gw r q):(b8 q u=none/\valueAt r u=none)∨bG (fun(x:Str) (_:Tok)=>b8 q u=some x) (fun x t=>valueAt r u=some (.str x t)):=by
 unfold b8 valueAt
 induction h with
 |nil=>exact .inl ⟨rfl,rfl⟩
 |cons k v t _ ih=>
  refine aa MK (aa MK ?_)
  by_cases e:k=u
  ·subst e
   exact .inr ⟨v,t,by simp,by simp⟩
  ·exact aa (LL.mpr e) (aa (KY e) ih)
theorem gw.put(h:gw r q)(hn:b8 q u=none):gw (PySem.stored r u (.str x t)) (q++[(u,x)]):=by
 have e:∀ {r q},gw r q->b8 q u=none->gw (r++[(u, .str x t)]) (q++[(u,x)])/\(r.any fun e=>decide (e.1=u))=false:=by
  intro r q h
  induction h with
  |nil=>exact fun _=>⟨.cons _ _ _ .nil,rfl⟩
  |cons k v t' _ ih=>
   intro hn;unfold b8 at hn ih;rw[MK] at hn
   by_cases e:k=u
   ·subst e;simp at hn
   ·rw[LL.mpr e] at hn
    obtain⟨a,b⟩:=ih hn;refine⟨.cons _ _ _ a,?_⟩;refine aa List.any_cons (aa b (aa (KY e) ?_));rfl
 obtain⟨a,b⟩:=e h hn;unfold PySem.stored;exact aa b a
noncomputable def ay.preOf (ns:ay) (u:Str):Option Str:=(ns.flat.find? fun p=>p.YA==u).map (·.pre)
noncomputable abbrev ip (x y z:Value) (n:Nat):Obj:={cls:= .type "tuple",data:= .seq #[x,y,z] n}
noncomputable def fY (ns:ay) (j:Nat) (x:Str):Bool:=(ns.flat.take j).any fun p=>p.pre==x
theorem qx(hp:ns.flat[j]?=some p):fY ns (j+1)=fun x=>fY ns j x||decide (x=p.pre):=by
 funext x
 unfold fY;obtain⟨hj,he⟩:=Lj.mp hp;refine aa (List.take_succ_eq_append_getElem hj) (aa List.any_append (aa he ?_));simp only[List.any_cons,List.any_nil,Bool.or_false]
 congr 1
 rw[MY,Mx,decide_eq_true_iff];exact eq_comm
theorem Ih{ns:ay}{x:Str}(h:∀ i,i<(aI ns.stk).length->∀ p,ns.flat[i]?=some p->p.YA≠x):ns.preOf x=none:=by
 unfold ay.preOf;rw[On,NI];intro p hp;obtain⟨i,hi,he⟩:=LO.mp hp;have:=h i (by refine aa (GX _) (aa (KE _) ?_);exact hi) p (by exact aa (KJ hi) (aa he rfl));simpa using this
theorem Ii{ns:ay}{x:Str}{j:Nat}{p:Pr}(hp:ns.flat[j]?=some p)(e:p.YA=x)(h:∀ i,i<j->∀ p,ns.flat[i]?=some p->p.YA≠x):ns.preOf x=some p.pre:=by
 unfold ay.preOf;rw[Ls];refine⟨p,?_,rfl⟩;rw[List.find?_eq_some_iff_getElem];obtain⟨hj,he⟩:=Lj.mp hp;refine⟨by simpa using e,j,hj,he,fun i hi=>?_⟩;have:=h i hi _ (KJ (Mg hi hj));simpa using this
theorem iQ(h:b8 pm u=some x):(u,x)∈pm:=by
 unfold b8 at h;rw[Ls] at h;obtain⟨y,h1,rfl⟩:=h;have h2:=List.find?_some h1;have h3:=List.mem_of_find?_eq_some h1;have e:y.1=u:=by simpa using h2
 exact ae e h3
abbrev UP:=Str×Str
def aY(l:List UP)(u:Str):Option Str:=(l.find? fun x=>x.1==u).map (·.2)
def cG(pm:List UP):Str:=Yc "n"++Yc (toString ((pm.length:Nat):Int))
def aL(Ym:List UP)(st:List UP×List UP)(u:Str):Str×(List UP×List UP):=
 match aY (st.1++Ym) u with
 |some x=>(x,st)
 |none=>match b8 st.2 u with
  |some x=>(x,(st.1++[(u,x)],st.2))
  |none=>(cG st.2,(st.1++[(u,cG st.2)],st.2++[(u,cG st.2)]))
def Pr.up(p:Pr):UP:=(p.YA,p.pre)
theorem Iy(ns:ay)(u:Str):ns.preOf u=aY (ns.flat.map Pr.up) u:=by
 unfold ay.preOf aY;exact aa Nw (aa (O2 _ _ _) rfl)
theorem cw(init:ay)(al:Nat)(Yk:List Pr)(cl:Nat):(init++[(al,Yk,cl)]:ay).flat=Yk++init.flat:=by
 unfold ay.flat;refine aa Nu ?_;simp
theorem rc:∀ i,i<64->∀ j,j<64->Yc (toString ((i:Nat):Int))=Yc (toString ((j:Nat):Int))->i=j:=by decide+kernel
theorem gC{a b c:Str}(h:a++b=a++c):b=c:=by
 have e:(a++b).cps=(a++c).cps:=by exact aa h rfl
 have e1:∀ x y:Str,(x++y).cps=x.cps++y.cps:=fun x y=>rfl;rw[e1,e1] at e
 cases b;cases c;exact congrArg Str.mk (Array.append_right_inj _|>.mp e)
theorem wJ:∀ i,i<64->Yc "n"++Yc (toString ((i:Nat):Int))≠Yc "xml":=by decide+kernel
theorem nP:∀ i,i<64->(Yc "n"++Yc (toString ((i:Nat):Int))).length<=1000/\0<(Yc "n"++Yc (toString ((i:Nat):Int))).length:=by decide+kernel
def bq:UP:=(Yc "http://www.w3.org/XML/1998/namespace",Yc "xml")
theorem yS:bq.1.length<=1000/\bq.2.length<=1000/\0<bq.2.length:=by decide+kernel
structure bK(pm:List UP):Prop where
 nm:∀ i x,pm[i]?=some x->x.2=Yc "n"++Yc (toString ((i:Nat):Int))
 nd:(pm.map (·.1)).Nodup
 ul:∀ x∈pm,x.1.length<=1000
def bj(l pm:List UP):Prop:=∀ x∈l,x∈pm∨x=bq
theorem bK.pre(h:bK pm)(hz:pm.length<=60):∀ x∈pm,x.2.length<=1000/\0<x.2.length:=fun x hx=>by
 obtain⟨i,hi,rfl⟩:=LO.mp hx;refine aa (h.nm i _ (KJ hi)) ?_;exact nP i (by exact L2 [_,_] (.a V1 W1) (.n 64) 1 V0 (.n 60) 1 (.a V1 W1) V0 rfl hz hi)
theorem bK.inj{pm:List UP}(h:bK pm)(hz:pm.length<=60){x y:UP}(hx:x∈pm)(hy:y∈pm)(e:x.2=y.2):x.1=y.1:=by
 obtain⟨i,hi,rfl⟩:=LO.mp hx;obtain⟨j,hj,rfl⟩:=LO.mp hy;rw[h.nm i _ (KJ hi),h.nm j _ (KJ hj)] at e;have:=rc i (by exact L2 [_,_] (.a V1 W1) (.n 64) 1 V0 (.n 60) 1 (.a V1 W1) V0 rfl hz hi) j (by exact L2 [_,_] (.a V1 W1) (.n 64) 1 V0 (.n 60) 1 (.a V1 W1) V0 rfl hz hj) (gC e);subst this
 rfl
theorem bj.inj(d:bj l pm)(h:bK pm)(hz:pm.length<=60)(hx:x∈l)(hy:y∈l)(e:x.2=y.2):x.1=y.1:=by
 have Qb:∀ z,z∈pm->z.2≠bq.2:=fun z hz' q=>by
  obtain⟨i,hi,rfl⟩:=LO.mp hz';rw[h.nm i _ (KJ hi)] at q;exact wJ i (by exact L2 [_,_] (.a V1 W1) (.n 64) 1 V0 (.n 60) 1 (.a V1 W1) V0 rfl hz hi) q
 rcases d x hx with hx|rfl
 ·rcases d y hy with hy|rfl
  ·exact h.inj hz hx hy e
  ·exact absurd e (Qb _ hx)
 ·rcases d y hy with hy|rfl
  ·exact absurd e.symm (Qb _ hy)
  ·rfl
theorem bj.len(d:bj l pm)(h:bK pm)(hz:pm.length<=60)(hx:x∈l):x.1.length<=1000/\x.2.length<=1000/\0<x.2.length:=by
 rcases d x hx with q|rfl
 ·exact⟨h.ul x q,h.pre hz x q⟩
 ·exact yS
theorem sk(h:b8 pm u=none):u∉pm.map (·.1):=by
 unfold b8 at h;rw[On,NI] at h;intro hm;obtain⟨x,hx,rfl⟩:=KI.mp hm;exact h x hx (by simp)
theorem AI(h:bK pm)(hg:b8 pm u=none)(hu:u.length<=1000):bK (pm++[(u,cG pm)]):=by
 refine⟨fun i x hx=>?_,?_,fun x hx=>?_⟩
 ·rcases Nat.lt_trichotomy i pm.length with q|q|q
  ·rw[Mt q] at hx
   exact h.nm i x hx
  ·subst q
   rw[LS (KZ _),OY] at hx
   cases hx
   rfl
  ·rw[LS (LD q)] at hx
   rw[NM (by simp;exact sG q)] at hx
   cases hx
 ·refine aa KN ?_
  refine Nn.mpr ⟨h.nd,by simp,fun a ha b hb=>?_⟩;simp only[LA,OU,KD] at hb;subst hb;rintro rfl;exact sk hg ha
 ·rcases KK.mp hx with hx|hx
  ·exact h.ul x hx
  ·rw[KD] at hx;subst hx;exact hu
theorem fg(h:aY l u=some x):(u,x)∈l:=iQ h
theorem ik(h:bK pm)(d:bj (cur++Ym) pm)(hu:u.length<=1000):
  bK (aL Ym (cur,pm) u).2.2/\bj ((aL Ym (cur,pm) u).2.1++Ym) (aL Ym (cur,pm) u).2.2/\(aL Ym (cur,pm) u).2.2.length<=pm.length+1/\(aL Ym (cur,pm) u).2.1.length<=cur.length+1/\
   (u,(aL Ym (cur,pm) u).1)∈(aL Ym (cur,pm) u).2.1++Ym/\∃ more,(aL Ym (cur,pm) u).2.1=cur++more:=by
 unfold aL
 cases h1:aY (cur++Ym) u with
 |some x=>exact⟨h,d,MD _,MD _,fg h1,[],by simp⟩
 |none=>
  dsimp only
  cases h2:b8 pm u with
  |some x=>
   refine⟨h,fun y hy=>?_,MD _,by simp,by simp,_,rfl⟩;simp only[KQ,KK,KD] at hy;rcases hy with hy|rfl|hy
   ·exact d y (Ky _ hy)
   ·exact .inl (iQ h2)
   ·exact d y (Kz _ hy)
  |none=>
   refine⟨AI h h2 hu,fun y hy=>?_,by simp,by simp,by simp,_,rfl⟩;have up:∀ z,z∈pm∨z=bq->z∈pm++[(u,cG pm)]∨z=bq:=fun z q=>q.elim (fun q=> .inl (Ky _ q)) .inr;simp only[KQ,KK,KD] at hy;rcases hy with hy|rfl|hy
   ·exact up _ (d y (Ky _ hy))
   ·exact .inl (Kz _ (KD.mpr rfl))
   ·exact up _ (d y (Kz _ hy))
def aG(Ym:List UP):(List UP×List UP)->List Str->List Str×(List UP×List UP)
 |st,[]=>([],st)
 |st,u::r=>((aL Ym st u).1::(aG Ym (aL Ym st u).2 r).1,(aG Ym (aL Ym st u).2 r).2)
theorem vd(Ym:List UP)(st:List UP×List UP)(u:Str)(r:List Str):aG Ym st (u::r)=((aL Ym st u).1::(aG Ym (aL Ym st u).2 r).1,(aG Ym (aL Ym st u).2 r).2):=rfl
theorem gm(Ym:List UP):∀ (l:List Str) (st:List UP×List UP) (u:Str),aG Ym st (l++[u])=((aG Ym st l).1++[(aL Ym (aG Ym st l).2 u).1],(aL Ym (aG Ym st l).2 u).2)
 |[],_,_=>rfl
 |v::l,st,u=>by
  (refine aa Mb (aa (vd _ _ _ _) ?_);refine aa (gm Ym l _ _) ?_)
  rfl
theorem fW(Ym:List UP):∀ (l:List Str) (st:List UP×List UP),(aG Ym st l).1.length=l.length
 |[],_=>rfl
 |v::l,st=>by refine aa (vd _ _ _ _) (aa Lc (aa (fW Ym l _) ?_));rfl
theorem jb:∀ (l:List Str) (st:List UP×List UP),bK st.2->bj (st.1++Ym) st.2->(∀ u∈l,u.length<=1000)->
  bK (aG Ym st l).2.2/\bj ((aG Ym st l).2.1++Ym) (aG Ym st l).2.2/\(aG Ym st l).2.2.length<=st.2.length+l.length/\(aG Ym st l).2.1.length<=st.1.length+l.length
 |[],st,h,d,_=>⟨h,d,KZ _,KZ _⟩
 |v::l,(cur,pm),h,d,hu=>by
  obtain⟨a1,a2,a3,a4,_,_⟩:=ik h d (hu v (.head _));obtain⟨b1,b2,b3,b4⟩:=jb l (aL Ym (cur,pm) v).2 a1 a2 fun u h=>hu u (.tail _ h);refine⟨b1,b2,?_,?_⟩
  ·show (aG Ym (aL Ym (cur,pm) v).2 l).2.2.length<=_
   refine aa Lc ?_;dsimp only at a3⊢;exact L2 [_,_,_,_] V2 (.a V1 (.a V3 W1)) 1 V0 (.a V1 W1) 1 V2 (.a V0 V3) rfl a3 b3
  ·show (aG Ym (aL Ym (cur,pm) v).2 l).2.1.length<=_
   refine aa Lc ?_;dsimp only at a4⊢;exact L2 [_,_,_,_] V2 (.a V1 (.a V3 W1)) 1 V0 (.a V1 W1) 1 V2 (.a V0 V3) rfl a4 b4
abbrev NotIn(x:Str)(y:String):Prop:=¬(!(Builtin.Str.occurrences x (Yc y) 0 x.length 1).isEmpty)=true
def bn(x:Str):Prop:=∀ c∈x.cps.toList,c≠38/\c≠60/\c≠62/\c≠34/\c≠9/\c≠10/\c≠13
theorem eo(c:Nat)(e:Yc y=⟨#[c]⟩)(h:c∉x.cps.toList):NotIn x y:=by
 unfold NotIn;exact aa e (aa (StrLaws.found_one _ _) (aa MH h))
theorem bn.c38(h:bn x):NotIn x "&":=eo 38 (by decide+kernel) fun q=>(h _ q).1 rfl
theorem bn.c60(h:bn x):NotIn x "<":=eo 60 (by decide+kernel) fun q=>(h _ q).2.1 rfl
theorem bn.c62(h:bn x):NotIn x ">":=eo 62 (by decide+kernel) fun q=>(h _ q).2.2.1 rfl
theorem bn.c34(h:bn x):NotIn x "\"":=eo 34 (by decide+kernel) fun q=>(h _ q).2.2.2.1 rfl
theorem bn.c9(h:bn x):NotIn x "\t":=eo 9 (by decide+kernel) fun q=>(h _ q).2.2.2.2.1 rfl
theorem bn.c10(h:bn x):NotIn x "\n":=eo 10 (by decide+kernel) fun q=>(h _ q).2.2.2.2.2.1 rfl
theorem bn.c13(h:bn x):NotIn x "\r":=eo 13 (by decide+kernel) fun q=>(h _ q).2.2.2.2.2.2 rfl
noncomputable def cU:Array Nat:=#[14,4,0,3,4294967295,6,0,24,9,1,4294967295,13,4,8,14,0,1,16,58,24,9,1,4294967295,13,4,8,14,0,1,6,5,1]
theorem ox(i:Nat)(hi:i=11∨i=23)(c:Nat)(seen:Sre.Seen):∃ s',Sre.accepts cU i c seen=.ok (Sre.isWordUni c,s'):=by
 have Qb:∀ i,i=11∨i=23->Sre.accepts cU i c seen=(Sre.category 14 c).bind fun b=>if b=true then .ok (true,((seen.add 8).add 69)) else .ok (false,((seen.add 8).add 69).add 0):=by
  rintro i (rfl|rfl)<;>rfl
 refine aa (Qb i hi) ?_;have e:Sre.category 14 c=.ok (Sre.isWordUni c):=by
  show Except.map (· !=false) (.ok (Sre.isWordUni c))=_;show Except.ok (Sre.isWordUni c !=false)=_
  cases Sre.isWordUni c<;>rfl
 refine aa e ?_
 cases h:Sre.isWordUni c
 ·exact⟨_,rfl⟩
 ·exact⟨_,rfl⟩
theorem xO(T:Array Nat)(i n p f:Nat)(seen:Sre.Seen):Sre.run cU T i (n+1) p f seen=(Sre.accepts cU i (T.getD p 0) seen>>=fun x=>if x.1 then Sre.run cU T i n (p+1) (f+1) x.2 else pure (f,x.2)):=rfl
theorem io(T:Array Nat)(i:Nat)(hi:i=11∨i=23):∀ (k n p f:Nat) (seen:Sre.Seen),k<=n->(∀ q,q<k->Sre.isWordUni (T.getD (p+q) 0)=true)->(k=n∨Sre.isWordUni (T.getD (p+k) 0)=false)->
  ∃ s',Sre.run cU T i n p f seen=.ok (f+k,s')
 |0,0,p,f,seen,_,_,_=>⟨seen,rfl⟩
 |0,n+1,p,f,seen,_,_,h=>by
  rcases h with h|h
  ·cases h
  ·obtain⟨s',e⟩:=ox i hi (T.getD p 0) seen
   refine⟨s',?_⟩;refine aa (xO _ _ _ _ _ _) (aa e ?_);rw[Nat.add_zero] at h;exact aa h rfl
 |k+1,0,_,_,_,h,_,_=>absurd h (OE _)
 |k+1,n+1,p,f,seen,hk,hw,WF=>by
  obtain⟨s',e⟩:=ox i hi (T.getD p 0) seen;have h0:=hw 0 (MN _);rw[Nat.add_zero] at h0;obtain⟨s2,e2⟩:=io T i hi k n (p+1) (f+1) s' (Pf hk) (fun q hq=>by refine aa (show p+1+q=p+(q+1) from LE [_,_] (.a (.a V0 W1) V1) (.a V0 (.a V1 W1)) rfl) ?_;exact hw _ (Pl hq)) (WF.imp (fun e=>aS (L1 [_,_] V0 V1 1 (.a V0 W1) (.a V1 W1) rfl (eL e)) (by exact L1 [_,_] V1 V0 1 (.a V1 W1) (.a V0 W1) rfl (eG e))) fun e=>by refine aa (show p+1+k=p+(k+1) from LE [_,_] (.a (.a V0 W1) V1) (.a V0 (.a V1 W1)) rfl) ?_;exact e);refine⟨s2,?_⟩;refine aa (xO _ _ _ _ _ _) (aa e (aa h0 ?_));show Sre.run cU T i n (p+1) (f+1) s'=_;refine aa e2 ?_;exact aa (show f+1+k=f+(k+1) from LE [_,_] (.a (.a V0 W1) V1) (.a V0 (.a V1 W1)) rfl) rfl
open Sre in
theorem wt(m:M){n:Nat}{seen:Sre.Seen}(h:ops[m.word 0]?=some .REPEAT_ONE)(hr:¬((m.word 2:Int)>(m.lim:Int)-m.pos))
  (TZ:run m.code m.text (m.pc+4) (min (m.word 3) ((m.lim:Int)-m.pos).toNat) m.pos 0 ((m.seen.add (m.word 0)).add (m.word 4))=.ok (n,seen)):
  m.exec=if n<m.word 2 then({m with seen:=seen}:M).say false else({m with seen:=seen,pos:=m.pos+n}:M).afterRun .giveBack n (m.keep m.inner.isSome):=by
 unfold M.exec;refine aa h ?_;dsimp only;have hw:∀ (s:Sre.Seen) k,({m with seen:=s}:M).word k=m.word k:=fun _ _=>rfl;simp only[hw,Bool.false_eq_true,if_false];exact aa (KM hr) (aa TZ rfl)
noncomputable abbrev ar(c0 v1 v2 v3 v4 v5 v6 v7 v8 v9:Nat):Array Nat:=#[107,49,95,c0,58,v1,v2,v3,v4,v5,v6,v7,v8,v9]
def fj(T:Array Nat):Sre.M:=Sre.forMatch cU T 0 0 14 false false
theorem eO(m:Sre.M):∀ a b,m.runFor (a+b)=(m.runFor a).runFor b:=by
 intro a
 induction a generalizing m with
 |zero=>intro b;refine aa (Nk _) ?_;rfl
 |succ a ih=>
  intro b;refine aa (show a+1+b=(a+b)+1 from LE [_,_] (.a (.a V0 W1) V1) (.a (.a V0 V1) W1) rfl) ?_;show (if m.outcome.isSome then m else Sre.M.runFor (a+b) m.step)=(if m.outcome.isSome then m else Sre.M.runFor a m.step).runFor b
  cases h:m.outcome.isSome with
  |true=>
   (rw[KW rfl];refine aa (KW rfl) ?_)
   cases b with
   |zero=>rfl
   |succ b=>show m=if m.outcome.isSome then m else _;refine aa h ?_;rfl
  |false=>refine aa (KM KP) (aa (KM KP) ?_);exact ih _ b
def eN(T:Array Nat)(n:Nat)(seen:Sre.Seen):Sre.M:=
 let m:=(fj T).runFor 1
 ({m with seen:=seen,pos:=m.pos+n}:Sre.M).afterRun .giveBack n (m.keep m.inner.isSome)
theorem rj(m:Sre.M){n p:Nat}{l:Nat}{i:Nat}{T:Array Nat}{seen:Sre.Seen}(Wk:m.outcome.isSome=false)(hans:m.answer=none)(hpc':Nat.blt m.pc m.code.size=true)(h:Sre.ops[m.word 0]?=some .REPEAT_ONE)(h2:m.word 2=1)(h3:m.word 3=4294967295)
  (hc:m.code=cU) (hT:m.text=T) (hi:m.pc+4=i) (hp:m.pos=p) (hl:m.lim=14) (hlp:p+l=14) (S3:1<=l)
  (TZ:Sre.run cU T i l p 0 ((m.seen.add (m.word 0)).add (m.word 4))=.ok (n,seen)) (k:Nat):
  m.runFor (1+k)=(if n<1 then({m with seen:=seen}:Sre.M).say false else({m with seen:=seen,pos:=m.pos+n}:Sre.M).afterRun .giveBack n (m.keep m.inner.isSome)).runFor k:=by
 have UX:m.pc<m.code.size:=KA hpc';refine aa (eO _ 1 _) ?_
 congr 1
 show (if m.outcome.isSome then m else Sre.M.runFor 0 m.step)=_;refine aa Wk (aa (KM KP) ?_);show m.step=_;unfold Sre.M.step;refine aa Wk (aa (KM KP) (aa hans ?_));dsimp only;exact aa (KW UX) (aa (wt m (n:=n) (seen:=seen) h (by rw[h2,hl,hp];exact EY hlp S3) (by rw[hc,hT,hi,h3,hp,hl,show min 4294967295 (((14:Nat):Int)-(p:Nat)).toNat=l from EZ hlp S3];exact TZ)) (aa h2 (aa hans rfl)))
section
variable(c0 v1 v2 v3 v4 v5 v6 v7 v8 v9:Nat)
theorem ri(n:Nat)(seen:Sre.Seen)(hn:1<=n)(TZ:Sre.run cU (ar c0 v1 v2 v3 v4 v5 v6 v7 v8 v9) 11 14 0 0 (((((fj (ar c0 v1 v2 v3 v4 v5 v6 v7 v8 v9)).runFor 1).seen.add (((fj (ar c0 v1 v2 v3 v4 v5 v6 v7 v8 v9)).runFor 1).word 0))).add (((fj (ar c0 v1 v2 v3 v4 v5 v6 v7 v8 v9)).runFor 1).word 4))=.ok (n,seen))(k:Nat):
  (fj (ar c0 v1 v2 v3 v4 v5 v6 v7 v8 v9)).runFor (2+k)=(eN (ar c0 v1 v2 v3 v4 v5 v6 v7 v8 v9) n seen).runFor k:=by
 refine aa (show 2+k=1+(1+k) from LE [_] (.a (.n 2) V0) (.a W1 (.a W1 V0)) rfl) (aa (eO _ 1 _) (aa ((rj ((fj (ar c0 v1 v2 v3 v4 v5 v6 v7 v8 v9)).runFor 1) (n:=n) (p:=0) (l:=14) (i:=11) (T:=ar c0 v1 v2 v3 v4 v5 v6 v7 v8 v9) (seen:=seen) (by kernel_rfl) (by kernel_rfl) (by kernel_rfl) (by kernel_rfl) (by kernel_rfl) (by kernel_rfl) (by kernel_rfl) (by kernel_rfl) (by kernel_rfl) (by kernel_rfl) (by kernel_rfl) rfl (by decide) TZ) _) (aa (KM (MW.mpr hn)) ?_)));unfold eN
 rfl
def sq(T:Array Nat)(n:Nat)(s1 seen:Sre.Seen):Sre.M:=
 let m:=(eN T 4 s1).runFor 1
 ({m with seen:=seen,pos:=m.pos+n}:Sre.M).afterRun .giveBack n (m.keep m.inner.isSome)
theorem yG(n:Nat)(s1 seen:Sre.Seen)(TZ:Sre.run cU (ar c0 v1 v2 v3 v4 v5 v6 v7 v8 v9) 23 9 5 0 (((((eN (ar c0 v1 v2 v3 v4 v5 v6 v7 v8 v9) 4 s1).runFor 1).seen.add (((eN (ar c0 v1 v2 v3 v4 v5 v6 v7 v8 v9) 4 s1).runFor 1).word 0))).add (((eN (ar c0 v1 v2 v3 v4 v5 v6 v7 v8 v9) 4 s1).runFor 1).word 4))=.ok (n,seen))(k:Nat):
  (eN (ar c0 v1 v2 v3 v4 v5 v6 v7 v8 v9) 4 s1).runFor (2+k)=(if n<1 then({(eN (ar c0 v1 v2 v3 v4 v5 v6 v7 v8 v9) 4 s1).runFor 1 with seen:=seen}:Sre.M).say false else sq (ar c0 v1 v2 v3 v4 v5 v6 v7 v8 v9) n s1 seen).runFor k:=by
 exact aa (show 2+k=1+(1+k) from LE [_] (.a (.n 2) V0) (.a W1 (.a W1 V0)) rfl) (aa (eO _ 1 _) (aa ((rj ((eN (ar c0 v1 v2 v3 v4 v5 v6 v7 v8 v9) 4 s1).runFor 1) (n:=n) (p:=5) (l:=9) (i:=23) (T:=ar c0 v1 v2 v3 v4 v5 v6 v7 v8 v9) (seen:=seen) (by kernel_rfl) (by kernel_rfl) (by kernel_rfl) (by kernel_rfl) (by kernel_rfl) (by kernel_rfl) (by kernel_rfl) (by kernel_rfl) (by kernel_rfl) (by kernel_rfl) (by kernel_rfl) rfl (by decide) TZ) _) rfl))
noncomputable def dN (m:Sre.M):Option Bool:=match m.outcome with|some .matched=>some true|some .failed=>some false|_=>none
theorem fA(s1:Sre.Seen)(h:c0=45∨c0=63):dN ((eN (ar c0 v1 v2 v3 v4 v5 v6 v7 v8 v9) 3 s1).runFor 82)=some false:=by
 rcases h with rfl|rfl<;>kernel_rfl
def gO(c:Nat):Prop:=c=98∨c=99∨c=100∨c=108∨c=112∨c=115
theorem fB(s1 s2:Sre.Seen)(h:gO c0):dN ((({(eN (ar c0 v1 v2 v3 v4 v5 v6 v7 v8 v9) 4 s1).runFor 1 with seen:=s2}:Sre.M).say false).runFor 80)=some false:=by
 rcases h with rfl|rfl|rfl|rfl|rfl|rfl<;>kernel_rfl
theorem Ef(s1 s2:Sre.Seen)(h:gO c0):dN ((sq (ar c0 v1 v2 v3 v4 v5 v6 v7 v8 45) 8 s1 s2).runFor 80)=some false:=by
 rcases h with rfl|rfl|rfl|rfl|rfl|rfl<;>kernel_rfl
theorem fC(s1 s2:Sre.Seen)(h:gO c0)(n:Nat)(h1:1<=n)(h2:n<=7):dN ((sq (ar c0 v1 v2 v3 v4 v5 v6 v7 v8 v9) n s1 s2).runFor 80)=some false:=by
 have:n=1∨n=2∨n=3∨n=4∨n=5∨n=6∨n=7:=EJ h1 h2;rcases this with rfl|rfl|rfl|rfl|rfl|rfl|rfl<;>(rcases h with rfl|rfl|rfl|rfl|rfl|rfl<;>kernel_rfl)
theorem fD(s1 s2:Sre.Seen):dN ((sq (ar c0 v1 v2 v3 v4 v5 v6 v7 v8 v9) 9 s1 s2).runFor 80)=some true:=by kernel_rfl
end
theorem wx(l:List Nat)(h:∀ v∈l,v=45∨Sre.isWordUni v=true):fJ (fun k=>k<=l.length) (fun k=>(∀ q,q<k->Sre.isWordUni (l.getD q 0)=true)) (fun k=>((k=l.length/\∀ v∈l,v≠45)∨(k<l.length/\l.getD k 0=45))):=by
 have w45:Sre.isWordUni 45=false:=by decide+kernel
 induction l with
 |nil=>exact⟨0,KZ _,fun q hq=>absurd hq (LK _), .inl ⟨rfl,fun _ h=>(nomatch h)⟩⟩
 |cons a l ih=>
  by_cases ha:a=45
  ·exact⟨0,K0 _,fun q hq=>absurd hq (LK _), .inr ⟨MN _,ha⟩⟩
  ·obtain⟨k,h1,h2,h3⟩:=ih fun v hv=>h v (.tail _ hv)
   refine⟨k+1,Ms h1,fun q hq=>?_,?_⟩
   ·cases q with
    |zero=>exact(h a (.head _)).resolve_left ha
    |succ q=>exact h2 q (Om hq)
   ·rcases h3 with⟨h3,h4⟩|⟨h3,h4⟩
    ·refine .inl ⟨by refine aa h3 ?_;rfl,fun v hv=>?_⟩
     rcases KG.mp hv with rfl|hv
     ·exact ha
     ·exact h4 v hv
    ·exact .inr ⟨Pl h3,h4⟩
theorem AN(h0:(c0=45∨c0=63)∨gO c0)(hv:∀ v∈[v1,v2,v3,v4,v5,v6,v7,v8,v9],v=45∨Sre.isWordUni v=true):
  (dN ((fj (ar c0 v1 v2 v3 v4 v5 v6 v7 v8 v9)).runFor 84)=some true/\gO c0/\∀ v∈[v1,v2,v3,v4,v5,v6,v7,v8,v9],v≠45)∨
  (dN ((fj (ar c0 v1 v2 v3 v4 v5 v6 v7 v8 v9)).runFor 84)=some false/\¬(gO c0/\∀ v∈[v1,v2,v3,v4,v5,v6,v7,v8,v9],v≠45)):=by
 have w1:Sre.isWordUni 107=true:=by decide+kernel
 have w2:Sre.isWordUni 49=true:=by decide+kernel
 have w3:Sre.isWordUni 95=true:=by decide+kernel
 have w4:Sre.isWordUni 58=false:=by decide+kernel
 rcases h0 with h0|h0
 ·have w0:Sre.isWordUni c0=false:=by rcases h0 with rfl|rfl<;>decide+kernel
  have n6:¬gO c0:=by unfold gO;exact E0 h0
  obtain⟨s1,e1⟩:=io (ar c0 v1 v2 v3 v4 v5 v6 v7 v8 v9) 11 (.inl rfl) 3 14 0 0 (((((fj (ar c0 v1 v2 v3 v4 v5 v6 v7 v8 v9)).runFor 1).seen.add (((fj (ar c0 v1 v2 v3 v4 v5 v6 v7 v8 v9)).runFor 1).word 0))).add (((fj (ar c0 v1 v2 v3 v4 v5 v6 v7 v8 v9)).runFor 1).word 4)) (by decide) (fun q hq=>by
   have:q=0∨q=1∨q=2:=BP hq;rcases this with rfl|rfl|rfl
   ·exact w1
   ·exact w2
   ·exact w3) (.inr w0)
  refine .inr ⟨?_,fun h=>n6 h.1⟩;exact aa (show 84=2+82 by rfl) (aa ((ri c0 v1 v2 v3 v4 v5 v6 v7 v8 v9 3 s1 (by decide) (by simpa using e1)) _) (fA c0 v1 v2 v3 v4 v5 v6 v7 v8 v9 s1 h0))
 ·have w0:Sre.isWordUni c0=true:=by rcases h0 with rfl|rfl|rfl|rfl|rfl|rfl<;>decide+kernel
  obtain⟨s1,e1⟩:=io (ar c0 v1 v2 v3 v4 v5 v6 v7 v8 v9) 11 (.inl rfl) 4 14 0 0 (((((fj (ar c0 v1 v2 v3 v4 v5 v6 v7 v8 v9)).runFor 1).seen.add (((fj (ar c0 v1 v2 v3 v4 v5 v6 v7 v8 v9)).runFor 1).word 0))).add (((fj (ar c0 v1 v2 v3 v4 v5 v6 v7 v8 v9)).runFor 1).word 4)) (by decide) (fun q hq=>by
   have:q=0∨q=1∨q=2∨q=3:=EI hq;rcases this with rfl|rfl|rfl|rfl
   ·exact w1
   ·exact w2
   ·exact w3
   ·exact w0) (.inr w4)
  refine aa (show 84=2+(2+80) by rfl) (aa ((ri c0 v1 v2 v3 v4 v5 v6 v7 v8 v9 4 s1 (by decide) (by simpa using e1)) _) ?_);obtain⟨k,k1,k2,k3⟩:=wx _ hv;have tl:∀ q,(ar c0 v1 v2 v3 v4 v5 v6 v7 v8 v9).getD (5+q) 0=[v1,v2,v3,v4,v5,v6,v7,v8,v9].getD q 0:=fun q=>by
   refine aa NF (aa KR ?_);have e:(ar c0 v1 v2 v3 v4 v5 v6 v7 v8 v9)[5+q]?=([107,49,95,c0,58]++[v1,v2,v3,v4,v5,v6,v7,v8,v9])[5+q]?:=ae Array.getElem?_toList rfl;refine aa e (aa (LS (by simp)) ?_)
   congr 2
   simp
  have w45:Sre.isWordUni 45=false:=by decide+kernel
  obtain⟨s2,e2⟩:=io (ar c0 v1 v2 v3 v4 v5 v6 v7 v8 v9) 23 (.inr rfl) k 9 5 0 (((((eN (ar c0 v1 v2 v3 v4 v5 v6 v7 v8 v9) 4 s1).runFor 1).seen.add (((eN (ar c0 v1 v2 v3 v4 v5 v6 v7 v8 v9) 4 s1).runFor 1).word 0))).add (((eN (ar c0 v1 v2 v3 v4 v5 v6 v7 v8 v9) 4 s1).runFor 1).word 4)) k1 (fun q hq=>by refine aa (tl _) ?_;exact k2 q hq)
   (k3.imp (fun h=>h.1) fun h=>by refine aa (tl _) (aa h.2 ?_);exact w45)
  refine aa ((yG c0 v1 v2 v3 v4 v5 v6 v7 v8 v9 k s1 s2 (by simpa using e2)) _) ?_;rcases k3 with⟨k3,k4⟩|⟨k3,k4⟩
  ·have k9:k=9:=k3
   subst k9;exact .inl ⟨by refine aa (KM (by decide)) ?_;exact fD c0 v1 v2 v3 v4 v5 v6 v7 v8 v9 s1 s2,h0,k4⟩
  ·refine .inr ⟨?_,fun h=>?_⟩
   ·have k9:k<9:=k3
    by_cases UN:k<1
    ·refine aa (KW UN) ?_;exact fB c0 v1 v2 v3 v4 v5 v6 v7 v8 v9 s1 s2 h0
    ·refine aa (KM UN) ?_
     by_cases hk8:k=8
     ·subst hk8
      have:v9=45:=k4;subst this;exact Ef c0 v1 v2 v3 v4 v5 v6 v7 v8 s1 s2 h0
     ·exact fC c0 v1 v2 v3 v4 v5 v6 v7 v8 v9 s1 s2 h0 k (EO UN) (EX k9 hk8)
   ·refine h.2 _ ?_ k4
    exact aa KR (aa (KJ k3) (M5 _))
theorem gD{α:Type}{env:Addr->Option Obj}{M:Model}{A:Around}{Q:α->Shared->Prop}{E:X6}{s:Shared}(h:∀ a o,env a=some o->s.heap.get? a=some o){r:α}(q:Q r s){t:Sem α}
  (e:(ie env ⟨M.prog,M.w.params⟩ t).map (·.2)=some r):wpAny M A t Q E s:=by
 obtain⟨⟨as,r'⟩,e1,e2⟩:=Ls.mp e
 cases e2;exact lU q e1 fun a _=>h a
section
open Builtin.Re
variable{M:Model}{A:Around}{E:X6}{s:Shared}
theorem lK(h:dN m=some b):m.outcome=some (if b then .matched else .failed):=by
 revert h;unfold dN
 cases m.outcome with
 |none=>intro h;cases h
 |some o=>cases o<;>intro h<;>cases h<;>rfl
theorem nM(m:Sre.M)(h:m.outcome.isSome=true):∀ k,m.runFor k=m
 |0=>rfl
 |k+1=>by show (if m.outcome.isSome then m else _)=m;refine aa h ?_;rfl
theorem pX:∀ (k:Nat) (n:Nat) (m:Sre.M),k<n->dN (m.runFor (4*k+4))=some b->(∀ m',dN m'=some b->Q m' s)->wpAny M A (reDrive n m) Q E s
 |k,0,_,h,_,_=>absurd h (LK _)
 |k,n+1,m,hk,h,hQ=>by
  show wpAny M A (if (m.runFor 4).outcome.isSome=true then pure (m.runFor 4) else rule "sre.turn">>=fun _=>reDrive n (m.runFor 4)) Q E s
  cases ho:(m.runFor 4).outcome.isSome with
  |true=>
   refine aa (KW rfl) ?_;refine KC (hQ _ ?_);rw[show 4*k+4=4+4*k from LE [_] (.a (.m 4 V0) (.n 4)) (.a (.n 4) (.m 4 V0)) rfl,eO,nM _ ho] at h;exact h
  |false=>
   refine aa (KM KP) ?_;refine Kx (My ?_)
   cases k with
   |zero=>
    rw[Nat.mul_zero,Nk] at h;rw[lK h] at ho
    cases ho
   |succ k=>
    refine pX k n _ (by exact L1 [_,_] (.a V0 W1) V1 1 (.a (.a V0 W1) W1) (.a V1 W1) rfl hk) ?_ hQ;refine ae (eO _ _ _) ?_;rwa [show 4+(4*k+4)=4*(k+1)+4 from LE [_] (.a (.n 4) (.a (.m 4 V0) (.n 4))) (.a (.m 4 (.a V0 W1)) (.n 4)) rfl]
theorem xk(k n:Nat)(hk:k<2^64)(hn:4*k+4=n)(h:dN (m.runFor n)=some b)(hQ:∀ m',Q (if b then some m' else none) s):wpAny M A (reRunToEnd m) Q E s:=by
 unfold reRunToEnd;subst hn;refine Kx (pX k _ m hk h fun m' hm'=>?_);refine Kx (wpAny_forIn_list _ (fun _ _ s'=>s'=s) _ (fun i rest u s' e=>?_) (fun u s' e=>?_) _ _ rfl)
 ·subst e
  split
  ·exact Kx (My (KC rfl))
  ·exact KC rfl
 ·subst e
  refine aa (lK hm') ?_
  cases b with
  |true=>exact KC (hQ m')
  |false=>exact KC (hQ m')
end
theorem nK:entryFor table "re.Pattern.match"=some Builtin.«re.Pattern.match»:=OI (by kernel_rfl)
def nO(a:Addr):Option Obj:=if a=43 then some Aw else if a=42 then some Av else none
theorem vf(c0 v1 v2 v3 v4 v5 v6 v7 v8 v9:Nat)(tk:Tok)(S:Setting):(ie nO S (Builtin.Re.reTarget "re.Pattern.match" "match" ⟨[.ref 43, .str ⟨ar c0 v1 v2 v3 v4 v5 v6 v7 v8 v9⟩ tk],[]⟩)).map (·.2)=
  some {pattern:= .ref 43,string:= .str ⟨ar c0 v1 v2 v3 v4 v5 v6 v7 v8 v9⟩ tk,code:=cU,text:=ar c0 v1 v2 v3 v4 v5 v6 v7 v8 v9,kind:=0,groups:=0,pos:=0,lim:=14}:=by kernel_rfl
theorem wZ(x:Str)(tk:Tok)(S:Setting):(ie nO S (checkBoundCall "re.Pattern.match" ⟨[.ref 43, .str x tk],[]⟩)).map (·.2)=some ():=by kernel_rfl
theorem pS(a:Addr)(vs:Array Value)(S:Setting):∃ k,ie (fun _=>some {cls:= .type "re.Match",data:= .fields vs}) S (truthy (.ref a))=some (List.replicate k a,true):=by
 first
 |exact⟨1,by kernel_rfl!⟩
 |exact⟨2,by kernel_rfl!⟩
 |exact⟨3,by kernel_rfl!⟩
 |exact⟨4,by kernel_rfl!⟩
def j9(x:Str)(b:Bool):Prop:=xm (fun c0 v1 v2 v3 v4 v5 v6 v7 v8 v9=>x=⟨ar c0 v1 v2 v3 v4 v5 v6 v7 v8 v9⟩) (fun c0 v1 v2 v3 v4 v5 v6 v7 v8 v9=>dN ((fj (ar c0 v1 v2 v3 v4 v5 v6 v7 v8 v9)).runFor 84)=some b)
noncomputable abbrev nS(vs:Array Value):Obj:={cls:= .type "re.Match",data:= .fields vs}
section
variable{A:Around}{E:X6}{s:Shared}{h₀:Heap}{L:Addr}{m:X5}{news:X4}
theorem zw(X:(am P).In h):∀ a o,nO a=some o->h.get? a=some o:=fun a o e=>by
 unfold nO at e
 split at e
 ·cases e;rename_i q;subst q;exact X 43 Aw (by k_is)
 ·split at e
  ·cases e;rename_i q;subst q;exact X 42 Av (by k_is)
  ·cases e
theorem qf(_X:(am w.params).In h₀)
  (h:wpAny MP A (spliced (backTo pos (starEach [e] env))) (fun vs PZ=>(am w.params).In PZ.heap/\wpAny MP A (call (.ref 52) vs) Q E PZ) E s)
  (he:starEach [e] env=[(false,eval e env)]:=by rfl):
  wpAny MP A (callWith pos (.ref 52) [] (backTo pos (starEach [e] env)) []) Q E s:=by
 rw[he] at h⊢;exact callWith_of (P:=fun h=>(am w.params).In h) rfl (fun h hq=>⟨.machine, .inr (.inl rfl),(Looks.ld (part:=none) (hq 52 Ax (by k_is))).andThen .now⟩) (evalArgs_plain h)
theorem yd(F:Fr h₀ L s.heap m)(X:(am w.params).In h₀)(N:News h₀ L s.heap news)(hx:j9 x b)
  (h1:b=true->∀ (a:Nat) h' vs,Fr h₀ L h' m->News h₀ L h' ((a,nS vs)::news)->(∀ p∈news,p.1<a)->Q (.ref a) {s with heap:=h'})
  (h2:b=false->Q .none s):wpAny MP A (call (.ref 52) [.str x tk]) Q E s:=by
 obtain⟨c0,v1,v2,v3,v4,v5,v6,v7,v8,v9,rfl,hr⟩:=hx;have X':=X.keeps F.keep;refine qL (id:="re.Pattern.match") (b:=Builtin.«re.Pattern.match») (self:= .ref 43) (X' 52 Ax (by k_is)) (by decide+kernel) nK (fun Q' E' hQ=>gD (zw X') hQ (wZ _ _ _)) ?_;show wpAny _ _ (Builtin.Re.reTarget "re.Pattern.match" "match" ⟨[.ref 43, .str _ tk],[]⟩>>=fun t=>Builtin.Re.reAnswer t (Sre.forMatch t.code t.text t.groups t.pos t.lim false false)) _ _ _;refine Kx (gD (zw X') ?_ (vf c0 v1 v2 v3 v4 v5 v6 v7 v8 v9 tk _));unfold Builtin.Re.reAnswer;show wpAny _ _ (Builtin.Re.reRunToEnd (fj (ar c0 v1 v2 v3 v4 v5 v6 v7 v8 v9))>>=_) _ _ _;refine Kx ?_;have Qb:=fun Q E s=>@xk MP A.in1 E s b Q (fj (ar c0 v1 v2 v3 v4 v5 v6 v7 v8 v9)) 20 84 (by decide) rfl hr
 with_reducible refine Qb _ _ _ ?_
 intro m'
 cases b with
 |false=>exact KC ⟨_,rfl,h2 rfl⟩
 |true=>
  show wpAny _ _ (Builtin.Re.reNewMatch _ _ _ _ _ _>>=fun v=>ret v) _ _ _;unfold Builtin.Re.reNewMatch;dsimp only;refine Kx (Kx (LW ?_ (by show (2:Nat)<=sizeLine;decide)));refine LW ?_ (by size_fits);refine KC ⟨_,rfl,?_⟩;exact h1 rfl _ _ _ ((F.push _).push _) (fun p hp=>(KG.mp hp).elim (fun e=>by subst e;exact(NU (F.push _) News.nil _) _ (.head _)) fun hp=>(NU (F.push _) (iM (NU F N _)) _) p (.tail _ hp)) fun p hp=>by
   have:=KO (N p hp).1;rw[LZ];exact LG this
theorem vu(N:News h₀ L s.heap news)(hm:(a,nS vs)∈news)(h:Q true s):wpAny MP A (truthy (.ref a)) Q E s:=by
 obtain⟨k,e⟩:=pS a vs ⟨PR,w.params⟩;exact gE e (fun b hb=>by refine aa (OT hb) ?_;exact(N _ hm).1) h
variable{A₀:Around}{base:Heap}{outer:List Env}{env:Env}{P1:X4}{R:Result->Shared->Prop}{name qual:Str}{params:Arguments}{body:Yb}{scope:Scope}{dV kV doc pm PV ct:Value}{an:Option Addr}{fo:Obj}{f:Addr}{args:Args}{binds:List (Str×Value)}
theorem qe(B:Below A₀ base outer h₀)(F:Fr h₀ L s.heap m)(N:News h₀ L s.heap news)(TY:h₀.NoLimit)(hA:A.frames=some (env::outer))(hf:env.frame=some L)(SE:env.scope.kind=.function)
  (SR:∀ p∈P1,p∈news)
  (ho:s.heap.get? f=some fo) (hd:fo.data=.func (fnX name qual params body scope [] dV kV doc pm an PV ct)) (QZ:s.heap.CodeRec PV qual) (P9:A.depth<recursionLimit)
  (Qv:BindsTo s (fnX name qual params body scope [] dV kV doc pm an PV ct) args binds)
  (P4:∀ n,∀ x∈binds,scope.names.lookup x.1=some .local∨(scope.names.lookup x.1=some .cell/\((cellsFrom n scope.names []).lookup x.1).isSome=true))
  (RP:((cellsFrom 0 scope.names []).map (·.1)).Nodup)
  (h:∀ g L' h₁ tk cells,Fr h₀ L g m->Fr g L' h₁ (bindL (envOfC qual scope L' f PV).kindOf binds fun _=>none)->News g L' h₁ (cells++P1)->
   CellsAre (bindC (envOfC qual scope L' f PV).kindOf binds fun _=>none) (cellsFrom (L'+1) scope.names []) cells->Below A base (env::outer) g->h₀.StaysIn g->(∀ p∈news,p.1<L')->
   (∀ p∈news,(∀ q∈P1,q.1≠p.1)->g.get? p.1=some p.2)->(∀ p∈P1,g.get? p.1=none)->
   wpAny MP (A.deeper (envOfC qual scope L' f PV)) (execs body (envOfC qual scope L' f PV))
    (fun fl s'=>LeaveK h₀ L m g (fun r s'=>md news P1 s'.heap->R r s') (match fl with| .ret v=>v|_=> .none) s')
    (fun e s'=>wpAny MP (A.deeper (envOfC qual scope L' f PV)) (leaving (envOfC qual scope L' f PV) e) (fun _ Qh=>R (.error e) Qh) (fun e' Qh=>R (.error e') Qh) s')
    {s with heap:=h₁,toks:=tk})
  (Q0:scope.isCoroutine=false:=by rfl) (QV:scope.isGenerator=false:=by rfl) (hk:scope.kind=.function:=by rfl):codeAny MP A (.call (.ref f) args) R s:=by
 have N':News h₀ L s.heap P1:=fun p hp=>N p (SR p hp);obtain⟨FG,BG,st,lv⟩:=groundX (R:=R) B F N' hA hf SE;have hg:∀ p∈news,(∀ q∈P1,q.1≠p.1)->(hideAll s.heap (P1.map (·.1))).get? p.1=some p.2:=fun p hp hq=>hideAll_get _ (N p hp).1 fun hm=>by
  obtain⟨q,h1,h2⟩:=KI.mp hm;exact hq q h1 h2
 refine codeAny_call_function P9 ho hd Q0 QV rfl QZ (Qv _ _ _ _ ?_);refine wpAny_newFunctionEnv_cells hk (P4 _) fun env' he s' x=>?_;subst he;refine⟨(TY.keeps F.keep).keeps x.toInCall.keep,codeAny_func ?_⟩;obtain⟨h₁,tk,rfl,_⟩:=x.done;have RZ:=x.toInCall.keep;obtain⟨cells,NC,Y⟩:=Cl.news (h₀:=s.heap) (KZ _) fun n c hm=>⟨x.cell n c (lookup_of_mem_nodup (cellsFrom_names scope.names 0 (s.heap.objs.size+1) [] [] rfl▸RP) hm),x.above n c hm⟩;refine K7 (h _ s.heap.objs.size h₁ tk cells FG ⟨x.toInCall.ns,fun b o e=>RZ b o (of_hideAll _ e),Md (hideAll_size _ _)⟩ (fun p hp=>?_) Y BG st (fun p hp=>KO (N p hp).1) hg (fun p hp=>hideAll_none _ (KU hp))) (fun fl s' hl=>lv _ _ ?_) fun _ _ y=>y
 ·rcases KK.mp hp with hp|hp
  ·refine⟨(NC p hp).1,(NC p hp).2.1,?_⟩
   cases q:(hideAll s.heap (P1.map (·.1))).get? p.1 with
   |none=>rfl
   |some o=>have:=of_hideAll _ q;rw[(NC p hp).2.2] at this;cases this
  ·exact⟨RZ _ _ (N' p hp).1,K6 (KO (N' p hp).1),hideAll_none _ (KU hp)⟩
 ·obtain⟨L',m',PX,F',Vi,k⟩:=hl
  exact⟨L',m',PX,F',Vi,fun a b=>k a b fun p hp hq=>F'.keep _ _ (hg p hp hq)⟩
variable{mg mb:X5}{Qt:ExcName->Option Value}
theorem kt{K:Frag}{env:Env}{outer:List Env}{R:Result->Shared->Prop}{name qual:Str}{params:Arguments}{body:Yb}{scope:Scope}{dV kV doc pm PV ct oc:Value}{an od:Option Addr}{RL:Array (Option Value)}{f:Addr}{args:Args}{binds:List (Str×Value)}
  (B:Below A₀ base outer h₀) (F:Fr h₀ L s.heap m) (VW:K.In h₀) (N:News h₀ L s.heap news) (T:TT Qt mg mb h₀) (hA:A.frames=some (env::outer)) (hf:env.frame=some L) (SE:env.scope.kind=.function)
  (SR:∀ p∈P1,p∈news)
  (ho:K.lookup f=some ⟨oc,od, .func (fnOf name qual params body scope dV kV doc pm an PV ct),RL⟩) (QZ:codeIn K PV qual=true) (P9:A.depth<recursionLimit)
  (Qv:BindsTo s (fnOf name qual params body scope dV kV doc pm an PV ct) args binds) (P4:(binds.all fun y=>scope.names.lookup y.1==some .local||scope.names.lookup y.1==some .cell)=true)
  (RP:((cellsFrom 0 scope.names []).map (·.1)).Nodup)
  (h:∀ g L' h₁ tk cells,Fr h₀ L g m->Fr g L' h₁ (bindL (envOfC qual scope L' f PV).kindOf binds fun _=>none)->News g L' h₁ (cells++P1)->
   CellsAre (bindC (envOfC qual scope L' f PV).kindOf binds fun _=>none) (cellsFrom (L'+1) scope.names []) cells->Below A base (env::outer) g->K.In g->TT Qt mg mb g->(∀ p∈news,p.1<L')->
   (∀ p∈news,(∀ q∈P1,q.1≠p.1)->g.get? p.1=some p.2)->(∀ p∈P1,g.get? p.1=none)->
   wpAny MP (A.deeper (envOfC qual scope L' f PV)) (execs body (envOfC qual scope L' f PV))
    (fun fl s'=>LeaveK h₀ L m g (fun r s'=>md news P1 s'.heap->R r s') (match fl with| .ret v=>v|_=> .none) s')
    (fun e s'=>wpAny MP (A.deeper (envOfC qual scope L' f PV)) (leaving (envOfC qual scope L' f PV) e) (fun _ Qh=>R (.error e) Qh) (fun e' Qh=>R (.error e') Qh) s')
    {s with heap:=h₁,toks:=tk})
  (Q0:scope.isCoroutine=false) (QV:scope.isGenerator=false) (hk:scope.kind=.function):codeAny MP A (.call (.ref f) args) R s:=
 qe B F N T.nolimit hA hf SE SR ((VW.keeps F.keep) _ _ ho) rfl (codeRec_of (VW.keeps F.keep) QZ) P9 Qv (kindsX P4) RP (fun g L' h₁ tk cells FG F' N' Y B' st l hg hn=>h g L' h₁ tk cells FG F' N' Y B' (VW.keeps st) (T.keeps st) l hg hn) Q0 QV hk
noncomputable def cf (mode c p:Int):Int:=c*16+((mode.fdiv (8^p.toNat)).fmod 8).fdiv 2*4+(mode.fdiv (2^(9+p).toNat)).fmod 2+((mode.fdiv (8^p.toNat)).fmod 8).fmod 2*(3-2*(mode.fdiv (2^(9+p).toNat)).fmod 2)
noncomputable def bf (mode:Int):Int:=cf mode (cf mode (cf mode ([1,6,3,1,4,1,2,1,0,1,5,1,7,1,1,1].getD (mode.fdiv 4096).toNat 0) 2) 1) 0
def ey(x:Str)(code p:Int)(t:String):Str:=x++Txt.item (Yc "-r") (((code.fdiv (16^p.toNat)).fmod 16).fdiv 8)++Txt.item (Yc "-w") ((((code.fdiv (16^p.toNat)).fmod 16).fdiv 4).fmod 2)++Txt.item (Yc t) (((code.fdiv (16^p.toNat)).fmod 16).fmod 4)
def ac(code:Int):Str:=ey (ey (ey (Txt.item (Yc "-?bcdlps") (code.fdiv 4096)) code 2 "-Ssx") code 1 "-Ssx") code 0 "-Ttx"
def cE(mode:Int)(tab:List (Int×String)):Str:=((tab.find? fun p=>Builtin.bitAnd mode p.1==p.1).map fun p=>Yc p.2).getD (Yc "-")
def i8(mode:Int)(tab:List (Int×String)):Str:=((tab.find? fun p=>Builtin.bitAnd mode 61440==p.1).map fun p=>Yc p.2).getD (Yc "?")
end
noncomputable def yp:List (Int×String):=[(40960,"l"),(49152,"s"),(32768,"-"),(24576,"b"),(16384,"d"),(8192,"c"),(4096,"p")]
theorem jH(n i:Nat):(Builtin.bitAnd ((n:Nat):Int) ((2^i:Nat):Int)==((2^i:Nat):Int))=decide (n/2^i%2=1):=by
 (refine aa (bitAnd_pp (K1 _) (K1 _)) (aa (K8 _) (aa (K8 _) (ae Nat.testBit_eq_decide_div_mod_eq ?_)));rw[MY,Mx,Int.ofNat_inj])
 constructor
 ·intro h
  have q:=congrArg (·.testBit i) h;simpa [OP,Nat.testBit_two_pow_self] using q
 ·intro h
  refine OC fun j=>?_;refine aa (OP _ _ _) (aa Nat.testBit_two_pow ?_)
  by_cases e:i=j
  ·subst e;refine aa h ?_;rfl
  ·exact aa (KY e) (aa (Bool.and_false _) rfl)
theorem xW(n x y:Nat):(Builtin.bitAnd ((n:Nat):Int) ((x|||y:Nat):Int)==((x|||y:Nat):Int))=((Builtin.bitAnd ((n:Nat):Int) ((x:Nat):Int)==((x:Nat):Int))&&(Builtin.bitAnd ((n:Nat):Int) ((y:Nat):Int)==((y:Nat):Int))):=by
 refine aa (bitAnd_pp (K1 _) (K1 _)) (aa (bitAnd_pp (K1 _) (K1 _)) (aa (bitAnd_pp (K1 _) (K1 _)) ?_));simp only[K8]
 (rw[MY];refine aa (Nv _ _) ?_)
 simp only[Mx,Int.ofNat_inj]
 constructor
 ·intro h
  constructor<;>refine OC fun i=>?_<;>have q:=congrArg (·.testBit i) h<;>simp only[OP,Nat.testBit_or] at q⊢<;>revert q<;>cases n.testBit i<;>cases x.testBit i<;>cases y.testBit i<;>simp
 ·rintro⟨h1,h2⟩
  refine OC fun i=>?_;have q1:=congrArg (·.testBit i) h1;have q2:=congrArg (·.testBit i) h2;simp only[OP,Nat.testBit_or] at q1 q2⊢;revert q1 q2
  cases n.testBit i<;>cases x.testBit i<;>cases y.testBit i<;>simp
theorem ja(n i:Nat)(v:Int)(c:String)(hv:v=((2^i:Nat):Int)):cE n [(v,c)]=if n/2^i%2=1 then Yc c else Yc "-":=by
 subst hv;unfold cE;refine aa MK (aa (jH _ _) ?_)
 by_cases h:n/2^i%2=1
 ·refine aa (KV h) (aa (KW h) ?_);rfl
 ·refine aa (KY h) (aa (KM h) ?_);rfl
theorem si(n i j:Nat)(v a b:Int)(c1 c2 c3:String)(hv:v=((2^i|||2^j:Nat):Int))(ha:a=((2^i:Nat):Int))(hb:b=((2^j:Nat):Int)):cE n [(v,c1),(a,c2),(b,c3)]=
  if n/2^i%2=1 then(if n/2^j%2=1 then Yc c1 else Yc c2) else if n/2^j%2=1 then Yc c3 else Yc "-":=by
 subst hv;subst ha;subst hb;unfold cE;refine aa MK (aa MK (aa MK (aa (xW _ _ _) (aa (jH _ _) (aa (jH _ _) ?_)))))
 by_cases h:n/2^i%2=1
 ·by_cases h':n/2^j%2=1
  ·refine aa (KV h) (aa (KV h') (aa (KW h) (aa (KW h') ?_)));rfl
  ·refine aa (KV h) (aa (KY h') (aa (KW h) (aa (KM h') ?_)));rfl
 ·by_cases h':n/2^j%2=1
  ·refine aa (KY h) (aa (KV h') (aa (KM h) (aa (KW h') ?_)));rfl
  ·refine aa (KY h) (aa (KY h') (aa (KM h) (aa (KM h') ?_)));rfl
theorem mw(n:Nat)(h:n<65536):Builtin.bitAnd ((n:Nat):Int) 61440=((n/4096*4096:Nat):Int):=by
 refine aa (bitAnd_pp (iW) (iW)) (aa (K8 _) ?_)
 congr 1
 show n&&& 61440=_;have e:(61440:Nat)=(2^4-1)*2^12:=rfl;refine OC fun i=>?_;refine aa (OP _ _ _) (aa (show n/4096*4096=(n/2^12)*2^12 from rfl) (aa e ?_));refine ae (Nat.shiftLeft_eq _ _) (ae (Nat.shiftLeft_eq _ _) (aa (Nat.testBit_shiftLeft _) (aa (Nat.testBit_shiftLeft _) (ae (Nat.shiftRight_eq_div_pow _ _) (aa (Nat.testBit_shiftRight _) (aa (Nat.testBit_two_pow_sub_one _ _) ?_))))))
 by_cases hi:12<=i
 ·(refine aa (KV (show i≥12 from hi)) ?_;rw[Bool.true_and,Bool.true_and];refine aa (show 12+(i-12)=i from sA hi) ?_)
  by_cases h4:i-12<4
  ·exact aa (KV h4) (aa (Bool.and_true _) rfl)
  ·refine aa (KY h4) (aa (Bool.and_false _) ?_)
   symm
   refine Nat.testBit_lt_two_pow (K9 h ?_);exact Nat.pow_le_pow_right (n:=2) (i:=16) (by decide) (E9 h4)
 ·(refine aa (KY (show¬i≥12 from hi)) ?_;rw[Bool.false_and];exact aa (Bool.false_and _) (aa (Bool.and_false _) rfl))
noncomputable def b0 (r w x s:Nat):Nat:=(2*r+w)*4+s+x*(3-2*s)
theorem eW{r w x s:Nat}(hr:r<2)(hw:w<2)(hx:x<2)(hs:s<2):b0 r w x s<16:=by
 exact(by decide:∀ r,r<2->∀ w,w<2->∀ x,x<2->∀ s,s<2->b0 r w x s<16) r hr w hw x hx s hs
theorem jN{r w x s:Nat}(hr:r<2)(hw:w<2)(hx:x<2)(hs:s<2):
  Txt.item (Yc "-r") (((b0 r w x s:Nat):Int).fdiv 8)=(if r=1 then Yc "r" else Yc "-")/\
  Txt.item (Yc "-w") ((((b0 r w x s:Nat):Int).fdiv 4).fmod 2)=(if w=1 then Yc "w" else Yc "-")/\
  Txt.item (Yc "-Ssx") (((b0 r w x s:Nat):Int).fmod 4)=(if s=1 then(if x=1 then Yc "s" else Yc "S") else if x=1 then Yc "x" else Yc "-")/\
  Txt.item (Yc "-Ttx") (((b0 r w x s:Nat):Int).fmod 4)=(if s=1 then(if x=1 then Yc "t" else Yc "T") else if x=1 then Yc "x" else Yc "-"):=
 (by decide+kernel:∀ r,r<2->∀ w,w<2->∀ x,x<2->∀ s,s<2->(
  Txt.item (Yc "-r") (((b0 r w x s:Nat):Int).fdiv 8)=(if r=1 then Yc "r" else Yc "-")/\
  Txt.item (Yc "-w") ((((b0 r w x s:Nat):Int).fdiv 4).fmod 2)=(if w=1 then Yc "w" else Yc "-")/\
  Txt.item (Yc "-Ssx") (((b0 r w x s:Nat):Int).fmod 4)=(if s=1 then(if x=1 then Yc "s" else Yc "S") else if x=1 then Yc "x" else Yc "-")/\
  Txt.item (Yc "-Ttx") (((b0 r w x s:Nat):Int).fmod 4)=(if s=1 then(if x=1 then Yc "t" else Yc "T") else if x=1 then Yc "x" else Yc "-"))) r hr w hw x hx s hs
theorem jV(n a b:Nat)(c p:Int)(ha:(8:Int)^p.toNat=(a:Nat))(hb:(2:Int)^(9+p).toNat=(b:Nat))(ha0:0<a)(hb0:0<b):
  cf n c p=c*16+((b0 (n/a/4%2) (n/a/2%2) (n/a%2) (n/b%2):Nat):Int):=by
 unfold cf;refine aa ha (aa hb ?_);have f1:((n:Nat):Int).fdiv (a:Nat)=((n/a:Nat):Int):=aa (LI _ (K1 _)) rfl;have f2:((n:Nat):Int).fdiv (b:Nat)=((n/b:Nat):Int):=aa (LI _ (K1 _)) rfl;refine aa f1 (aa f2 ?_);generalize n/a=q;generalize n/b=z;simp only[LI _ (show (0:Int)<=2 by decide),Mo _ (show (0:Int)<=8 by decide),Mo _ (show (0:Int)<=2 by decide)];unfold b0;have h4:q/4%2=q%8/4:=(Nat.mod_mul_right_div_self q 4 2).symm;have h2:q/2%2=q%8/2%2:=by exact aa (show q%8/2=q/2%4 from Nat.mod_mul_right_div_self q 2 4) (aa (Nat.mod_mod_of_dvd _ (by decide)) rfl)
 have h1:q%2=q%8%2:=(Nat.mod_mod_of_dvd _ (by decide)).symm;refine aa h4 (aa h2 (aa h1 (aa (Int.add_assoc _ _ _) (aa (Int.add_assoc _ _ _) ?_))));exact congrArg (c*16+·) ((by decide:∀ f,f<8->∀ s,s<2->(((f:Nat):Int)/2*4+(((s:Nat):Int)+((f:Nat):Int)%2*(3-2*((s:Nat):Int))))=((b0 (f/4) (f/2%2) (f%2) s:Nat):Int)) (q%8) (L8 _ (by decide)) (z%2) (L8 _ (by decide)))
noncomputable def jO (k:Nat):Nat:=[1,6,3,1,4,1,2,1,0,1,5,1,7,1,1,1].getD k 0
theorem js(n:Nat)(h:n<65536):bf n=((((jO (n/4096)*16+b0 (n/256%2) (n/128%2) (n/64%2) (n/2048%2))*16+b0 (n/32%2) (n/16%2) (n/8%2) (n/1024%2))*16+b0 (n/4%2) (n/2%2) (n%2) (n/512%2):Nat):Int):=by
 unfold bf;refine aa (jV n 1 512 _ 0 rfl rfl (by decide) (by decide)) (aa (jV n 8 1024 _ 1 rfl rfl (by decide) (by decide)) (aa (jV n 64 2048 _ 2 rfl rfl (by decide) (by decide)) ?_));have f1:((n:Nat):Int).fdiv 4096=((n/4096:Nat):Int):=aa (LI _ (by decide)) rfl;have hk:([1,6,3,1,4,1,2,1,0,1,5,1,7,1,1,1]:X9).getD (((n:Nat):Int).fdiv 4096).toNat 0=((jO (n/4096):Nat):Int):=by
  refine aa f1 (aa (K8 _) ?_);exact(by decide:∀ k,k<16->([1,6,3,1,4,1,2,1,0,1,5,1,7,1,1,1]:X9).getD k 0=((jO k:Nat):Int)) _ (Mp h)
 refine aa hk ?_;simp only[M2,Nat.div_one,Nat.reduceMul]
 push_cast
 rfl
theorem ux(k:Nat)(h:k<16):Txt.item (Yc "-?bcdlps") ((jO k:Nat):Int)=((yp.find? fun p=>((k*4096:Nat):Int)==p.1).map fun p=>Yc p.2).getD (Yc "?"):=
 (by decide+kernel:∀ k,k<16->Txt.item (Yc "-?bcdlps") ((jO k:Nat):Int)=((yp.find? fun p=>((k*4096:Nat):Int)==p.1).map fun p=>Yc p.2).getD (Yc "?")) k h
theorem kW(k f2 f1 f0:Nat)(h2:f2<16)(h1:f1<16)(h0:f0<16):ac ((((k*16+f2)*16+f1)*16+f0:Nat):Int)=
  Txt.item (Yc "-?bcdlps") ((k:Nat):Int)++Txt.item (Yc "-r") (((f2:Nat):Int).fdiv 8)++Txt.item (Yc "-w") ((((f2:Nat):Int).fdiv 4).fmod 2)++Txt.item (Yc "-Ssx") (((f2:Nat):Int).fmod 4)
   ++Txt.item (Yc "-r") (((f1:Nat):Int).fdiv 8)++Txt.item (Yc "-w") ((((f1:Nat):Int).fdiv 4).fmod 2)++Txt.item (Yc "-Ssx") (((f1:Nat):Int).fmod 4)
   ++Txt.item (Yc "-r") (((f0:Nat):Int).fdiv 8)++Txt.item (Yc "-w") ((((f0:Nat):Int).fdiv 4).fmod 2)++Txt.item (Yc "-Ttx") (((f0:Nat):Int).fmod 4):=by
 unfold ac ey;have d:∀ (x:Nat) (y:Nat),0<y->((x:Nat):Int).fdiv ((y:Nat):Int)=((x/y:Nat):Int):=fun x y _=>aa (LI _ (K1 _)) rfl;have m:∀ (x:Nat) (y:Nat),((x:Nat):Int).fmod ((y:Nat):Int)=((x%y:Nat):Int):=fun x y=>aa (Mo _ (K1 _)) rfl;have a:∀ x f:Nat,f<16->(x*16+f)/16=x:=fun x f h=>by exact aa (Nat.mul_comm _ _) (aa ((Nat.mul_add_div (by decide)) _ _) (aa (Nat.div_eq_of_lt h) (aa (Nat.add_zero _) rfl)))
 have b:∀ x f:Nat,f<16->(x*16+f)%16=f:=fun x f h=>by exact aa (Nat.mul_comm _ _) (aa (Nat.mul_add_mod _ _ _) (aa (Nat.mod_eq_of_lt h) rfl))
 have n1:=a ((k*16+f2)*16+f1) f0 h0;have n2:(((k*16+f2)*16+f1)*16+f0)/256=k*16+f2:=by exact aa (show 256=16*16 from rfl) (ae (M2 _ _ _) (aa n1 (aa (a _ _ h1) rfl)))
 have n3:(((k*16+f2)*16+f1)*16+f0)/4096=k:=by exact aa (show 4096=256*16 from rfl) (ae (M2 _ _ _) (aa n2 (aa (a _ _ h2) rfl)))
 have m0:=b ((k*16+f2)*16+f1) f0 h0;have m1:(((k*16+f2)*16+f1)*16+f0)/16%16=f1:=by exact aa n1 (aa (b _ _ h1) rfl)
 have m2:(((k*16+f2)*16+f1)*16+f0)/256%16=f2:=by exact aa n2 (aa (b _ _ h2) rfl)
 generalize ((k*16+f2)*16+f1)*16+f0=n at n3 m0 m1 m2;have e4:((n:Nat):Int).fdiv 4096=((k:Nat):Int):=by exact aa (show (4096:Int)=((4096:Nat):Int) from rfl) (aa (d _ _ (by decide)) (aa n3 rfl))
 have e2:(((n:Nat):Int).fdiv (16^(2:Int).toNat)).fmod 16=((f2:Nat):Int):=by exact aa (show (16:Int)^(2:Int).toNat=((256:Nat):Int) from rfl) (aa (d _ _ (by decide)) (aa (show (16:Int)=((16:Nat):Int) from rfl) (aa (m _ _) (aa m2 rfl))))
 have e1:(((n:Nat):Int).fdiv (16^(1:Int).toNat)).fmod 16=((f1:Nat):Int):=by exact aa (show (16:Int)^(1:Int).toNat=((16:Nat):Int) from rfl) (aa (d _ _ (by decide)) (aa (show (16:Int)=((16:Nat):Int) from rfl) (aa (m _ _) (aa m1 rfl))))
 have e0:(((n:Nat):Int).fdiv (16^(0:Int).toNat)).fmod 16=((f0:Nat):Int):=by exact aa (show (16:Int)^(0:Int).toNat=((1:Nat):Int) from rfl) (aa (d _ _ (by decide)) (aa (show (16:Int)=((16:Nat):Int) from rfl) (aa (m _ _) (aa (Nat.div_one _) (aa m0 rfl)))))
 exact aa e4 (aa e2 (aa e1 (aa e0 rfl)))
def aO(mode:Int):Str:=i8 mode yp++cE mode [(256,"r")]++cE mode [(128,"w")]++cE mode [(2112,"s"),(2048,"S"),(64,"x")]++cE mode [(32,"r")]++cE mode [(16,"w")]++cE mode [(1032,"s"),(1024,"S"),(8,"x")]++cE mode [(4,"r")]++cE mode [(2,"w")]++cE mode [(513,"t"),(512,"T"),(1,"x")]
theorem uk(n:Nat)(h:n<65536):aO n=ac (bf n):=by
 have b:∀ x:Nat,x%2<2:=fun x=>L8 _ (by decide);obtain⟨a1,a2,a3,_⟩:=jN (b (n/256)) (b (n/128)) (b (n/64)) (b (n/2048));obtain⟨c1,c2,c3,_⟩:=jN (b (n/32)) (b (n/16)) (b (n/8)) (b (n/1024));obtain⟨d1,d2,_,d4⟩:=jN (b (n/4)) (b (n/2)) (b n) (b (n/512));refine aa (js n h) (aa (kW _ _ _ _ (eW (b _) (b _) (b _) (b _)) (eW (b _) (b _) (b _) (b _)) (eW (b _) (b _) (b _) (b _))) (aa a1 (aa a2 (aa a3 (aa c1 (aa c2 (aa c3 (aa d1 (aa d2 (aa d4 (aa (ux _ (hD h)) ?_)))))))))));unfold aO;refine aa (ja n 8 256 "r" rfl) (aa (ja n 7 128 "w" rfl) (aa (si n 11 6 2112 2048 64 "s" "S" "x" rfl rfl rfl) (aa (ja n 5 32 "r" rfl) (aa (ja n 4 16 "w" rfl) (aa (si n 10 3 1032 1024 8 "s" "S" "x" rfl rfl rfl) (aa (ja n 2 4 "r" rfl) (aa (ja n 1 2 "w" rfl) (aa (si n 9 0 513 512 1 "t" "T" "x" rfl rfl rfl) ?_))))))));unfold i8;refine aa (mw n h) ?_;simp only[Nat.reducePow,Nat.div_one]
noncomputable abbrev cR (it:Addr) (i:Int) (SJ:Value):Obj:={cls:= .type "enumerate",dict:=none,data:= .fields #[.none, .bool false, .ref it,rawInt i, .none,SJ],slots:=#[]}
theorem rT{prog:Program}{w:World}{A:Around}{E:X6}{s:Shared}{cls:Value}{Q:Bool->Shared->Prop}(h:∀ b,Q b s):wpAny (model prog w) A (Builtin.SmallTypes.calledThroughType cls) Q E s:=by
 unfold Builtin.SmallTypes.calledThroughType;exact Kx (wpAny_stack_any fun st=>KC (h _))
theorem qq(l:Addr)(items:Array Value)(n:Nat):
  Meets (Builtin.«enumerate.__new__» ⟨[.type "enumerate", .ref l],[]⟩) (fun _ R s=>s.heap.get? l=some {cls:= .type "tuple",dict:=none,data:= .seq items n,slots:=#[]}/\
   R (.ok (.ret (.ref (s.heap.push {cls:= .type "tuple_iterator",data:= .fields #[.ref l, .int 0 0]}).objs.size)))
    {s with heap:=(s.heap.push {cls:= .type "tuple_iterator",data:= .fields #[.ref l, .int 0 0]}).push {cls:= .type "enumerate",data:= .fields #[.none, .bool false, .ref s.heap.objs.size,rawInt 0, .none, .none]}}):=
 .of_wp fun prog w A R s h=>by
  obtain⟨hp,g,d,tk,os⟩:=s;obtain⟨hl,h⟩:=h;have VI:=sub_enumerate;have hL:Heap.IsTuple (Shared.heap ⟨hp,g,d,tk,os⟩) l items:=⟨_,hl,rfl,n,rfl⟩
  wp_walk using OR hl,rT
  intro b
  cases b
  ·wp_walk using OR hl,wpAny_pyIter_tuple hL
   exact⟨_,rfl,h⟩
  ·wp_walk using OR hl,wpAny_pyIter_tuple hL
   exact⟨_,rfl,h⟩
section
variable{A:Around}{E:X6}{s:Shared}
theorem se{it l:Addr}{i:Nat}{items:Array Value}{x:Value}{Q:X6}(QE:s.heap.IsTupleIter it l i)(ht:s.heap.IsTuple l items)(hx:items[i]?=some x)
  (hQ:∀ h',h'.IsTupleIter it l (i+1)->Heap.SameBut it s.heap h'->Q x {s with heap:=h'}):wpAny MP A (Builtin.SmallTypes.nextOf (.ref it)) Q E s:=by
 obtain⟨oi,g1,g2,g3⟩:=id QE;obtain⟨ot,k1,_,nt,k2⟩:=ht;unfold Builtin.SmallTypes.nextOf;refine Kx (Mn (name:=Yc "__next__") QE.typeIs NO
  (LQ NO QE.typeIs F.entry_tuple_iterator_next ?_ (F.args_tuple_iterator_next_1 _)))
 show wpAny _ _ (field (.ref it) 0>>=_) _ _ s;refine Kx (Mf g1 g3 (x:= .ref l) rfl ?_);show wpAny _ _ (if (Value.ref l==Value.none)=true then _ else _) _ _ s;refine aa (KM (show¬((Value.ref l==Value.none)=true) from KP)) ?_;show wpAny _ _ (field (.ref it) 1>>=_) _ _ s;refine Kx (Mf g1 g3 (x:= .int i 0) rfl ?_);show wpAny _ _ (seqItems? (.ref l)>>=_) _ _ s;refine Kx (NX k1 k2 ?_);simp only[K8,hx];refine Kx (O4 g1 g3 (by simp) (KC ⟨x,rfl,KC (hQ _ ?_ (Lm ..))⟩));exact⟨_,ML _ g1 (Ov (NK g3 _)),(Obj.cls_mapFields ..).trans g2,by refine aa (NK g3 _) ?_;simp[rawInt]⟩
theorem uS{it l:Addr}{i:Nat}{items:Array Value}{Q:X6}(hh:A.handled=none)(QE:s.heap.IsTupleIter it l i)(ht:s.heap.IsTuple l items)(hx:items[i]?=none)
  (hE:∀ h' e,Heap.ExtBut it s.heap h'->(aM (fun o=>h'.get? e=some o) (fun o=>o.cls=.type "StopIteration"))->E (.ref e) {s with heap:=h'}):wpAny MP A (Builtin.SmallTypes.nextOf (.ref it)) Q E s:=by
 obtain⟨oi,g1,g2,g3⟩:=id QE;obtain⟨ot,k1,_,nt,k2⟩:=ht;unfold Builtin.SmallTypes.nextOf;refine Kx (Mn (name:=Yc "__next__") QE.typeIs NO
  (LQ NO QE.typeIs F.entry_tuple_iterator_next ?_ (F.args_tuple_iterator_next_1 _)))
 show wpAny _ _ (field (.ref it) 0>>=_) _ _ s;refine Kx (Mf g1 g3 (x:= .ref l) rfl ?_);show wpAny _ _ (if (Value.ref l==Value.none)=true then _ else _) _ _ s;refine aa (KM (show¬((Value.ref l==Value.none)=true) from KP)) ?_;show wpAny _ _ (field (.ref it) 1>>=_) _ _ s;refine Kx (Mf g1 g3 (x:= .int i 0) rfl ?_);show wpAny _ _ (seqItems? (.ref l)>>=_) _ _ s;refine Kx (NX k1 k2 ?_);simp only[K8,hx];refine Kx (My (Kx (O4 g1 g3 (by simp) ?_)));refine ft hh ?_;exact hE _ _ (((Lm ..).extBut.push _).push _) ⟨_,La _ rfl,rfl⟩
theorem rV{e it l:Addr}{i:Nat}{items:Array Value}{x SJ:Value}{Q:Option Value->Shared->Prop}(he:IsEnum s.heap e it i SJ)(QE:s.heap.IsTupleIter it l i)(ht:s.heap.IsTuple l items)(hx:items[i]?=some x)(P2:e≠it)
  (hQ:∀ a h',IsEnumOut h' e it ((i:Int)+1) x a->h'.IsTupleIter it l (i+1)->(∃ t,h'.get? a=some {cls:= .type "tuple",data:= .seq #[.int i t,x]})->s.heap.objs.size<=a->
   (∀ b o,b≠e->b≠it->s.heap.get? b=some o->h'.get? b=some o)->Q (some (.ref a)) {s with heap:=h',toks:=s.toks+1}):
  wpAny MP A (pyNext (.ref e)) Q E s:=by
 have hT:s.TypeIs (.ref e) "enumerate":=⟨_,he,rfl⟩;unfold pyNext;refine Kx (Nt (Mn (name:=Yc "__next__") hT Oq (LQ Oq hT F.entry_enumerate_next ?_ (F.args_enumerate_next_1 _))));obtain⟨hp,g,d,tk,os⟩:=s;show wpAny _ _ (field (.ref e) 2>>=_) _ _ _;refine Kx (Mf he rfl (x:= .ref it) rfl ?_);refine Kx (se QE ht hx fun h₁ Wh U0=>?_);replace U0:Heap.SameBut it hp h₁:=U0;have W5:IsEnum h₁ e it i SJ:=(U0.2 e P2).trans he;show wpAny _ _ (field (.ref e) 3>>=_) _ _ ⟨h₁,g,d,tk,os⟩;refine Kx (Mf W5 rfl (x:=rawInt i) rfl ?_);show wpAny _ _ (field (.ref e) 4>>=_) _ _ ⟨h₁,g,d,tk,os⟩;refine Kx (Mf W5 rfl (x:= .none) rfl ?_);show wpAny _ _ (mkInt i>>=_) _ _ ⟨h₁,g,d,tk,os⟩;refine Kx (wpAny_mkInt ?_);show wpAny _ _ (setField (.ref e) 3 (rawInt ((i:Int)+1))>>=_) _ _ ⟨h₁,g,d,tk+1,os⟩;refine Kx (Ok W5 (by simp) fun R8 W6 S8=>?_);replace S8:Heap.SameBut e h₁ R8:=S8;replace W6:IsEnum R8 e it ((i:Int)+1) SJ:=W6;show wpAny _ _ (setField (.ref e) 4 .none>>=_) _ _ ⟨R8,g,d,tk+1,os⟩;refine Kx (Ok W6 (by simp) fun Sc W7 V7=>?_);replace V7:Heap.SameBut e R8 Sc:=V7;replace W7:IsEnum Sc e it ((i:Int)+1) SJ:=W7;show wpAny _ _ (newTuple [.int i tk,x]>>=_) _ _ ⟨Sc,g,d,tk+1,os⟩;refine Kx (wpAny_newTuple ?_);have keep:∀ b o,b≠e->b≠it->hp.get? b=some o->Sc.get? b=some o:=fun b o hb RX q=>V7.extBut b o hb (S8.extBut b o hb (U0.extBut b o RX q));have size:hp.objs.size=Sc.objs.size:=by exact aa V7.1 (aa S8.1 (aa U0.1 rfl))
 have XS:Sc.IsTupleIter it l (i+1):=(Wh.at fun o q=>S8.extBut it o (MF P2) q).at fun o q=>V7.extBut it o (MF P2) q;clear W6 S8 W5 U0 Wh V7 R8 h₁;have Xr:IsEnum (Sc.push {cls:= .type "tuple",data:= .seq #[.int i tk,x]}) e it ((i:Int)+1) SJ:=KL _ W7;have ht₄:(Sc.push {cls:= .type "tuple",data:= .seq #[.int i tk,x]}).get? Sc.objs.size=some {cls:= .type "tuple",data:= .seq #[.int i tk,x]}:=La _ rfl;have XT:(Sc.push {cls:= .type "tuple",data:= .seq #[.int i tk,x]}).IsTupleIter it l (i+1):=XS.at fun o q=>KL _ q;have XF:∀ b o,b≠e->b≠it->hp.get? b=some o->(Sc.push {cls:= .type "tuple",data:= .seq #[.int i tk,x]}).get? b=some o:=fun b o hb RX q=>KL _ (keep b o hb RX q);have Uh:e<Sc.objs.size:=KO W7;generalize Sc.objs.size=a at*;generalize Sc.push {cls:= .type "tuple",data:= .seq #[.int i tk,x]}=R1 at*;show wpAny _ _ (Builtin.SmallTypes.ownedTupleIsFree (.ref e)>>=_) _ _ ⟨R1,g,d,tk+1,os⟩;refine Kx ?_;unfold Builtin.SmallTypes.ownedTupleIsFree;refine Kx (Mf Xr rfl (x:= .none) rfl (KC ?_));simp only[if_true];refine Kx (My ?_);refine Kx (Mf Xr rfl (x:=SJ) rfl ?_);refine Kx (Ok Xr (by simp) fun Xi Xs Xw=>?_);replace Xw:Heap.SameBut e R1 Xi:=Xw;replace Xs:IsEnum Xi e it ((i:Int)+1) x:=Xs;show wpAny _ _ (Builtin.SmallTypes.ownedTupleHandOut (.ref e) (.ref a)>>=_) _ _ ⟨Xi,g,d,tk+1,os⟩;refine Kx ?_;unfold Builtin.SmallTypes.ownedTupleHandOut;refine Kx (Ok Xs (by simp) fun XU Xu Xx=>?_);replace Xx:Heap.SameBut e Xi XU:=Xx;replace Xu:IsEnumOut XU e it ((i:Int)+1) x a:=Xu;refine Ok Xu (by simp) fun XD Xv Xy=>?_;replace Xy:Heap.SameBut e XU XD:=Xy;replace Xv:IsEnumOut XD e it ((i:Int)+1) x a:=Xv;have k7:∀ b o,b≠e->R1.get? b=some o->XD.get? b=some o:=fun b o hb q=>Xy.extBut b o hb (Xx.extBut b o hb (Xw.extBut b o hb q));exact Kx (wpAny_letGo (KC ⟨_,rfl,KC (hQ a XD Xv (XT.at fun o q=>k7 it o (MF P2) q) ⟨tk,k7 a _ (Mh Uh) ht₄⟩ (Md size) fun b o hb RX q=>k7 b o hb (XF b o hb RX q))⟩))
theorem tZ{e it l:Addr}{i:Nat}{items:Array Value}{SJ:Value}{Q:Option Value->Shared->Prop}(hh:A.handled=none)(he:IsEnum s.heap e it i SJ)(QE:s.heap.IsTupleIter it l i)(ht:s.heap.IsTuple l items)(hx:items[i]?=none)
  (hQ:∀ h',Heap.ExtBut it s.heap h'->Q none {s with heap:=h'}):wpAny MP A (pyNext (.ref e)) Q E s:=by
 have hT:s.TypeIs (.ref e) "enumerate":=⟨_,he,rfl⟩;unfold pyNext;refine Kx (Nt (Mn (name:=Yc "__next__") hT Oq (LQ Oq hT F.entry_enumerate_next ?_ (F.args_enumerate_next_1 _))));show wpAny _ _ (field (.ref e) 2>>=_) _ _ _;refine Kx (Mf he rfl (x:= .ref it) rfl ?_);refine Kx (uS hh QE ht hx fun h' x k ⟨o,ho,hc⟩=>?_);exact Kx (ND (T:="StopIteration") (b:=true) ⟨o,ho,hc⟩ isSubtype_stop (KC (hQ _ k)))
theorem rQ{l:Addr}{items:Array Value}{n:Nat}{Q:X6}(hl:s.heap.get? l=some {cls:= .type "tuple",dict:=none,data:= .seq items n,slots:=#[]})
  (h:∀ h',IsEnum h' (s.heap.objs.size+1) s.heap.objs.size 0 .none->h'.IsTupleIter s.heap.objs.size l 0->(∀ b o,s.heap.get? b=some o->h'.get? b=some o)->Q (.ref (s.heap.objs.size+1)) {s with heap:=h'}):
  wpAny MP A (call (.type "enumerate") [.ref l]) Q E s:=by
 refine callType_new F.called_enumerate (by decide) (F.typeCall_enumerate_1 _) (F.newCall_enumerate_1 _) (fun obj=>F.args_object_init_2 obj _) F.entry_enumerate_new (qq l items n) ⟨hl,?_⟩;have hz:(s.heap.push {cls:= .type "tuple_iterator",data:= .fields #[.ref l, .int 0 0]}).objs.size=s.heap.objs.size+1:=LZ ..;show _/\_;refine aa hz ?_;have he:IsEnum ((s.heap.push {cls:= .type "tuple_iterator",data:= .fields #[.ref l, .int 0 0]}).push {cls:= .type "enumerate",data:= .fields #[.none, .bool false, .ref s.heap.objs.size,rawInt 0, .none, .none]}) (s.heap.objs.size+1) s.heap.objs.size 0 .none:=by
  have:=La (s.heap.push {cls:= .type "tuple_iterator",data:= .fields #[.ref l, .int 0 0]}) (o:={cls:= .type "enumerate",data:= .fields #[.none, .bool false, .ref s.heap.objs.size,rawInt 0, .none, .none]}) rfl;rw[hz] at this;exact this
 exact⟨⟨_,he,rfl⟩,h _ he ⟨_,KL _ (La _ rfl),rfl,rfl⟩ fun b o x=>KL _ (KL _ x)⟩
def zF(h₀:Heap)(L':Addr)(I:Addr)(oI:Obj)(J:X5->X4->Prop)(os:OsState)(G:Array GenState->Drawn->Prop)(Q:Flow->Shared->Prop)(f:Flow)(s':Shared):Prop:=
 match f with
 | .next| .cont=>iy (fun m' PX=>Fr h₀ L' s'.heap m') (fun _ PX=>News h₀ L' s'.heap ((I,oI)::PX)) (fun m' PX=>J m' PX) (fun _ _=>G s'.gens s'.drawn) (fun _ _=>s'.os=os)
 | .brk=>Q .next s'
 | .ret v=>Q (.ret v) s'
inductive i0(A:Around)(h₀:Heap)(env:Env)(PM:X7)(body orelse:Yb)(Q:Flow->Shared->Prop)(E:X6)(it:Value)(PZ:Shared):Prop
 |mk (G:Array GenState->Drawn->Prop) (I:Addr) (fp:List Addr) (n:Nat) (P:Nat->Value->Prop) (St:Nat->Heap->Prop) (src:Addr->Obj) (J:Nat->X5->X4->Prop) (m:X5) (news:X4) (oI:Obj):it=.ref I->Walks PR w A I fp [I] n P St->St 0 PZ.heap->env.locals≠I->h₀.get? I=none->Fr h₀ env.locals PZ.heap m->News h₀ env.locals PZ.heap ((I,oI)::news)->G PZ.gens PZ.drawn->J 0 m news->(∀ j m news,J j m news->(∀ p∈news,p.1≠I)/\∀ b∈fp,b≠I->(b,src b)∈news∨h₀.get? b=some (src b))->(∀ i h,St i h->∃ o,h.get? I=some o)->(∀ i (s':Shared) v (Q':Unit->Shared->Prop),St i s'.heap->Q' () s'->wpAny MP A (letOwnedTupleGo PM (.ref I) v) Q' E s')->(∀ i v SH Rc (oI:Obj) h g d tk,i<n->P i v->J i SH Rc->G g d->Fr h₀ env.locals h SH->News h₀ env.locals h ((I,oI)::Rc)->
   wpAny MP A (assign PM env v) (fun _ TD=>wpAny MP A (execs body env) (zF h₀ env.locals I oI (J (i+1)) PZ.os G Q) E TD) E ⟨h,g,d,tk,PZ.os⟩)->(∀ h g d tk SH Rc,J n SH Rc->G g d->Fr h₀ env.locals h SH->News h₀ env.locals h Rc->wpAny MP A (execs orelse env) Q E ⟨h,g,d,tk,PZ.os⟩)->i0 A h₀ env PM body orelse Q E it PZ
theorem zv(_F:Fr h₀ env.locals s.heap X1)
  (h:wpAny MP A (eval iter env) (fun xv PZ=>wpAny MP A (pyIter xv) (fun it QS=>i0 A h₀ env PM body orelse Q E it QS) E PZ) E s)
  (hs:∀ x,foldedSetIterable iter env x=pure x:=by intro _;rfl) (hE:PassesOwn MP A env E:=by passes_own):
  wpAny MP A (exec (.For PM iter body orelse pos) env) Q E s:=by
 refine wpAny_For (K7 h (fun xv PZ h₁=>K7 h₁ (fun it QS R8=>?_) fun _ _ e=>e) fun _ _ e=>e) hs;obtain⟨G,I,fp,n,P,St,src,J,m,news,oI,rfl,W,hst,hLI,hI0,F,N,QC,Td,RD,hex,hgo,step,last⟩:=R8;refine codeAny_forLoop_any (I:=fun k s=>lZ (fun j m news oI=>j<=n) (fun j _ _ _=>k=n-j) (fun j _ _ _=>St j s.heap) (fun _ m _ _=>Fr h₀ env.locals s.heap m) (fun _ _ news oI=>News h₀ env.locals s.heap ((I,oI)::news)) (fun _ _ _ _=>G s.gens s.drawn) (fun j m news _=>J j m news) (fun _ _ _ _=>s.os=QS.os)) (fun k s hI=>?_) n ⟨0,m,news,oI,K0 _,s0,hst,F,N,QC,Td,rfl⟩;obtain⟨j,m,news,oI,hj,rfl,hst,F,N,QC,hJ,Rt⟩:=hI;have Ss:∀ h',(∀ b o,b∉[I]->s.heap.get? b=some o->h'.get? b=some o)->Fr h₀ env.locals h' m:=fun h' hk=>
  ⟨F.ns.at' fun o e=>hk _ o (by simpa using hLI) e,fun b o e=>hk b o (by simp;rintro rfl;rw[hI0] at e;cases e) (F.keep b o e),F.above⟩
 have Su:∀ h',(∀ b o,b∉[I]->s.heap.get? b=some o->h'.get? b=some o)->News h₀ env.locals h' news:=fun h' hk p hp=>
  ⟨hk _ _ (by simpa using(RD j m news hJ).1 p hp) (N p (.tail _ hp)).1,(N p (.tail _ hp)).2⟩
 rcases M3 j n with PU|hge
 ·refine W.item j s _ _ PU hst fun v h' tk hv T0 hk=>?_
  have F':=Ss h' hk;have N':=Su h' hk;obtain⟨o',Rr⟩:=hex _ _ T0;have Vi:News h₀ env.locals h' ((I,o')::news):=fun p hp=>by
   rcases KG.mp hp with rfl|hp
   ·exact⟨Rr,MF hLI,hI0⟩
   ·exact N' p hp
  refine hgo (j+1) ⟨h',s.gens,s.drawn,tk,s.os⟩ v _ T0 ?_|>fun x=>K7 x (fun _ _ y=>y) fun _ _ e=>hE _ _ e;have st:=step j v m news o' h' s.gens s.drawn tk PU hv hJ QC F' Vi;rw[←Rt] at st;refine K7 st (fun _ TD Sc=>K7 Sc (fun f Rg R1=>?_) fun _ _ e=>hE _ _ e) fun _ _ e=>hE _ _ e;have VT:∀ h m news j,J j m news->Fr h₀ env.locals h m->News h₀ env.locals h news->∀ b∈fp,b≠I->h.get? b=some (src b):=fun h m news j hJ F N b hb QH=>by
   rcases(RD j m news hJ).2 b hb QH with q|q
   ·exact(N _ q).1
   ·exact F.keep _ _ q
  have Se:(iy (fun m' PX=>Fr h₀ env.locals Rg.heap m') (fun _ PX=>News h₀ env.locals Rg.heap ((I,o')::PX)) (fun m' PX=>J (j+1) m' PX) (fun _ _=>G Rg.gens Rg.drawn) (fun _ _=>Rg.os=s.os))->
    ∃ k,k<n-j/\lZ (fun j m news oI=>j<=n) (fun j _ _ _=>k=n-j) (fun j _ _ _=>St j Rg.heap) (fun _ m _ _=>Fr h₀ env.locals Rg.heap m) (fun _ _ news oI=>News h₀ env.locals Rg.heap ((I,oI)::news)) (fun _ _ _ _=>G Rg.gens Rg.drawn) (fun j m news _=>J j m news) (fun _ _ _ _=>Rg.os=QS.os):=by
   rintro⟨m',PX,F4,N4,Vl,hb4,ho4⟩;refine⟨n-(j+1),xP PU,j+1,m',PX,o',PU,rfl,W.frame _ h' _ T0 fun b hb o e=>?_,F4,N4,hb4,Vl,ho4.trans Rt⟩
   by_cases QH:b=I
   ·rw[QH,Rr] at e
    exact aa QH (ae (Mq e) ((N4 _ (.head _)).1))
   ·have e1:=VT h' m news j hJ F' N' b hb QH
    rw[e] at e1;cases e1;exact VT _ _ _ _ Vl F4 (fun p hp=>N4 p (.tail _ hp)) b hb QH
  cases f with
  |next=>exact Se R1
  |cont=>exact Se R1
  |brk=>exact R1
  |ret v=>exact R1
 ·have S1:j=n:=aS hj hge
  subst S1;refine W.done s _ _ hst fun h' tk hk=>?_;have l:=last h' s.gens s.drawn tk m news hJ QC (Ss h' hk) (Su h' hk);rw[←Rt] at l;exact K7 l (fun _ _ y=>y) fun _ _ e=>hE _ _ e
theorem vD(F:Fr h₀ L h m)(N:News h₀ L h news)(hs:(l,ol)∈news∨h₀.get? l=some ol):h.get? l=some ol:=hs.elim (fun q=>(N _ q).1) fun q=>F.keep _ _ q
theorem gz(F:Fr h₀ L h m)(hb:h.objs.size<=b):h₀.get? b=none:=by
 cases q:h₀.get? b with
 |none=>rfl
 |some o=>exact absurd (K9 (KO (F.keep _ _ q)) hb) (Nq _)
structure qG where
 a:Nat
 bit:Int
 tb:Nat
 ch:String
 tc:Nat
end
noncomputable def oV:List (Nat×List qG):=[
 (190,[⟨183,40960,558,"l",593⟩,⟨184,49152,560,"s",594⟩,⟨185,32768,554,"-",595⟩,⟨186,24576,552,"b",596⟩,⟨187,16384,548,"d",597⟩,⟨188,8192,550,"c",598⟩,⟨189,4096,556,"p",599⟩]),
 (192,[⟨191,256,575,"r",600⟩]),
 (194,[⟨193,128,577,"w",601⟩]),
 (198,[⟨195,2112,602,"s",603⟩,⟨196,2048,569,"S",604⟩,⟨197,64,579,"x",605⟩]),
 (200,[⟨199,32,581,"r",606⟩]),
 (202,[⟨201,16,583,"w",607⟩]),
 (206,[⟨203,1032,608,"s",609⟩,⟨204,1024,571,"S",610⟩,⟨205,8,585,"x",611⟩]),
 (208,[⟨207,4,587,"r",612⟩]),
 (210,[⟨209,2,589,"w",613⟩]),
 (214,[⟨211,513,614,"t",615⟩,⟨212,512,573,"T",616⟩,⟨213,1,591,"x",617⟩])]
def qG.obj(p:qG):Obj:=bl (.int p.bit p.tb) (.str (Yc p.ch) p.tc) 0
noncomputable def gL (l:List qG):List (Int×String):=l.map fun p=>(p.bit,p.ch)
theorem um(X:(am P).In g):∀ t∈oV,g.get? t.1=some {cls:= .type "tuple",data:= .seq (t.2.map fun p=>Value.ref p.a).toArray 0}/\∀ p∈t.2,g.get? p.a=some p.obj:=
 KS.mpr ⟨⟨X _ _ (by k_is),KS.mpr ⟨X _ _ (by k_is),KS.mpr ⟨X _ _ (by k_is),KS.mpr ⟨X _ _ (by k_is),KS.mpr ⟨X _ _ (by k_is),KS.mpr ⟨X _ _ (by k_is),KS.mpr ⟨X _ _ (by k_is),KS.mpr ⟨X _ _ (by k_is),Ma _⟩⟩⟩⟩⟩⟩⟩⟩,
  KS.mpr ⟨⟨X _ _ (by k_is),KS.mpr ⟨X _ _ (by k_is),Ma _⟩⟩,
  KS.mpr ⟨⟨X _ _ (by k_is),KS.mpr ⟨X _ _ (by k_is),Ma _⟩⟩,
  KS.mpr ⟨⟨X _ _ (by k_is),KS.mpr ⟨X _ _ (by k_is),KS.mpr ⟨X _ _ (by k_is),KS.mpr ⟨X _ _ (by k_is),Ma _⟩⟩⟩⟩,
  KS.mpr ⟨⟨X _ _ (by k_is),KS.mpr ⟨X _ _ (by k_is),Ma _⟩⟩,
  KS.mpr ⟨⟨X _ _ (by k_is),KS.mpr ⟨X _ _ (by k_is),Ma _⟩⟩,
  KS.mpr ⟨⟨X _ _ (by k_is),KS.mpr ⟨X _ _ (by k_is),KS.mpr ⟨X _ _ (by k_is),KS.mpr ⟨X _ _ (by k_is),Ma _⟩⟩⟩⟩,
  KS.mpr ⟨⟨X _ _ (by k_is),KS.mpr ⟨X _ _ (by k_is),Ma _⟩⟩,
  KS.mpr ⟨⟨X _ _ (by k_is),KS.mpr ⟨X _ _ (by k_is),Ma _⟩⟩,
  KS.mpr ⟨⟨X _ _ (by k_is),KS.mpr ⟨X _ _ (by k_is),KS.mpr ⟨X _ _ (by k_is),KS.mpr ⟨X _ _ (by k_is),Ma _⟩⟩⟩⟩,
  Ma _⟩⟩⟩⟩⟩⟩⟩⟩⟩⟩
def bv(o:Obj)(m:X5):Prop:=bV (fun es ep=>o.data=.dict es ep) (fun es _=>StrKeys es) (fun es _=>∀ name,nsFind es name=m name)
theorem bv.ns{o:Obj}{m:X5}(x:bv o m){h:Heap}{a:Addr}(e:h.get? a=some o):h.Ns a m:=let ⟨es,ep,r1,r2,r3⟩:=x;⟨o,es,ep,e,r1,r2,r3⟩
theorem bv.of{h:Heap}{a:Addr}{m:X5}(x:h.Ns a m):aM (fun o=>h.get? a=some o) (fun o=>bv o m):=by obtain⟨o,es,ep,e,r1,r2,r3⟩:=x;exact⟨o,e,es,ep,r1,r2,r3⟩
section
variable{A:Around}{E:X6}{s:Shared}
def dL(P8:List X7)(env:Env):Sem Bool:=forIn P8 true fun c r=>if r=true then do let ok←isTrue c env (eval c env);pure (ForInStep.yield ok) else pure (ForInStep.yield r)
noncomputable def eI (YJ:Pos) (PM:X7) (P8:List X7) (B:Sem Unit) (e:X7) (depth:Nat) (it PS:Value) (env:Env):Sem PySem.Fin:=
 standAt YJ>>=fun _=>pyNext it>>=fun r=>match r with
  |none=>pure (.done .next)
  |some v=>letOwnedTupleGo PM it v>>=fun _=>assign PM env v>>=fun _=>dL P8 env>>=fun ok=>(if ok=true then B>>=fun _=>again (.compLoop e depth it PS env) else again (.compLoop e depth it PS env))
def fG(h₀:Heap)(L I C:Addr)(m:X5)(oI:Obj)(J:X5->X4->Prop)(os:OsState)(G:Array GenState->Drawn->Prop)(s':Shared):Prop:=
 vJ (fun mC oC PX=>bv oC mC) (fun _ _ _=>Fr h₀ L s'.heap m) (fun _ oC PX=>News h₀ L s'.heap ((I,oI)::(C,oC)::PX)) (fun mC _ PX=>J mC PX) (fun _ _ _=>G s'.gens s'.drawn) (fun _ _ _=>s'.os=os)
theorem i7{h₀:Heap}{L I C:Addr}{m mC:X5}{oI oC:Obj}{J:X5->X4->Prop}{os:OsState}{G:Array GenState->Drawn->Prop}{s':Shared}{PX:X4}
  (F:Fr h₀ L s'.heap m) (N:News h₀ L s'.heap ((I,oI)::(C,oC)::PX)) (x:bv oC mC) (j:J mC PX) (g:G s'.gens s'.drawn) (o:s'.os=os):fG h₀ L I C m oI J os G s':=⟨mC,oC,PX,x,F,N,j,g,o⟩
def er(A:Around)(B:Sem Unit)(K:Shared->Prop)(E:X6)(ok:Bool)(s:Shared):Prop:=if ok=true then wpAny MP A B (fun _ s'=>K s') E s else K s
theorem kD{B:Sem Unit}{K:Shared->Prop}(h:wpAny MP A B (fun _ s'=>K s') E s):er A B K E true s:=by unfold er;refine aa (KW rfl) ?_;exact h
theorem rU{B:Sem Unit}{K:Shared->Prop}(h:K s):er A B K E false s:=by unfold er;refine aa (KM KP) ?_;exact h
theorem tR(h:Q true s):wpAny MP A (dL [] env) Q E s:=KC h
theorem zP(h:wpAny MP A (isTrue c env (eval c env)) Q E s):wpAny MP A (dL [c] env) Q E s:=wpAny_tests_one h
theorem ye{e PM:X7}{P8:List X7}{B:Sem Unit}{depth:Nat}{PS:Value}{Yj:Env}{YJ:Pos}{I C L:Addr}{h₀:Heap}{fp:List Addr}{n:Nat}{P:Nat->Value->Prop}{St:Nat->Heap->Prop}
  {m mC:X5} {news:X4} {oI oC:Obj} {R:Result->Shared->Prop}
  (Uu:∀ it,compTurn e depth it PS Yj=eI YJ PM P8 B e depth it PS Yj) (hq:(Code.compLoop e depth (.ref I) PS Yj).quiet=true)
  (TX:MP.den (.compLoop e depth (.ref I) PS Yj)=(compTurn e depth (.ref I) PS Yj).onRaise (fun x=>do noteFrame x Yj;theTreesLotGoes x))
  (VL:A.under (.compLoop e depth (.ref I) PS Yj)=A)
  (W:Walks PR w A I fp [I] n P St) (src:Addr->Obj) (J:Nat->X5->X4->Prop) (G:Array GenState->Drawn->Prop)
  (hst:St 0 s.heap) (hLI:L≠I) (hI0:h₀.get? I=none) (SV:C≠I) (x0:bv oC mC) (F:Fr h₀ L s.heap m) (N:News h₀ L s.heap ((I,oI)::(C,oC)::news)) (QC:G s.gens s.drawn) (Td:J 0 mC news)
  (RD:∀ j mC news,J j mC news->(∀ p∈news,p.1≠I)/\∀ b∈fp,b≠I->(b,src b)∈news∨h₀.get? b=some (src b))
  (hex:∀ i h,St i h->∃ o,h.get? I=some o)
  (hgo:∀ i (s':Shared) v (Q':Unit->Shared->Prop) E',St i s'.heap->Q' () s'->wpAny MP A (letOwnedTupleGo PM (.ref I) v) Q' E' s')
  (step:∀ i v mC oC Rc (oI:Obj) h g d tk,i<n->P i v->bv oC mC->J i mC Rc->G g d->Fr h₀ L h m->News h₀ L h ((I,oI)::(C,oC)::Rc)->
   wpAny MP A (assign PM Yj v) (fun _ TD=>wpAny MP A (dL P8 Yj) (er A B (fG h₀ L I C m oI (J (i+1)) s.os G) (notedBy MP A Yj fun e s'=>R (.error e) s'))
    (notedBy MP A Yj fun e s'=>R (.error e) s') TD) (notedBy MP A Yj fun e s'=>R (.error e) s') ⟨h,g,d,tk,s.os⟩)
  (last:∀ h g d tk mC oC Rc,bv oC mC->J n mC Rc->G g d->Fr h₀ L h m->News h₀ L h ((C,oC)::Rc)->R (.ok .next) ⟨h,g,d,tk,s.os⟩):
  codeAny MP A (.compLoop e depth (.ref I) PS Yj) R s:=by
 refine codeAny_loop hq (I:=fun k s'=>vP (fun j mC oC news oI=>j<=n) (fun j _ _ _ _=>k=n-j) (fun j _ _ _ _=>St j s'.heap) (fun _ mC oC _ _=>bv oC mC) (fun _ _ _ _ _=>Fr h₀ L s'.heap m) (fun _ _ oC news oI=>News h₀ L s'.heap ((I,oI)::(C,oC)::news)) (fun _ _ _ _ _=>G s'.gens s'.drawn) (fun j mC _ news _=>J j mC news) (fun _ _ _ _ _=>s'.os=s.os)) (fun k s' hI=>?_) n ⟨0,mC,oC,news,oI,K0 _,s0,hst,x0,F,N,QC,Td,rfl⟩;obtain⟨j,mC,oC,news,oI,hj,rfl,hst,x,F,N,QC,hJ,Rt⟩:=hI;refine aa TX (aa VL ?_);refine wpAny_noted ?_;refine aa (Uu _) ?_;unfold eI;refine Kx (LF (Kx ?_));have Ss:∀ h',(∀ b o,b∉[I]->s'.heap.get? b=some o->h'.get? b=some o)->Fr h₀ L h' m:=fun h' hk=>
  ⟨F.ns.at' fun o e=>hk _ o (by simpa using hLI) e,fun b o e=>hk b o (by simp;rintro rfl;rw[hI0] at e;cases e) (F.keep b o e),F.above⟩
 have Su:∀ h',(∀ b o,b∉[I]->s'.heap.get? b=some o->h'.get? b=some o)->News h₀ L h' ((C,oC)::news):=fun h' hk p hp=>by
  refine⟨hk _ _ ?_ (N p (.tail _ hp)).1,(N p (.tail _ hp)).2⟩;rcases KG.mp hp with rfl|hp
  ·simpa using SV
  ·simpa using(RD j mC news hJ).1 p hp
 rcases M3 j n with PU|hge
 ·refine W.item j s' _ _ PU hst fun v h' tk hv T0 hk=>?_
  have F':=Ss h' hk;have N':=Su h' hk;obtain⟨o',Rr⟩:=hex _ _ T0;have Vi:News h₀ L h' ((I,o')::(C,oC)::news):=fun p hp=>by
   rcases KG.mp hp with rfl|hp
   ·exact⟨Rr,MF hLI,hI0⟩
   ·exact N' p hp
  dsimp only;refine Kx (hgo (j+1) ⟨h',s'.gens,s'.drawn,tk,s'.os⟩ v _ _ T0 ?_);have st:=step j v mC oC news o' h' s'.gens s'.drawn tk PU hv x hJ QC F' Vi;rw[←Rt] at st;have Se:∀ Rg:Shared,fG h₀ L I C m o' (J (j+1)) s'.os G Rg->
    ∃ k,k<n-j/\vP (fun j mC oC news oI=>j<=n) (fun j _ _ _ _=>k=n-j) (fun j _ _ _ _=>St j Rg.heap) (fun _ mC oC _ _=>bv oC mC) (fun _ _ _ _ _=>Fr h₀ L Rg.heap m) (fun _ _ oC news oI=>News h₀ L Rg.heap ((I,oI)::(C,oC)::news)) (fun _ _ _ _ _=>G Rg.gens Rg.drawn) (fun j mC _ news _=>J j mC news) (fun _ _ _ _ _=>Rg.os=s.os):=by
   rintro Rg ⟨RJ,Qo,PX,x4,F4,N4,Vl,hb4,ho4⟩;refine⟨n-(j+1),xP PU,j+1,RJ,Qo,PX,o',PU,rfl,W.frame _ h' _ T0 fun b hb o e=>?_,x4,F4,N4,hb4,Vl,ho4.trans Rt⟩
   by_cases QH:b=I
   ·rw[QH,Rr] at e
    exact aa QH (ae (Mq e) ((N4 _ (.head _)).1))
   ·have VT:∀ h mC oC news j,J j mC news->Fr h₀ L h m->News h₀ L h ((C,oC)::news)->h.get? b=some (src b):=fun h mC oC news j hJ F N=>by
     rcases(RD j mC news hJ).2 b hb QH with q|q
     ·exact(N _ (.tail _ q)).1
     ·exact F.keep _ _ q
    have e1:=VT h' mC oC news j hJ F' N';rw[e] at e1;cases e1;exact VT _ _ _ _ _ Vl F4 (fun p hp=>N4 p (.tail _ hp))
  refine Kx (K7 st (fun _ TD Sc=>Kx (K7 Sc (fun ok Rg R1=>?_) fun _ _ e=>e)) fun _ _ e=>e)
  cases ok with
  |false=>
   unfold er at R1;rw[KM KP] at R1⊢;exact KC ⟨rfl,Se _ R1⟩
  |true=>
   unfold er at R1;rw[KW rfl] at R1⊢;exact Kx (K7 R1 (fun _ s₅ Xi=>KC ⟨rfl,Se _ Xi⟩) fun _ _ e=>e)
 ·have S1:j=n:=aS hj hge
  subst S1;refine W.done s' _ _ hst fun h' tk hk=>?_;dsimp only;have l:=last h' s'.gens s'.drawn tk mC oC news x hJ QC (Ss h' hk) (Su h' hk);rw[←Rt] at l;exact KC l
noncomputable def dK (P0:X7) (PS:Value) (env:Env):Sem Unit:=eval P0 env>>=fun x=>call (.builtin "list.append") [PS,x]>>=fun _=>pure ()
noncomputable def dq (e:X7) (iter:X7) (PS:Value) (env:Env):Sem Unit:=
 eval iter env>>=fun x=>standAt iter.pos>>=fun _=>foldedSetIterable iter env x>>=fun x=>holding [x] (pyIter x)>>=fun it=>runOwn (.compStart e 1 it PS env) env>>=fun _=>pure ()
noncomputable def gI (k v:X7) (d:Addr) (env:Env):Sem Unit:=
 eval k env>>=fun kv=>holding [kv] (eval v env)>>=fun vv=>standAt {k.pos with endLine:=v.pos.endLine,endCol:=v.pos.endCol}>>=fun _=>holding [kv,vv] (dictSet d kv vv)
theorem rp(P0 PM iter:X7)(P8:List X7)(scope:Scope)(pos:Pos)(PS:Value)(env:Env)(it:Value):
  compTurn (.ListComp P0 [⟨PM,iter,P8,0⟩] scope pos) 0 it PS env=eI iter.pos PM P8 (dK P0 PS env) (.ListComp P0 [⟨PM,iter,P8,0⟩] scope pos) 0 it PS env:=by rfl
theorem jX(P0 t1 i1 t2 i2:X7)(f1 f2:List X7)(scope:Scope)(pos:Pos)(PS:Value)(env:Env)(it:Value):
  compTurn (.ListComp P0 [⟨t1,i1,f1,0⟩,⟨t2,i2,f2,0⟩] scope pos) 0 it PS env=eI i1.pos t1 f1 (dq (.ListComp P0 [⟨t1,i1,f1,0⟩,⟨t2,i2,f2,0⟩] scope pos) i2 PS env) (.ListComp P0 [⟨t1,i1,f1,0⟩,⟨t2,i2,f2,0⟩] scope pos) 0 it PS env:=by
 unfold eI dq;simp only[bind_assoc,pure_bind]
 rfl
theorem xh(P0 t1 i1 t2 i2:X7)(f1 f2:List X7)(scope:Scope)(pos:Pos)(PS:Value)(env:Env)(it:Value):
  compTurn (.ListComp P0 [⟨t1,i1,f1,0⟩,⟨t2,i2,f2,0⟩] scope pos) 1 it PS env=eI i2.pos t2 f2 (dK P0 PS env) (.ListComp P0 [⟨t1,i1,f1,0⟩,⟨t2,i2,f2,0⟩] scope pos) 1 it PS env:=by rfl
theorem yP(k v PM iter:X7)(P8:List X7)(scope:Scope)(pos:Pos)(d:Addr)(env:Env)(it:Value):
  compTurn (.DictComp k v [⟨PM,iter,P8,0⟩] scope pos) 0 it (.ref d) env=eI iter.pos PM P8 (gI k v d env) (.DictComp k v [⟨PM,iter,P8,0⟩] scope pos) 0 it (.ref d) env:=by rfl
structure fc(A:Around)(I:Addr)(n:Nat)(P:Nat->Value->Prop)(fp:List Addr)(St:Nat->Heap->Prop):Prop where
 W:Walks PR w A I fp [I] n P St
 hex:∀ i h,St i h->∃ o,h.get? I=some o
 hgo:∀ i PM (s':Shared) v (Q':Unit->Shared->Prop) E',St i s'.heap->Q' () s'->wpAny MP A (letOwnedTupleGo PM (.ref I) v) Q' E' s'
theorem kY{PM:X7}{I:Addr}{x left c:Int}{v:Value}{Q':Unit->Shared->Prop}{s':Shared}(QE:IsRangeIter s'.heap I x left c)(h:Q' () s'):wpAny MP A (letOwnedTupleGo PM (.ref I) v) Q' E s':=by
 have ho:s'.heap.get? I=some {cls:= .type "range_iterator",data:= .fields #[rawInt x,rawInt left,rawInt c]}:=QE;unfold letOwnedTupleGo
 cases PM<;>first
  |exact KC h
  |(cases v<;>first
    |exact KC h
    |(refine Kx (wpAny_load ho ?_);exact KC h))
theorem pO(hh:A.handled=none)(I l:Addr)(P2:l≠I)(items:Array Value):fc A I items.size (fun i v=>items[i]?=some v) [I,l] (fun i h=>h.IsListIter I l i/\h.IsList l items):=
 ⟨Walks.list hh I l P2 items,fun _ _ st=>let ⟨o,ho,_⟩:=st.1;⟨o,ho⟩,fun _ _ _ _ _ _ st q=>letGo_listiter st.1 q⟩
theorem vp(hh:A.handled=none)(I l:Addr)(P2:l≠I)(items:Array Value):fc A I items.size (fun i v=>items[i]?=some v) [I,l] (fun i h=>h.IsTupleIter I l i/\h.IsTuple l items):=
 ⟨Walks.tuple hh I l P2 items,fun _ _ st=>let ⟨o,ho,_⟩:=st.1;⟨o,ho⟩,fun _ _ _ _ _ _ st q=>letGo_tupleiter st.1 q⟩
theorem nE(hh:A.handled=none)(I:Addr)(a c:Int)(n:Nat):fc A I n (fun i v=>∃ t,v=.int (a+i*c) t) [I] (fun i h=>IsRangeIter h I (a+(i:Nat)*c) ((n:Int)-(i:Nat)) c):=
 ⟨Walks.range hh I a c n,fun _ _ st=>⟨_,st⟩,fun _ _ _ _ _ _ st q=>kY st q⟩
variable{h₀:Heap}{L:Addr}{m:X5}{news:X4}
theorem nc(F:Fr h₀ L s.heap m)(N:News h₀ L s.heap news)(hc:ol.cls=.type "list")(hd:ol.data=.seq items c)(hs:(l,ol)∈news∨h₀.get? l=some ol)
  (k:∀ (I:Nat) oI h',I=s.heap.objs.size->l<I->Fr h₀ L h' m->News h₀ L h' ((I,oI)::news)->(∀ p∈news,p.1<I)->(h'.IsListIter I l 0/\h'.IsList l items)->h'.objs.size=I+1->Q (.ref I) {s with heap:=h'}):wpAny MP A (pyIter (.ref l)) Q E s:=by
 have hg:=vD F N hs;have hl:s.heap.IsList l items:=⟨ol,hg,hc,c,hd⟩;exact wpAny_pyIter_list hl (k _ _ _ rfl (KO hg) (F.push _) (NU F N _) (fun p hp=>KO (N p hp).1) ⟨⟨_,La _ rfl,rfl,rfl⟩,hl.at fun o e=>KL _ e⟩ (LZ _ _))
theorem r0(F:Fr h₀ L s.heap m)(N:News h₀ L s.heap news)(hc:ol.cls=.type "tuple")(hd:ol.data=.seq items c)(hs:(l,ol)∈news∨h₀.get? l=some ol)
  (k:∀ (I:Nat) oI h',I=s.heap.objs.size->l<I->Fr h₀ L h' m->News h₀ L h' ((I,oI)::news)->(∀ p∈news,p.1<I)->(h'.IsTupleIter I l 0/\h'.IsTuple l items)->h'.objs.size=I+1->Q (.ref I) {s with heap:=h'}):wpAny MP A (pyIter (.ref l)) Q E s:=by
 have hg:=vD F N hs;have hl:s.heap.IsTuple l items:=⟨ol,hg,hc,c,hd⟩;exact wpAny_pyIter_tuple hl (k _ _ _ rfl (KO hg) (F.push _) (NU F N _) (fun p hp=>KO (N p hp).1) ⟨⟨_,La _ rfl,rfl,rfl⟩,hl.at fun o e=>KL _ e⟩ (LZ _ _))
theorem kQ(F:Fr h₀ L s.heap m)(N:News h₀ L s.heap news)(hr:IsRange s.heap r a b c t u v)(Rl:Builtin.Range.small a b c=true)(hn:Builtin.Range.rangeSize a b c=(n:Int))
  (k:∀ (I:Nat) oI h',I=s.heap.objs.size->Fr h₀ L h' m->News h₀ L h' ((I,oI)::news)->(∀ p∈news,p.1<I)->IsRangeIter h' I (a+(0:Nat)*c) ((n:Int)-(0:Nat)) c->h'.objs.size=I+1->Q (.ref I) {s with heap:=h'}):wpAny MP A (pyIter (.ref r)) Q E s:=by
 refine wpAny_pyIter_range hr Rl (k _ _ _ rfl (F.push _) (NU F N _) (fun p hp=>KO (N p hp).1) ?_ (LZ _ _));refine aa hn ?_;have e1:a+((0:Nat):Int)*c=a:=by simp
 have e2:(n:Int)-((0:Nat):Int)=n:=by simp
 refine aa e1 (aa e2 ?_);exact La _ rfl
def nX(A:Around)(h₀:Heap)(L C:Addr)(m:X5)(Yj:Env)(PM:X7)(P8:List X7)(B:Sem Unit)(I:Addr)(oI:Obj)(J:X5->X4->Prop)(os:OsState)(G:Array GenState->Drawn->Prop)(v:Value)(s:Shared):Prop:=
 ∀ E':X6,wpAny MP A (assign PM Yj v) (fun _ TD=>wpAny MP A (dL P8 Yj) (er A B (fG h₀ L I C m oI J os G) E') E' TD) E' s
abbrev rs:=X5->Nat->Nat->X4->Shared->Prop
def ww(h₀:Heap)(L:Addr)(Q:X6):rs:=fun m D _ PW s=>∀ h',Fr h₀ L h' m->News h₀ L h' PW->Q (.ref D) {s with heap:=h'}
def rW(h₀:Heap)(L:Addr)(y:Str)(Q:Flow->Shared->Prop):rs:=fun m D _ PW s=>∀ h' tk,Fr h₀ L h' (fun z=>if z=y then some (.ref D) else m z)->News h₀ L h' PW->Q .next {s with heap:=h',toks:=tk}
inductive ix(A:Around)(h₀:Heap)(L:Addr)(env:Env)(scope:Scope)(cl:List (Str×Addr))(PM:X7)(P8:List X7)(B:Addr->Env->Sem Unit)(Tb:Obj)(Fi:rs)(it:Value)(QS:Shared):Prop
 |mk (I n:Nat) (P:Nat->Value->Prop) (fp:List Addr) (St:Nat->Heap->Prop) (src:Addr->Obj) (oI:Obj) (m:X5) (news:X4):it=.ref I->fc A I n P fp St->St 0 QS.heap->Fr h₀ L QS.heap m->News h₀ L QS.heap ((I,oI)::news)->(∀ D C:Nat,D=QS.heap.objs.size->C=D+1->I<D->L<D->h₀.objs.size<=D->(∀ p∈news,p.1<D)->
   iy (fun(G:Array GenState->Drawn->Prop) (J:Nat->X5->X4->Prop)=>J 0 (fun _=>none) ((D,Tb)::news)) (fun G _=>G QS.gens QS.drawn) (fun _ J=>(∀ j mC n',J j mC n'->(∀ p∈n',p.1≠I/\p.1≠C)/\∀ b∈fp,b≠I->(b,src b)∈n'∨h₀.get? b=some (src b))) (fun G J=>(∀ i v mC oC PW (oI:Obj) h g d tk,i<n->P i v->bv oC mC->J i mC PW->G g d->Fr h₀ L h m->News h₀ L h ((I,oI)::(C,oC)::PW)->nX A h₀ L C m (compEnvC scope cl C env) PM P8 (B D (compEnvC scope cl C env)) I oI (J (i+1)) QS.os G v ⟨h,g,d,tk,QS.os⟩)) (fun G J=>∀ h g d tk mC oC PW,bv oC mC->J n mC PW->G g d->Fr h₀ L h m->News h₀ L h ((C,oC)::PW)->Fi m D C PW ⟨h,g,d,tk,QS.os⟩))->ix A h₀ L env scope cl PM P8 B Tb Fi it QS
theorem oK
  (TX:MP.den (.compStart e depth (.ref I) PS env)=(compStart e depth (.ref I) PS env).onRaise (fun x=>do noteFrame x env;standAt theWindowsPlace)) (VL:A.under (.compStart e depth (.ref I) PS env)=A)
  (hst:compStart e depth (.ref I) PS env=(ask>>=fun x=>if x.params.followText "comprehension-iter-twice"=true then again (.compLoop e depth (.ref I) PS env) else rule "comprehension.iter-twice">>=fun _=>standAt YJ>>=fun _=>pyIter (.ref I)>>=fun it=>again (.compLoop e depth it PS env)))
  (hq:(Code.compLoop e depth (.ref I) PS env).quiet=true)
  (h:codeAny MP A (.compLoop e depth (.ref I) PS env) R s) (RH:∀ (Q:X6) E',Q (.ref I) s->wpAny MP A (pyIter (.ref I)) Q E' s):
  codeAny MP A (.compStart e depth (.ref I) PS env) R s:=by
 refine NN ?_;refine aa TX (aa VL ?_);refine wpAny_notedAt ?_;refine aa hst ?_;refine Kx (MT (wpAny_ite ?_))
 split
 ·exact KC ⟨hq,h⟩
 ·exact Kx (My (Kx (LF (Kx (RH _ _ (KC ⟨hq,h⟩))))))
theorem gV{e PM:X7}{P8:List X7}{B:Sem Unit}{depth:Nat}{PS:Value}{Yj:Env}{YJ:Pos}{I C:Addr}{n:Nat}{P:Nat->Value->Prop}{fp:List Addr}{St:Nat->Heap->Prop}{src:Addr->Obj}
  {mC:X5} {news:X4} {oI oC:Obj} {R:Result->Shared->Prop}
  (TX:MP.den (.compStart e depth (.ref I) PS Yj)=(compStart e depth (.ref I) PS Yj).onRaise (fun x=>do noteFrame x Yj;standAt theWindowsPlace)) (VL:A.under (.compStart e depth (.ref I) PS Yj)=A)
  (hst:compStart e depth (.ref I) PS Yj=(ask>>=fun x=>if x.params.followText "comprehension-iter-twice"=true then again (.compLoop e depth (.ref I) PS Yj) else rule "comprehension.iter-twice">>=fun _=>standAt YJ>>=fun _=>pyIter (.ref I)>>=fun it=>again (.compLoop e depth it PS Yj)))
  (Uu:∀ it,compTurn e depth it PS Yj=eI YJ PM P8 B e depth it PS Yj) (hq:(Code.compLoop e depth (.ref I) PS Yj).quiet=true)
  (Wf:MP.den (.compLoop e depth (.ref I) PS Yj)=(compTurn e depth (.ref I) PS Yj).onRaise (fun x=>do noteFrame x Yj;theTreesLotGoes x)) (WR:A.under (.compLoop e depth (.ref I) PS Yj)=A)
  (S:fc A I n P fp St) (J:Nat->X5->X4->Prop) (G:Array GenState->Drawn->Prop)
  (h0:St 0 s.heap) (SV:C≠I) (x0:bv oC mC) (F:Fr h₀ L s.heap m) (N:News h₀ L s.heap ((I,oI)::(C,oC)::news)) (QC:G s.gens s.drawn) (Td:J 0 mC news)
  (RD:∀ j mC n',J j mC n'->(∀ p∈n',p.1≠I)/\∀ b∈fp,b≠I->(b,src b)∈n'∨h₀.get? b=some (src b))
  (step:∀ i v mC oC PW (oI:Obj) h g d tk,i<n->P i v->bv oC mC->J i mC PW->G g d->Fr h₀ L h m->News h₀ L h ((I,oI)::(C,oC)::PW)->nX A h₀ L C m Yj PM P8 B I oI (J (i+1)) s.os G v ⟨h,g,d,tk,s.os⟩)
  (last:∀ h g d tk mC oC PW,bv oC mC->J n mC PW->G g d->Fr h₀ L h m->News h₀ L h ((C,oC)::PW)->R (.ok .next) ⟨h,g,d,tk,s.os⟩):
  codeAny MP A (.compStart e depth (.ref I) PS Yj) R s:=by
 have hI:=N _ (.head _);refine oK TX VL hst hq (ye Uu hq Wf WR S.W src J G h0 (MF hI.2.1) hI.2.2 SV x0 F N QC Td RD S.hex (fun i s' v Q' E'=>S.hgo i PM s' v Q' E') (fun i v mC oC PW oI h g d tk a1 a2 a3 a4 a5 a6 a7=>step i v mC oC PW oI h g d tk a1 a2 a3 a4 a5 a6 a7 _) last) fun Q E' q=>S.W.self 0 _ _ _ h0 q
theorem fO
  (hFi:∀ m D C oC mC PW (s':Shared),bv oC mC->Fr h₀ L s'.heap m->News h₀ L s'.heap ((C,oC)::PW)->(∀ p∈PW,p.1≠C)->Fi m D C PW s'->compPost MP A E use Q (.ref D) C (.ok .next) s')
  (QU:clausesOf e=g::gs) (hs:∀ x,foldedSetIterable g.iter env x=pure x) (Qj:closureFor scope env=pure cl) (P4:scope.kind=.function) (P7:∀ x∈scope.names,x.2=.local->scope.names.lookup x.1=some .local) (P6:∀ y∈scope.names,y.2≠ .cell)
  (hacc:∀ (s:Shared) (Q:X6),Q (.ref s.heap.objs.size) {s with heap:=s.heap.push Tb}->wpAny MP A Xz Q E s) (Uk:Tb.isFreed=false)
  (TX:∀ I PS Yj,MP.den (.compStart e 0 (.ref I) PS Yj)=(compStart e 0 (.ref I) PS Yj).onRaise (fun x=>do noteFrame x Yj;standAt theWindowsPlace)) (VL:∀ I PS Yj,A.under (.compStart e 0 (.ref I) PS Yj)=A)
  (hst:∀ I PS Yj,compStart e 0 (.ref I) PS Yj=(ask>>=fun x=>if x.params.followText "comprehension-iter-twice"=true then again (.compLoop e 0 (.ref I) PS Yj) else rule "comprehension.iter-twice">>=fun _=>standAt YJ>>=fun _=>pyIter (.ref I)>>=fun it=>again (.compLoop e 0 it PS Yj)))
  (Uu:∀ it D Yj,compTurn e 0 it (.ref D) Yj=eI YJ PM P8 (B D Yj) e 0 it (.ref D) Yj) (hq:∀ I PS Yj,(Code.compLoop e 0 (.ref I) PS Yj).quiet=true)
  (Wf:∀ I PS Yj,MP.den (.compLoop e 0 (.ref I) PS Yj)=(compTurn e 0 (.ref I) PS Yj).onRaise (fun x=>do noteFrame x Yj;theTreesLotGoes x)) (WR:∀ I PS Yj,A.under (.compLoop e 0 (.ref I) PS Yj)=A)
  (h:wpAny MP A first (fun xv PZ=>wpAny MP A (pyIter xv) (ix A h₀ L env scope cl PM P8 B Tb Fi) E PZ) E s):
  wpAny MP A (comprehension e scope env pos Xz false first use) Q E s:=by
 refine wpAny_comprehension_free (use:=use) QU hs Qj P4 P7 (K7 h (fun xv PZ h₁=>K7 h₁ (fun it QS R8=>?_) fun _ _ e=>e) fun _ _ e=>e);obtain⟨I,n,P,fp,St,src,oI,m,news,rfl,S,h0,F,N,k⟩:=R8;refine hacc _ _ ?_;refine wpAny_newFunctionEnv P6 (by intro y hy;simp at hy) (fun h₁ WI WO=>?_) P4;dsimp only at WI WO⊢;have hI:=N _ (.head _);obtain⟨G,J,Td,QC,RD,step,last⟩:=k QS.heap.objs.size (QS.heap.objs.size+1) rfl rfl (KO hI.1) F.ns.lt (KF F.above (LD F.ns.lt)) fun p hp=>KO (N p (.tail _ hp)).1;have hC:(QS.heap.push Tb).objs.size=QS.heap.objs.size+1:=LZ _ _;rw[hC] at WI WO⊢;have SJ:∀ b o,(QS.heap.push Tb).get? b=some o->b≠QS.heap.objs.size+1->h₁.get? b=some o:=fun b o e hb=>WO.extBut b o hb (KL _ e);have VP:∀ b o,QS.heap.get? b=some o->h₁.get? b=some o:=fun b o e=>SJ b o (KL _ e) (K6 (LG (KO e)));have F':Fr h₀ L h₁ m:=⟨F.ns.at' fun o e=>VP _ o e,fun b o e=>VP b o (F.keep b o e),F.above⟩;have fresh:∀ b,QS.heap.objs.size<=b->h₀.get? b=none:=fun b hb=>by
  cases q:h₀.get? b with
  |none=>rfl
  |some o=>exact absurd (K9 (KO (F.keep _ _ q)) hb) (Nq _)
 obtain⟨oC,hoC,xC⟩:=bv.of WI;have hLD:∀ b,QS.heap.objs.size<=b->b≠L:=fun b hb=>MF (K6 (K9 F.ns.lt hb));have N':News h₀ L h₁ ((I,oI)::(QS.heap.objs.size+1,oC)::(QS.heap.objs.size,Tb)::news):=fun p hp=>by
  rcases KG.mp hp with rfl|hp
  ·exact⟨VP _ _ hI.1,hI.2⟩
  ·rcases KG.mp hp with rfl|hp
   ·exact⟨hoC,hLD _ (MD _),fresh _ (MD _)⟩
   ·rcases KG.mp hp with rfl|hp
    ·exact⟨SJ _ _ (La _ Uk) (K6 (LP _)),hLD _ (KZ _),fresh _ (KZ _)⟩
    ·exact⟨VP _ _ (N p (.tail _ hp)).1,(N p (.tail _ hp)).2⟩
 have SV:QS.heap.objs.size+1≠I:=Mh (LG (KO hI.1));refine gV (Yj:=compEnvC scope cl (QS.heap.objs.size+1) env) (src:=src) (TX _ _ _) (VL _ _ _) (hst _ _ _) (fun it=>Uu it _ _) (hq _ _ _) (Wf _ _ _) (WR _ _ _) S J G (S.W.frame _ _ _ h0 fun b _ o e=>VP b o e) SV xC F' N' QC Td
  (fun j mC n' q=>⟨fun p hp=>((RD j mC n' q).1 p hp).1,(RD j mC n' q).2⟩) step ?_
 intro h g d tk mC Qo PW x hJ hg Xg Xh;exact hFi m _ _ Qo mC PW _ x Xg Xh (fun p hp=>((RD _ _ _ hJ).1 p hp).2) (last h g d tk mC Qo PW x hJ hg Xg Xh)
theorem qO(F:Fr h₀ L h m)(N:News h₀ L h ((C,oC)::PW))(hn:∀ p∈PW,p.1≠C)(hs:Heap.SameBut C h h'):Fr h₀ L h' m/\News h₀ L h' PW:=by
 have hC:=N _ (.head _);refine⟨⟨F.ns.sameBut hs hC.2.1.symm,fun b o e=>hs.extBut b o (fun q=>by have e2:=hC.2.2;rw[←(show b=C from q)] at e2;rw[e2] at e;cases e) (F.keep b o e),F.above⟩,fun p hp=>?_⟩;exact⟨hs.extBut _ _ (hn p hp) (N p (.tail _ hp)).1,(N p (.tail _ hp)).2⟩
theorem mV:∀ m D C oC mC PW (s':Shared),bv oC mC->Fr h₀ L s'.heap m->News h₀ L s'.heap ((C,oC)::PW)->(∀ p∈PW,p.1≠C)->ww h₀ L Q m D C PW s'->compPost MP A E none Q (.ref D) C (.ok .next) s':=
 fun m D C oC mC PW s' x F N hn k=>⟨mC,x.ns (N _ (.head _)).1,fun h' hs=>let ⟨a,b⟩:=qO F N hn hs;k h' a b⟩
theorem gi(hy:env.kindOf y=some .local)(hL:env.locals=L)(hp:(env.scope.kind== .class||(env.scope.kind== .module&&env.locals !=env.globals))=false):
  ∀ m D C oC mC PW (s':Shared),bv oC mC->Fr h₀ L s'.heap m->News h₀ L s'.heap ((C,oC)::PW)->(∀ p∈PW,p.1≠C)->rW h₀ L y Q m D C PW s'->compPost MP A E (some (assign (.Name y py) env)) (fun _ s'=>Q .next s') (.ref D) C (.ok .next) s':=
 fun m D C oC mC PW s' x F N hn k=>by
  subst hL;show wpAny _ A (assign (.Name y py) env (.ref D)) _ _ _;refine Op (wpAny_storeName_local hy F.ns (fun R8 V5 S8=>?_) hp);have N2:=N.set S8;refine⟨mC,x.ns (N2 _ (.head _)).1,fun h' hs=>?_⟩;obtain⟨a,b⟩:=qO (F.set V5 S8) N2 hn hs;exact k h' _ a b
theorem nI
  (Qj:closureFor scope env=pure cl) (P4:scope.kind=.function) (P7:∀ x∈scope.names,x.2=.local->scope.names.lookup x.1=some .local) (P6:∀ y∈scope.names,y.2≠ .cell)
  (h:wpAny MP A (eval iter env) (fun xv PZ=>wpAny MP A (pyIter xv) (ix A h₀ L env scope cl PM P8 (fun D Yj=>dK P0 (.ref D) Yj) (listOf #[] 0) (ww h₀ L Q)) E PZ) E s)
  (hs:∀ x,foldedSetIterable iter env x=pure x:=by intro _;rfl):
  wpAny MP A (eval (.ListComp P0 [⟨PM,iter,P8,0⟩] scope pos) env) Q E s:=by
 exact aa (eval_ListComp _ _ _ _) (fO mV (YJ:=iter.pos) (B:=fun D Yj=>dK P0 (.ref D) Yj) rfl hs Qj P4 P7 P6 (fun s Q q=>LW q) rfl (fun _ _ _=>rfl) (fun _ _ _=>rfl) (fun _ _ _=>rfl) (fun it D Yj=>rp ..) (fun _ _ _=>rfl) (fun _ _ _=>rfl) (fun _ _ _=>rfl) h)
theorem nJ
  (Qj:closureFor scope env=pure cl) (P4:scope.kind=.function) (P7:∀ x∈scope.names,x.2=.local->scope.names.lookup x.1=some .local) (P6:∀ y∈scope.names,y.2≠ .cell)
  (h:wpAny MP A (eval i1 env) (fun xv PZ=>wpAny MP A (pyIter xv) (ix A h₀ L env scope cl t1 f1 (fun D Yj=>dq (.ListComp P0 [⟨t1,i1,f1,0⟩,⟨t2,i2,f2,0⟩] scope pos) i2 (.ref D) Yj) (listOf #[] 0) (ww h₀ L Q)) E PZ) E s)
  (hs:∀ x,foldedSetIterable i1 env x=pure x:=by intro _;rfl):
  wpAny MP A (eval (.ListComp P0 [⟨t1,i1,f1,0⟩,⟨t2,i2,f2,0⟩] scope pos) env) Q E s:=by
 exact aa (eval_ListComp _ _ _ _) (fO mV (YJ:=i1.pos) (B:=fun D Yj=>dq (.ListComp P0 [⟨t1,i1,f1,0⟩,⟨t2,i2,f2,0⟩] scope pos) i2 (.ref D) Yj) rfl hs Qj P4 P7 P6 (fun s Q q=>LW q) rfl (fun _ _ _=>rfl) (fun _ _ _=>rfl) (fun _ _ _=>rfl) (fun it D Yj=>jX ..) (fun _ _ _=>rfl) (fun _ _ _=>rfl) (fun _ _ _=>rfl) h)
theorem jZ
  (Rw:swapsWith (.DictComp k v [⟨PM,iter,P8,0⟩] scope pos) (some (.Name y py)) Q9.line env=pure true)
  (Qj:closureFor scope env=pure cl) (P4:scope.kind=.function) (P7:∀ x∈scope.names,x.2=.local->scope.names.lookup x.1=some .local) (P6:∀ y∈scope.names,y.2≠ .cell)
  (hy:env.kindOf y=some .local) (hL:env.locals=L) (hp:(env.scope.kind== .class||(env.scope.kind== .module&&env.locals !=env.globals))=false)
  (h:wpAny MP A (eval iter env) (fun xv PZ=>wpAny MP A (pyIter xv) (ix A h₀ L env scope cl PM P8 (fun D Yj=>gI k v D Yj) {cls:= .type "dict",data:= .dict #[]} (rW h₀ L y Q)) E PZ) E s)
  (hs:∀ x,foldedSetIterable iter env x=pure x:=by intro _;rfl):
  wpAny MP A (exec (.Assign [.Name y py] (.DictComp k v [⟨PM,iter,P8,0⟩] scope pos) Q9) env) Q E s:=by
 refine aa (Oy _ _ _ _ Rw) ?_;refine Kx (LF (Kx ?_));show wpAny _ A (do let _←comprehension (.DictComp k v [⟨PM,iter,P8,0⟩] scope pos) scope env _ newDict false (eval iter env) (some (assign (.Name y py) env))) _ _ s;refine Kx (K7 (fO (Q:=fun _ s'=>Q .next s') (gi hy hL hp) (YJ:=iter.pos) (B:=fun D Yj=>gI k v D Yj) rfl hs Qj P4 P7 P6 (fun s Q q=>LW q) rfl (fun _ _ _=>rfl) (fun _ _ _=>rfl) (fun _ _ _=>rfl) (fun it D Yj=>yP ..) (fun _ _ _=>rfl) (fun _ _ _=>rfl) (fun _ _ _=>rfl) h) (fun _ s' hq=>KC (KC hq)) fun _ _ e=>e)
theorem fF
  (Rw:swapsWith (.ListComp P0 [⟨PM,iter,P8,0⟩] scope pos) (some (.Name y py)) Q9.line env=pure true)
  (Qj:closureFor scope env=pure cl) (P4:scope.kind=.function) (P7:∀ x∈scope.names,x.2=.local->scope.names.lookup x.1=some .local) (P6:∀ y∈scope.names,y.2≠ .cell)
  (hy:env.kindOf y=some .local) (hL:env.locals=L) (hp:(env.scope.kind== .class||(env.scope.kind== .module&&env.locals !=env.globals))=false)
  (h:wpAny MP A (eval iter env) (fun xv PZ=>wpAny MP A (pyIter xv) (ix A h₀ L env scope cl PM P8 (fun D Yj=>dK P0 (.ref D) Yj) (listOf #[] 0) (rW h₀ L y Q)) E PZ) E s)
  (hs:∀ x,foldedSetIterable iter env x=pure x:=by intro _;rfl):
  wpAny MP A (exec (.Assign [.Name y py] (.ListComp P0 [⟨PM,iter,P8,0⟩] scope pos) Q9) env) Q E s:=by
 refine aa (Oy _ _ _ _ Rw) ?_;refine Kx (LF (Kx ?_));show wpAny _ A (do let _←comprehension (.ListComp P0 [⟨PM,iter,P8,0⟩] scope pos) scope env _ (newList []) false (eval iter env) (some (assign (.Name y py) env))) _ _ s;refine Kx (K7 (fO (Q:=fun _ s'=>Q .next s') (gi hy hL hp) (YJ:=iter.pos) (B:=fun D Yj=>dK P0 (.ref D) Yj) rfl hs Qj P4 P7 P6 (fun s Q q=>LW q) rfl (fun _ _ _=>rfl) (fun _ _ _=>rfl) (fun _ _ _=>rfl) (fun it D Yj=>rp ..) (fun _ _ _=>rfl) (fun _ _ _=>rfl) (fun _ _ _=>rfl) h) (fun _ s' hq=>KC (KC hq)) fun _ _ e=>e)
inductive xl(A:Around)(h₀:Heap)(L C:Addr)(m:X5)(Yj:Env)(PM:X7)(P8:List X7)(B:Sem Unit)(K:Shared->Prop)(it:Value)(QS:Shared):Prop
 |mk (I n:Nat) (P:Nat->Value->Prop) (fp:List Addr) (St:Nat->Heap->Prop) (src:Addr->Obj) (oI oC:Obj) (mC:X5) (news:X4):it=.ref I->fc A I n P fp St->St 0 QS.heap->Fr h₀ L QS.heap m->News h₀ L QS.heap ((I,oI)::(C,oC)::news)->bv oC mC->C≠I->iy (fun(G:Array GenState->Drawn->Prop) (J:Nat->X5->X4->Prop)=>J 0 mC news) (fun G _=>G QS.gens QS.drawn) (fun _ J=>(∀ j mC n',J j mC n'->(∀ p∈n',p.1≠I)/\∀ b∈fp,b≠I->(b,src b)∈n'∨h₀.get? b=some (src b))) (fun G J=>(∀ i v mC oC PW (oI:Obj) h g d tk,i<n->P i v->bv oC mC->J i mC PW->G g d->Fr h₀ L h m->News h₀ L h ((I,oI)::(C,oC)::PW)->nX A h₀ L C m Yj PM P8 B I oI (J (i+1)) QS.os G v ⟨h,g,d,tk,QS.os⟩)) (fun G J=>∀ h g d tk mC oC PW,bv oC mC->J n mC PW->G g d->Fr h₀ L h m->News h₀ L h ((C,oC)::PW)->K ⟨h,g,d,tk,QS.os⟩)->xl A h₀ L C m Yj PM P8 B K it QS
theorem we{P0 t1 i1 t2 i2:X7}{f1 f2:List X7}{scope:Scope}{pos:Pos}{Yj:Env}{C D:Addr}{K:Unit->Shared->Prop}
  (h:wpAny MP A (eval i2 Yj) (fun xv PZ=>wpAny MP A (pyIter xv) (xl A h₀ L C m Yj t2 f2 (dK P0 (.ref D) Yj) (K ())) E PZ) E s)
  (hs:∀ x,foldedSetIterable i2 Yj x=pure x:=by intro _;rfl):
  wpAny MP A (dq (.ListComp P0 [⟨t1,i1,f1,0⟩,⟨t2,i2,f2,0⟩] scope pos) i2 (.ref D) Yj) K E s:=by
 unfold dq;refine Kx (K7 h (fun xv PZ h₁=>?_) fun _ _ e=>e);refine Kx (LF ?_);refine aa (hs _) ?_;refine Kx (KC (Kx (Li (K7 h₁ (fun it QS R8=>?_) fun _ _ e=>e))));obtain⟨I,n,P,fp,St,src,oI,oC,mC,news,rfl,S,h0,F,N,x0,SV,G,J,Td,QC,RD,step,last⟩:=R8;refine Kx (wpAny_runOwn ?_);exact aa (Around.mark_none _) (gV (YJ:=i2.pos) (src:=src) rfl rfl rfl (fun it=>xh ..) rfl rfl rfl S J G h0 SV x0 F N QC Td RD step fun h g d tk mC oC PW x hJ hg Xg Xh=>KC (last h g d tk mC oC PW x hJ hg Xg Xh))
variable{C:Addr}{mC:X5}{PX:X4}{Yj:Env}{oC:Obj}
theorem wf(F:Fr h₀ L s.heap m)(N:News h₀ L s.heap news)(U:UpdF C oC news g)(xC:bv oC mC)(hC:Yj.locals=C)(hx:Yj.kindOf x=some .local)
  (h:∀ h' Qo,Fr h₀ L h' m->News h₀ L h' (g Qo)->bv Qo (fun y=>if y=x then some v else mC y)->Q () {s with heap:=h',toks:=s.toks+1})
  (hp:(Yj.scope.kind== .class||(Yj.scope.kind== .module&&Yj.locals !=Yj.globals))=false):wpAny MP A (storeName Yj x v) Q E s:=by
 subst hC;obtain⟨pre,post,rfl,hg,a,b⟩:=U.split;have hm:=N (Yj.locals,oC) (Kz _ (.head _));refine wpAny_storeName_local hx (xC.ns hm.1) (fun h' hn hs=>?_) hp;obtain⟨Qo,Rr,x'⟩:=bv.of hn;exact h h' Qo (F.change hs hm.2.1 hm.2.2) (hg Qo▸N.setIn a b hs Rr) x'
theorem tQ(F:Fr h₀ L s.heap m)(N:News h₀ L s.heap news)(U:UpdF C oC news g)(xC:bv oC mC)(hC:Yj.locals=C)(hx:Yj.kindOf x=some .local)
  (h:∀ h' Qo,Fr h₀ L h' m->News h₀ L h' (g Qo)->bv Qo (fun y=>if y=x then some v else mC y)->Q () {s with heap:=h',toks:=s.toks+1})
  (hp:(Yj.scope.kind== .class||(Yj.scope.kind== .module&&Yj.locals !=Yj.globals))=false):wpAny MP A (assign (.Name x px) Yj v) Q E s:=
 Op (wf F N U xC hC hx h hp)
theorem yf(N:News h₀ L s.heap news)(hm:(C,oC)∈news)(xC:bv oC mC)(hC:Yj.locals=C)(hk:Yj.scope.kind=.function)(hx:Yj.kindOf x=some .local)(hv:mC x=some v)
  (h:Q v s) (hd:(x==("__debug__":Str))=false):wpAny MP A (eval (.Name x px) Yj) Q E s:=by
 subst hC;exact wpAny_Name (NT hk hx (xC.ns (N _ hm).1) hv h) hd
theorem qN(N:News h₀ L s.heap news)(hk:Yj.scope.kind=.function)(hx:Yj.kindOf x=some .cell)(hc:Yj.cells.lookup x=some c)(hm:(c,o)∈news)(ho:o.data=.cell (some v))
  (h:Q v s) (hd:(x==("__debug__":Str))=false):wpAny MP A (eval (.Name x px) Yj) Q E s:=
 wpAny_Name (wpAny_loadName_cell hk hx hc ⟨o,(N _ hm).1,ho⟩ h) hd
theorem qi{K:Type}[DecidableEq K]{knd:PySem.KeyKind PR w K}{D:Addr}{od:Obj}{PN:List (K×Value)}{k:K}{Qb v:Value}{g:Obj->X4}{Q:Unit->Shared->Prop}(F:Fr h₀ L s.heap m)(N:News h₀ L s.heap news)(U:UpdF D od news g)(hd:od.IsDictOf knd PN)(hz:PN.length<=1000)
  (RE:knd.is k Qb=true) (h:∀ h' od',Fr h₀ L h' m->News h₀ L h' (g od')->od'.IsDictOf knd (stored PN k v)->Q () {s with heap:=h',toks:=s.toks+1}):wpAny MP A (dictSet D Qb v) Q E s:=by
 obtain⟨pre,post,rfl,hg,a,b⟩:=U.split;have hm:=N (D,od) (Kz _ (.head _));have hdo:s.heap.DictOf knd D PN:=Heap.dictOf_iff.mpr ⟨od,hm.1,hd⟩;unfold dictSet;refine Li (Kx (knd.pyHash RE ?_));refine wpAny_dictSetHashed_pairs (s:={s with toks:=s.toks+1}) RE hdo (fun h' Ue Q3=>?_) (by refine aa Lf ?_;exact bd hz);obtain⟨od',Rr,hd2⟩:=Heap.dictOf_iff.mp Ue;exact h h' od' (F.change Q3 hm.2.1 hm.2.2) (hg od'▸N.setIn a b Q3 Rr) hd2
theorem dict0{K:Type}[DecidableEq K]{knd:PySem.KeyKind PR w K}:Obj.IsDictOf knd ({cls:= .type "dict",data:= .dict #[]}:Obj) ([]:List (K×Value)):=⟨#[],0,⟨rfl,rfl,rfl⟩,rfl,fun e he=>by simp at he, .nil,MC⟩
def aw(l:X4):Prop:=(l.map (·.1)).Nodup
theorem aw.cons:aw (p::l)↔(∀ q∈l,q.1≠p.1)/\aw l:=by
 unfold aw
 (refine aa LA ?_;rw[Lx])
 constructor
 ·rintro⟨h1,h2⟩
  exact⟨fun q hq e=>h1 (e▸KU hq),h2⟩
 ·rintro⟨h1,h2⟩
  refine⟨fun hm=>?_,h2⟩;obtain⟨q,hq,e⟩:=KI.mp hm;exact h1 q hq e
theorem aw.tail(h:aw (p::l)):aw l:=(aw.cons.mp h).2
theorem aw.ne(h:aw (p::l))(hq:q∈l):q.1≠p.1:=(aw.cons.mp h).1 q hq
theorem aw.nil:aw []:=MC
theorem fb:∀ {l:X4} (pre:X4) {post:X4},l=pre++(a,o)::post->aw l->UpdF a o l (fun o'=>pre++(a,o')::post)
 |_,[],_,rfl,h=> .head fun q hq=>h.ne hq
 |_,p::pre,_,rfl,h=> .tail (fun e=>(aw.cons.mp h).1 (a,o) (Kz _ (.head _)) e.symm) (fb pre rfl h.tail)
theorem aw.set(h:aw (pre++(a,o)::post)):aw (pre++(a,o')::post):=by
 unfold aw at h⊢;simpa using h
theorem aw.perm(h:aw l)(p:l.Perm l'):aw l':=(List.Perm.nodup_iff (p.map _)).mp h
theorem aw.append(h:aw l)(h':aw l')(hn:∀ p∈l,∀ q∈l',p.1≠q.1):aw (l++l'):=by
 unfold aw at*;refine aa KN ?_;refine Nn.mpr ⟨h,h',fun a ha b hb=>?_⟩;obtain⟨p,hp,rfl⟩:=KI.mp ha;obtain⟨q,hq,rfl⟩:=KI.mp hb;exact hn p hp q hq
theorem aw.left(h:aw (l++l')):aw l:=by unfold aw at*;rw[KN] at h;exact(Nn.mp h).1
theorem aw.right(h:aw (l++l')):aw l':=by unfold aw at*;rw[KN] at h;exact(Nn.mp h).2.1
theorem aw.apart(h:aw (l++l')):∀ p∈l,∀ q∈l',p.1≠q.1:=fun p hp q hq=>by
 unfold aw at h;rw[KN] at h;exact(Nn.mp h).2.2 _ (KU hp) _ (KU hq)
theorem aw.fresh(h:aw l)(hl:∀ p∈l,p.1<D):aw ((D,o)::l):=aw.cons.mpr ⟨fun q hq=>K6 (hl q hq),h⟩
end
theorem gk(N:News h₀ L h l)(p:l.Perm l'):News h₀ L h l':=fun q hq=>N q (p.mem_iff.mpr hq)
def qH(xs:Array Nat):Prop:=xs.toList.Pairwise (·<·)
theorem jI(h1:∀ k,k<i->xs.getD k j<j)(h2:∀ k,i<=k->k<xs.size->j<=xs.getD k j):∀ YF lo hi,lo<=i->i<=hi->hi<=xs.size->hi-lo<=YF->SetTable.below.go xs j YF lo hi=i
 |0,lo,hi,a,b,_,d=>Fb a b d
 |YF+1,lo,hi,a,b,c,d=>by
  show (if lo<hi then if xs.getD ((lo+hi)/2) j<j then SetTable.below.go xs j YF ((lo+hi)/2+1) hi else SetTable.below.go xs j YF lo ((lo+hi)/2) else lo)=i
  by_cases q:lo<hi
  ·refine aa (KW q) ?_
   by_cases q2:xs.getD ((lo+hi)/2) j<j
   ·refine aa (KW q2) ?_
    refine jI h1 h2 YF _ _ ?_ b c (hB d);rcases M3 ((lo+hi)/2) i with q3|q3
    ·exact q3
    ·exact absurd q2 (MW.mpr (h2 _ q3 (hL c q)))
   ·refine aa (KM q2) ?_
    refine jI h1 h2 YF _ _ a ?_ (Eg c q) (hC d q);rcases M3 ((lo+hi)/2) i with q3|q3
    ·exact absurd (h1 _ q3) q2
    ·exact q3
  ·refine aa (KM q) ?_;exact aS a (by exact L2 [_,_,_] V1 V0 1 V1 V2 1 V2 V0 rfl b (nT q))
theorem jJ(hi:i<=xs.size)(h1:∀ k,k<i->xs.getD k j<j)(h2:∀ k,i<=k->k<xs.size->j<=xs.getD k j):SetTable.below xs j=i:=jI h1 h2 _ _ _ (K0 _) hi (KZ _) (Nat.sub_le _ _)
theorem kZ(j:Nat):∀ l:List Nat,l.Pairwise (·<·)->fJ (fun i=>i<=l.length) (fun i=>(∀ k,k<i->l.getD k j<j)) (fun i=>∀ k,i<=k->k<l.length->j<=l.getD k j)
 |[],_=>⟨0,KZ _,fun k h=>absurd h (LK _),fun k _ h=>absurd h (LK _)⟩
 |a::l,h=>by
  obtain⟨ha,hl⟩:=LX.mp h
  by_cases q:a<j
  ·obtain⟨i,h1,h2,h3⟩:=kZ j l hl
   refine⟨i+1,by simpa using h1,fun k hk=>?_,fun k hk hk2=>?_⟩
   ·cases k with
    |zero=>simpa using q
    |succ k=>simpa using h2 k (by exact L1 [_,_] (.a V0 W1) V1 1 (.a (.a V0 W1) W1) (.a V1 W1) rfl hk)
   ·cases k with
    |zero=>exact E1 hk
    |succ k=>simpa using h3 k (by exact L1 [_,_] V0 V1 1 (.a V0 W1) (.a V1 W1) rfl hk) (by simpa using hk2)
  ·refine⟨0,K0 _,fun k hk=>absurd hk (LK _),fun k _ hk=>?_⟩
   cases k with
   |zero=>simpa using MW.mp q
   |succ k=>
    have Qz:k<l.length:=by simpa using hk
    have:=ha l[k] (M5 Qz);simp[List.getD,Qz]
    lia
theorem ur(hI:qH xs)(j:Nat):vH (fun i=>i<=xs.size) (fun i=>(∀ k,k<i->xs.getD k j<j)) (fun i=>(∀ k,i<=k->k<xs.size->j<=xs.getD k j)) (fun i=>SetTable.below xs j=i):=by
 obtain⟨i,h1,h2,h3⟩:=kZ j xs.toList hI;have e:∀ k,xs.toList.getD k j=xs.getD k j:=fun k=>by simp[List.getD,NF]
 simp only[e,L9] at h1 h2 h3;exact⟨i,h1,h2,h3,jJ h1 h2 h3⟩
theorem rX(hI:qH xs)(hj:¬xs[SetTable.below xs j]?=some j):qH (SetTable.insertAt xs (SetTable.below xs j) j):=by
 obtain⟨i,h1,h2,h3,h4⟩:=ur hI j;rw[h4] at hj⊢;have eL:∀ k,k<xs.size->xs.getD k j=xs.toList.getD k j:=fun k _=>by simp[List.getD,NF]
 unfold qH;refine aa (SetTable.toList_insertAt _ _ _) ?_;have hp:(xs.toList.take i++xs.toList.drop i).Pairwise (·<·):=aa (Ps _ _) hI;obtain⟨p1,p2,p3⟩:=List.pairwise_append.mp hp;refine List.pairwise_append.mpr ⟨p1,LX.mpr ⟨fun y hy=>?_,p2⟩,fun x hx y hy=>?_⟩
 ·obtain⟨k,hk,rfl⟩:=LO.mp hy
  rw[Nx,L9] at hk;refine aa List.getElem_drop ?_;have Qz:i+k<xs.size:=sK h1 hk;have q:=h3 (i+k) (by exact L0 [_,_] V0 (.a V0 V1) rfl) Qz;have e:xs.getD (i+k) j=xs[i+k]:=by simp[Qz]
  rw[e] at q;have e2:xs.toList[i+k]'(by refine aa L9 ?_;exact Qz)=xs[i+k]:=by simp
  refine aa e2 ?_;refine OX q fun q2=>?_
  cases k with
  |zero=>exact hj (by rw[MJ (iR Qz)];exact congrArg some q2.symm)
  |succ k=>
   have hi:i<xs.size:=iR Qz;have a:=h3 i (KZ _) hi;have e3:xs.getD i j=xs[i]:=by simp[hi]
   rw[e3] at a;have b:=NS.mp hI i (i+(k+1)) (by simpa using hi) (by simpa using Qz) (by exact L0 [_,_] (.a V0 W1) (.a V0 (.a V1 W1)) rfl);simp only[Array.getElem_toList] at b
   omega
 ·have lt:x<j:=by
   obtain⟨k,hk,rfl⟩:=LO.mp hx;rw[Mr,L9] at hk;refine aa List.getElem_take ?_;have q:=h2 k (mL hk);have Qz:k<xs.size:=mR hk;have e:xs.getD k j=xs[k]:=by simp[Qz]
   rw[e] at q;simpa using q
  rcases KG.mp hy with rfl|hy
  ·exact lt
  ·exact p3 x hx y hy
structure eF(t:SetTable):Prop where
 inc:qH t.place
 dum:t.dummies=#[]
theorem qV(j:Nat):SetTable.has #[] j=false:=by unfold SetTable.has;simp
theorem pz{t:SetTable}(hd:t.dummies=#[]){hashAt:Nat->Int}{h:Int}{j:Nat}{d:Option Nat}:∀ YF p,p.dummy=none->SetTable.probe.go t hashAt h YF p=some (.empty j d)->d=none/\¬t.place[SetTable.below t.place j]?=some j
 |0,p,_,e=>by cases e
 |YF+1,p,hp,e=>by
  change (match t.slot p.j with| .empty=>some (SetTable.Met.empty p.j p.dummy)| .dummy=>SetTable.probe.go t hashAt h YF (t.advance {p with dummy:=some p.j})| .live i=>if hashAt i==h then some (.candidate p.j i (t.advance p)) else SetTable.probe.go t hashAt h YF (t.advance p))=_ at e
  cases hs:t.slot p.j with
  |empty=>
   rw[hs] at e;simp only[Option.some.injEq,SetTable.Met.empty.injEq] at e;obtain⟨rfl,rfl⟩:=e;refine⟨hp,fun q=>?_⟩;unfold SetTable.slot at hs;simp only[q,OF,if_true] at hs
   cases hs
  |dummy=>
   unfold SetTable.slot at hs;dsimp only at hs;rw[hd,qV] at hs
   split at hs
   ·cases hs
   ·simp at hs
  |live i=>
   rw[hs] at e;dsimp only at e
   split at e
   ·cases e
   ·refine pz hd YF _ ?_ e
    unfold SetTable.advance
    split
    ·exact hp
    ·exact hp
theorem qk{t:SetTable}(hd:t.dummies=#[]){h:Int}{j:Nat}{b:Bool}(e:t.freeSlot h=some (j,b)):¬t.place[SetTable.below t.place j]?=some j:=by
 revert e;unfold SetTable.freeSlot SetTable.probe;generalize he:SetTable.probe.go t _ _ _ _=r
 cases r with
 |none=>intro e;cases e
 |some v=>
  cases v with
  |empty j' d=>
   intro e;obtain⟨rfl,h2⟩:=pz hd _ _ rfl he;simp only[Option.some.injEq,Prod.mk.injEq,Option.getD_none] at e;refine ae e.1 ?_;exact h2
  |_=>intro e;cases e
theorem fv(t:SetTable)(n:Nat):eF (t.standIn n):=⟨by unfold qH SetTable.standIn;simp[List.pairwise_lt_range],rfl⟩
theorem pf(h:eF t)(n:Nat):eF (t.orStandIn n):=by unfold SetTable.orStandIn;split;exact h;exact fv t n
theorem nL{t:SetTable}(n:Nat):(t.orStandIn n).led=t.led:=by unfold SetTable.orStandIn;split<;>rfl
theorem uB{t:SetTable}(h:eF t)(es:Array (Int×Value))(k:Int)(x:Value):eF (layNew t es k x).2.1/\(layNew t es k x).2.1.led=t.led:=by
 unfold layNew
 split
 ·rename_i j b e
  refine⟨pf ⟨?_,?_⟩ _,(nL _).trans rfl⟩
  ·exact rX h.inc (qk h.dum e)
  ·show (if SetTable.has t.dummies j then _ else t.dummies)=#[]
   refine aa h.dum (aa (qV _) ?_);rfl
 ·exact⟨fv _ _,rfl⟩
theorem yq{mask Xo moves:Nat}{led plain:Bool}{hs:Array Int}{t:SetTable}{o:Array Nat}(e:SetTable.laid mask Xo moves led plain hs=some (t,o)):eF t/\t.led=led:=by
 unfold SetTable.laid at e;simp only[bind,Option.bind_eq_some_iff] at e;obtain⟨ow,_,e⟩:=e;simp only[pure,Option.some.injEq,Prod.mk.injEq] at e;obtain⟨rfl,_⟩:=e;refine⟨⟨?_,rfl⟩,rfl⟩;show List.Pairwise _ _;simp only[List.map_filterMap];refine List.Pairwise.filterMap _ ?_ (List.pairwise_lt_range);intro a a' Sg b hb b' RX;have e1:∀ (x y:Nat),Option.map (fun z:Nat×Nat=>z.1) (Option.map (fun z=>(x,z)) (ow.getD x none))=some y->y=x:=fun x y q=>by
  cases hq:ow.getD x none with
  |none=>rw[hq] at q;cases q
  |some z=>rw[hq] at q;simp at q;exact q.symm
 exact aa (e1 a b hb) (aa (e1 a' b' RX) Sg)
theorem qv(h:eF t)(es:Array (Int×Value))(n:Nat):eF (relayAll t es n).2.1/\(relayAll t es n).2.1.led=t.led:=by
 unfold relayAll
 split
 ·rename_i t' o e
  unfold SetTable.relaid at e;have:=yq e;dsimp only
  split
  ·exact this
  ·exact⟨fv _ _,rfl⟩
 ·exact⟨fv _ _,rfl⟩
theorem qp(t:SetTable)(es:Array (Int×Value))(h:Int)(x:Value):(layNew t es h x).2.1.mask=t.mask∨(layNew t es h x).2.1.mask=4*(es.size+1)+4:=by
 unfold layNew
 split
 ·dsimp only
  unfold SetTable.orStandIn
  split
  ·exact .inl rfl
  ·right
   show 4*(SetTable.insertAt es _ _).size+4=_;have q:∀ p,(SetTable.insertAt es p (h,x)).size=es.size+1:=fun p=>by
    have:=(SetTable.insertAt_perm es p (h,x)).length_eq;simpa only[L9,Array.size_push] using this
   exact aa (q _) rfl
 ·exact .inr rfl
section
variable{K:Type}[DecidableEq K][BEq K][LawfulBEq K]
def ba(knd:PySem.KeyKind PR w K)(o:Obj)(PN:List (K×Value)):Prop:=
 o.ExactSet/\yZ (fun es ep t=>o.data=.set es ep t) (fun es _ _=>ElemsOf knd es.toList) (fun es _ _=>(es.toList.map (·.2)).Perm (PN.map (·.2))) (fun _ _ _=>(∀ x∈PN,knd.is x.1 x.2=true)) (fun es _ t=>t.fits es.size=true) (fun _ _ t=>eF t) (fun _ _ t=>(w.params.followText "set-order"=false->t.led=true)) (fun es _ t=>(es.size<=1->7<=t.mask))
variable{knd:PySem.KeyKind PR w K}{A:Around}{E:X6}{s:Shared}
theorem ba.obj(h:ba knd o PN):o.SetObjOf knd (fun k=>decide (k∈PN.map (·.1))) PN.length:=by
 obtain⟨hx,es,ep,t,hd,Uh,hp,hk,hf,_,_,_⟩:=h;refine⟨hx,es,ep,t,hd,Uh,fun k=>?_,by have:=hp.length_eq;simpa using this,hf⟩;rw[decide_eq_true_iff]
 constructor
 ·intro hm
  obtain⟨x,hx,rfl⟩:=KI.mp hm;obtain⟨e,he,e2⟩:=KI.mp (hp.mem_iff.mpr (KU (f:=(·.2)) hx));exact⟨e,he,by refine aa e2 ?_;exact hk x hx⟩
 ·rintro⟨e,he,SE⟩
  obtain⟨x,hx,e2⟩:=KI.mp (hp.mem_iff.mp (KU (f:=(·.2)) he));exact KI.mpr ⟨x,hx,knd.inj e.2 _ _ (by refine ae e2 ?_;exact hk x hx) SE⟩
theorem lN(h:w.params.followText "set-order"=false->led=true):ba knd {cls:= .type "set",dict:=none,data:= .set #[] 0 (.fresh 0 0 led)} []:=
 ⟨⟨rfl,rfl,rfl⟩,#[],0,_,rfl,fun e he=>by simp at he,by simp,fun x hx=>(nomatch hx),rfl,⟨List.Pairwise.nil,rfl⟩,h,fun _=>KZ _⟩
theorem wM(h:∀ o,ba knd o []->Q (.ref s.heap.objs.size) {s with heap:=s.heap.push o}):wpAny MP A (newSet (.type "set")) Q E s:=by
 unfold newSet setsByText;refine Kx (Kx (MT (KC ?_)));dsimp only;simp only[newObj];refine Kx (wpAny_alloc (KC (h _ (lN fun e=>?_))));show (!w.params.followText "set-order")=true;refine aa e ?_;rfl
theorem vj{PN:List (K×Value)}{k:K}{x:Value}{es:Array (Int×Value)}(RE:knd.is k x=true)(hp:(es.toList.map (·.2)).Perm (PN.map (·.2)))(hk:∀ x∈PN,knd.is x.1 x.2=true):(es.toList.findIdx? (fun e=>knd.is k e.2)).isSome=decide (k∈PN.map (·.1)):=by
 (rw[MY,decide_eq_true_iff];refine aa List.findIdx?_isSome ?_;rw[List.any_eq_true])
 constructor
 ·rintro⟨e,he,SE⟩
  obtain⟨y,hy,e2⟩:=KI.mp (hp.mem_iff.mp (KU (f:=(·.2)) he));exact KI.mpr ⟨y,hy,knd.inj e.2 _ _ (by refine ae e2 ?_;exact hk y hy) SE⟩
 ·intro hm
  obtain⟨y,hy,rfl⟩:=KI.mp hm;obtain⟨e,he,e2⟩:=KI.mp (hp.mem_iff.mpr (KU (f:=(·.2)) hy));exact⟨e,he,by refine aa e2 ?_;exact hk y hy⟩
theorem pJ{a:Addr}{o:Obj}{PN:List (K×Value)}{k:K}{x:Value}{Q:Bool->Shared->Prop}(RE:knd.is k x=true)(VH:x.scannable=true)(ho:s.heap.get? a=some o)(hS:ba knd o PN)(P9:PN.length+1<scanBound)
  (R7:k∈PN.map (·.1)->Q false s) (Rk:¬k∈PN.map (·.1)->∀ h' o',Heap.SameBut a s.heap h'->h'.get? a=some o'->ba knd o' (PN++[(k,x)])->Q true {s with heap:=h'}):
  wpAny MP A (setAddHashed a x (knd.hash k)) Q E s:=by
 obtain⟨hex,es,ep,t,hd,Uh,hp,hk,hf,VJ,Ri,Wi⟩:=hS;have QI:es.size=PN.length:=by have:=hp.length_eq;simpa using this
 have hb:es.size<scanBound:=L2 [_,_,_] (.a V2 W1) V1 1 (.a (.a V0 W1) W1) V1 1 V2 V0 rfl P9 (eL QI);have Vf:=vj (es:=es) RE hp hk;unfold setAddHashed setAddHashedIn;refine Li (Kx (wpAny_setState_of ho hd hf ?_));dsimp only;refine aa (byScan_of VH hb Uh) (aa (KW rfl) ?_);unfold setAddByScan;refine Kx ?_;refine Kx (My ?_);refine Kx (wpAny_setScan_of RE ho hd hf Uh ?_)
 cases hr:List.findIdx? (fun e=>knd.is k e.2) es.toList with
 |some j=>
  rw[hr] at Vf;exact KC (KC (R7 (Np Vf.symm)))
 |none=>
  rw[hr] at Vf;have Q6:¬k∈PN.map (·.1):=of_decide_eq_false Vf.symm;dsimp only;have hgw:∀ (b:Bool) (PZ:Shared) (Q':Unit->Shared->Prop),Q' () PZ->wpAny MP A (match b with|true=>rule "set.scan.the-table-gave-way"|false=>pure ()) Q' E PZ:=
   fun b PZ Q' hq=>by cases b<;>first|exact KC hq|exact My hq
  have QA:=layNew_perm t es (knd.hash k) x;have Ui:=layNew_fits t es (knd.hash k) x;have Qc:=uB VJ es (knd.hash k) x;have TM:=qp t es (knd.hash k) x;generalize layNew t es (knd.hash k) x=R at QA Ui Qc TM⊢;obtain⟨QX,t1,WY,gave⟩:=R;dsimp only at QA Ui Qc TM⊢;rw[Array.toList_push] at QA;have hel1:ElemsOf knd QX.toList:=(Uh.push RE VH).perm QA;have VC:(QX.toList.map (·.2)).Perm ((PN++[(k,x)]).map (·.2)):=by
   refine(QA.map _).trans ?_;exact aa KN (aa KN (hp.append_right _))
  have hk1:∀ y∈PN++[(k,x)],knd.is y.1 y.2=true:=fun y hy=>by
   rcases KK.mp hy with hy|hy
   ·exact hk y hy
   ·rw[KD] at hy;subst hy;exact RE
  have UK:QX.size<scanBound:=by
   have:=QA.length_eq;simp only[L9,KH,M8] at this;exact L3 [_,_,_,_] (.a V3 W1) V1 1 (.a (.a V0 W1) W1) V1 1 V2 V0 1 V3 (.a V2 W1) rfl P9 (eL QI) (eL this)
  have Ws:QX.size=es.size+1:=by
   have:=QA.length_eq;simpa only[L9,KH,M8] using this
  have UR:QX.size<=1->7<=t1.mask:=fun q=>by
   rcases TM with q2|q2
   ·refine aa q2 ?_;exact Wi (by exact L4 [_,_,_] V0 W1 2 V0 V1 2 V1 V0 1 (.a V0 W1) V2 1 V2 W1 rfl (eL QI) (eG QI) (eG Ws) q)
   ·refine aa q2 ?_;exact L0 [_] (.n 7) (.a (.m 4 (.a V0 W1)) (.n 4)) rfl
  refine Kx (hgw _ _ _ ?_);have tail:∀ t2:SetTable,t2.fits QX.size=true->eF t2->t2.led=t.led->t2.mask=t1.mask->wpAny MP A (do
    storeSet a QX t2
    if (!WY&&t2.tooFull)=true then do
      (match (relayAll t2 QX (SetTable.grown QX.size)).2.2 with|true=>rule "set.scan.the-table-gave-way"|false=>pure ())
      storeSet a (relayAll t2 QX (SetTable.grown QX.size)).1 (relayAll t2 QX (SetTable.grown QX.size)).2.1
      pure (some true)
     else pure (some true)) (fun r s'=>wpAny MP A (match r with|some added=>pure added|none=>setAddHashedIn a x (knd.hash k) 99999) Q E s') E s:=by
   intro t2 UM WK Xb Wz;refine Kx (wpAny_storeSet_of ho hd ?_ (fits_of_scanBound UK));have hg1:(s.heap.update a (Obj.putSet QX t2)).get? a=some {o with data:= .set QX (ep+1) t2}:=by
    have:=ML (Obj.putSet QX t2) ho (by refine aa (putSet_of QX t2 hd) ?_;rfl);rw[putSet_of QX t2 hd] at this;exact this
   have hsb1:=Lm s.heap a (Obj.putSet QX t2)
   split
   ·rename_i hfull
    have TN:=relayAll_perm t2 QX (SetTable.grown QX.size);have Uk:=relayAll_fits t2 QX (SetTable.grown QX.size);have VB:=qv WK QX (SetTable.grown QX.size);generalize relayAll t2 QX (SetTable.grown QX.size)=R at TN Uk VB⊢;obtain⟨Vk,t3,gave2⟩:=R;dsimp only at TN Uk VB⊢;have Ub:Vk.size<scanBound:=by have:=TN.length_eq;simp only[L9] at this;exact L4 [_,_,_,_,_] (.a (.v 4) W1) V1 1 (.a (.a V0 W1) W1) V1 1 V2 V0 1 V3 (.a V2 W1) 1 (.v 4) V3 rfl P9 (eL QI) (eL Ws) (eL this)
    refine Kx (hgw _ _ _ ?_);refine Kx (wpAny_storeSet_of hg1 rfl ?_ (fits_of_scanBound Ub));have hg2:((s.heap.update a (Obj.putSet QX t2)).update a (Obj.putSet Vk t3)).get? a=some {o with data:= .set Vk (ep+1+1) t3}:=by
     have:=ML (Obj.putSet Vk t3) hg1 (by refine aa (putSet_of Vk t3 rfl) ?_;rfl);rw[putSet_of Vk t3 rfl] at this;exact this
    refine KC (KC (Rk Q6 _ _ (hsb1.trans (Lm _ a _)) hg2 ⟨hex,Vk,_,t3,rfl,hel1.perm TN,(TN.map _).trans VC,hk1,Uk,VB.1,fun e=>by refine aa VB.2 (aa Xb ?_);exact Ri e,fun q=>?_⟩))
    exfalso
    have q1:=TN.length_eq;simp only[L9] at q1;have q2:=UR (q8 q q1);rw[←Wz] at q2;simp only[Nv,SetTable.tooFull,MH] at hfull;have q3:t2.fill<=1:=by
     unfold SetTable.fits at UM;simp only[Nv,Mx] at UM;unfold SetTable.fill;refine aa UM.1 (aa WK.dum ?_);show QX.size+0<=1;exact L6 [_,_,_,_] (.a V2 W0) W1 2 V0 V1 2 V1 V0 1 V2 (.a V0 W1) 1 (.a V0 W1) V2 1 V3 W1 1 V2 V3 rfl (eL QI) (eG QI) (eL Ws) (eG Ws) q (eG q1)
    lia
   ·exact KC (KC (Rk Q6 _ _ hsb1 hg1 ⟨hex,QX,_,t2,rfl,hel1,VC,hk1,UM,WK,fun e=>by refine aa Xb ?_;exact Ri e,fun q=>by refine aa Wz ?_;exact UR q⟩))
  split
  ·refine Kx ?_
   refine aa (hashByValue_scannable 8 VH) ?_;refine KC ?_
   cases plainKind x with
   |true=>exact tail t1 Ui Qc.1 Qc.2 rfl
   |false=>exact tail {t1 with plain:=false} (SetTable.fits_plain_off Ui) ⟨Qc.1.inc,Qc.1.dum⟩ Qc.2 rfl
  ·exact Kx (KC (tail t1 Ui Qc.1 Qc.2 rfl))
end
theorem kI(h:i<l.length):(l[i]::l.eraseIdx i).Perm l:=by
 refine aa (List.eraseIdx_eq_take_drop_succ _ _) ?_;refine Ld.symm.trans (.of_eq ?_);exact aa (List.getElem_cons_drop _) (aa (Ps _ _) rfl)
theorem nz(next:Nat->Nat):∀ (YF k:Nat) (l:List α) (out:Array α),l.length<=YF->(pickOrder.go next YF k l out).toList.Perm (out.toList++l)
 |0,k,l,out,h=>by
  have:l=[]:=List.length_eq_zero_iff.mp (by exact aS (bd h) (by exact L0 [_] W0 V0 rfl));subst this;show out.toList.Perm (out.toList++[]);rw[Lh]
 |YF+1,k,l,out,h=>by
  show (match l[next k%l.length]? with|some x=>pickOrder.go next YF (k+1) (l.eraseIdx (next k%l.length)) (out.push x)|none=>out).toList.Perm _
  cases hl:l[next k%l.length]? with
  |none=>
   have:l=[]:=by
    rw[List.getElem?_eq_none_iff] at hl
    cases l with
    |nil=>rfl
    |cons a l=>exact absurd (L8 (next k) (by simp:0<(a::l).length)) (MW.mpr hl)
   subst this;dsimp only;rw[Lh]
  |some x=>
   dsimp only;obtain⟨PU,hx⟩:=Lj.mp hl;refine(nz next YF _ _ _ (by refine aa List.length_eraseIdx ?_;split<;>lia)).trans ?_;refine aa Array.toList_push (aa (KQ _ _ _) ?_);refine Lr _ ?_;exact ae hx (kI PU)
theorem mz(next:Nat->Nat)(xs:Array α):(pickOrder next xs).toList.Perm xs.toList:=by
 have:=nz next xs.size 0 xs.toList #[] (by simp)
 simpa [pickOrder] using this
section
variable{A:Around}{E:X6}{s:Shared}
theorem pW(hn:n≠0)(h:∀ i d,i<n->Q i {s with drawn:=d}):wpAny MP A (choose src n) Q E s:=fun Γ p hΓ=>by
 unfold choose;rw[Sem.wp_choose];exact⟨hn,h _ _ (L8 _ (NJ hn))⟩
theorem gu:∀ (n:Nat) (l:List α) (s:Shared) (Q:List α->Shared->Prop),l.length=n->(∀ l' d,l'.Perm l->Q l' {s with drawn:=d})->wpAny MP A (drawOrder n l) Q E s
 |0,l,s,Q,hl,h=>by
  have:l=[]:=List.length_eq_zero_iff.mp hl;subst this;exact KC (h [] s.drawn (.refl _))
 |n+1,[],s,Q,hl,h=>by cases hl
 |n+1,a::l,s,Q,hl,h=>by
  refine Kx (pW (by refine aa hl ?_;exact Pm n) fun i d hi=>?_);refine aa (KJ hi) ?_;dsimp only;refine Kx (gu n _ _ _ (by refine aa List.length_eraseIdx (aa (KW hi) (aa hl ?_));rfl) fun l' d' hp=>KC (h _ _ ?_));exact(hp.cons _).trans (kI hi)
theorem iP:Manifest.owners.lookup (String.ofList ['r','o','t','a','r','e','t','i','_','t','e','s'].reverse)=some Manifest.sig_set_iterator:=by kernel_rfl
theorem gq:Slot "set_iterator" "__next__" "set_iterator.__next__":=
 .of (owner:="set_iterator") (n:="__next__") (by refine aa (Oj _ _) (aa Nc ?_);kernel_rfl) (by decide+kernel) (by decide+kernel) (by decide+kernel)
  (by first|exact .inl (by decide+kernel)|exact .inr (by decide+kernel)) (by refine aa (NW _ _) ?_;kernel_rfl)
theorem jM:entryFor table "set_iterator.__next__"=some Builtin.«set_iterator.__next__»:=OI (by kernel_rfl)
theorem kg(a:Value):argsOk "set_iterator.__next__" ⟨[a],[]⟩:=by
 unfold argsOk;refine aa (signature?_of (id:="set_iterator.__next__") (n:=['_','_','t','x','e','n','_','_']) (o:=['r','o','t','a','r','e','t','i','_','t','e','s']) (by kernel_rfl) iP) ?_;kernel_rfl
theorem mq:entryFor table "set.__iter__"=some Builtin.«frozenset.__iter__»:=
 entryFor_alias (id':="frozenset.__iter__") (by refine aa (fastTable_eq_tree _) ?_;kernel_rfl) (by first|rfl|decide+kernel) (by decide+kernel) (by refine aa (fastTable_eq_tree _) ?_;kernel_rfl)
noncomputable abbrev cN (first:Value) (i:Nat) (a:Addr) (n ep:Nat):Obj:={cls:= .type "set_iterator",data:= .fields #[first,rawInt i, .ref a,rawInt n,rawInt ep]}
inductive eU(a:Addr)(es:Array (Int×Value))(ep:Nat)(t:SetTable)(h:Heap)(vs:X8)(i:Nat):Value->Prop
 |text:w.params.followText "set-order"=true->vs=(pickOrder (w.params.setOrder a ep) es).toList.map (·.2)->eU a es ep t h vs i (rawInt ((0:Nat):Int))
 |draw (T:Addr) (ps:List Nat):h.IsTuple T (ps.map fun(p:Nat)=>rawInt (p:Int)).toArray->ps.Perm (List.range es.size)->vs=ps.map (fun p=>((es[p]?).map (·.2)).getD .none)->eU a es ep t h vs i (.ref T)
 |slot (k:Nat):w.params.followText "set-order"=false->t.led=true->eF t->(!t.plain&&decide (es.size>1))=false->vs=es.toList.map (·.2)->SetTable.below t.place k=i->eU a es ep t h vs i (rawInt (k:Int))
def eV(a:Addr)(es:Array (Int×Value))(ep:Nat)(t:SetTable)(vs:X8)(I:Addr)(i:Nat)(h:Heap):Prop:=
 (fJ (fun o=>h.get? a=some o) (fun o=>o.cls=.type "set") (fun o=>o.data=.set es ep t))/\t.fits es.size=true/\vs.length=es.size/\aM (fun first=>h.get? I=some (cN first i a es.size ep)) (fun first=>eU a es ep t h vs i first)
theorem dP
  (ho:s.heap.get? a=some o) (hd:o.data=.set es ep t) (hf:t.fits es.size=true) (h:Q (es,ep,t) s):wpAny MP A (setState a) Q E s:=
 wpAny_setState_of ho hd hf h
theorem iU(hb:w.params.followText "set-order"=true)
  (ho:s.heap.get? a=some o) (hd:o.data=.set es ep t) (hf:t.fits es.size=true) (h:Q (((pickOrder (w.params.setOrder a ep) es)[i]?).map fun e=>(e.2,k)) s):wpAny MP A (setNext a k i ep) Q E s:=by
 unfold setNext;refine Kx (dP ho hd hf ?_);dsimp only;unfold setsByText;refine Kx (Kx (MT (KC ?_)));refine aa (show (Setting.params ⟨MP.prog,MP.w.params⟩).followText "set-order"=true from hb) (aa (KW rfl) ?_);refine aa (KM (by simp)) ?_;unfold setWalk;refine Kx (Kx (dP ho hd hf ?_));dsimp only;unfold setsByText;refine Kx (Kx (MT (KC ?_)));refine aa (show (Setting.params ⟨MP.prog,MP.w.params⟩).followText "set-order"=true from hb) (aa (KW rfl) ?_);refine Kx (MT (KC ?_));exact KC h
theorem iT(hb:w.params.followText "set-order"=false)
  (ho:s.heap.get? a=some o) (hd:o.data=.set es ep t) (hf:t.fits es.size=true) (hl:t.led=true) (Ug:(!t.plain&&decide (es.size>1))=false)
  (h:Q (match es[SetTable.below t.place k]?,t.place[SetTable.below t.place k]? with|some (_,x),some j=>some (x,j+1)|_,_=>none) s):wpAny MP A (setNext a k i ep) Q E s:=by
 unfold setNext;refine Kx (dP ho hd hf ?_);dsimp only;unfold setsByText;refine Kx (Kx (MT (KC ?_)));refine aa (show (Setting.params ⟨MP.prog,MP.w.params⟩).followText "set-order"=false from hb) (aa (KM KP) ?_);show wpAny _ _ (if (!t.plain&&decide (es.size>1))=true then _ else _) _ _ _;refine aa Ug (aa (KM KP) ?_);show wpAny _ _ ((if (!t.led&& !es.isEmpty)=true then _ else pure ())>>=_) _ _ _;refine aa hl ?_;refine Kx (KC ?_);exact KC h
theorem iv
  (hI:s.heap.get? I=some (cN first i a n ep)) (ho:s.heap.get? a=some o) (hd:o.data=.set es ep t) (hf:t.fits es.size=true) (hn:n=es.size)
  (h:wpAny MP A.in1 (match first with
   | .int slot _=>(setNext a slot.toNat i ep>>=fun r=>match r with
     |some (x,next)=>setField (.ref I) 0 (rawInt next)>>=fun _=>setField (.ref I) 1 (rawInt ((i:Int)+1))>>=fun _=>ret x
     |none=>setField (.ref I) 2 .none>>=fun _=>(newExc (.type "StopIteration") []>>=fun e=>raiseNew e))
   |_=>(seqItems? first>>=fun ps?=>match ps? with
     |some XB=>(match XB[i]? with
      |some (.int place _)=>setNextDrawn a place.toNat ep>>=fun x=>setField (.ref I) 1 (rawInt ((i:Int)+1))>>=fun _=>ret x
      |some _=>unsupported "internal:set_iterator"
      |none=>setField (.ref I) 0 (rawInt 0)>>=fun _=>setField (.ref I) 2 .none>>=fun _=>(newExc (.type "StopIteration") []>>=fun e=>raiseNew e))
     |none=>unsupported "internal:set_iterator"))
   (fun fin s'=>∃ v,fin=.done (.ret v)/\Q (some v) s') (fun e s'=>(aM (fun o=>s'.heap.get? (match e with| .ref b=>b|_=>0)=some o) (fun o=>o.cls=.type "StopIteration"))/\(∃ b,e=.ref b)/\Q none s') s):
  wpAny MP A (pyNext (.ref I)) Q E s:=by
 have hT:s.TypeIs (.ref I) "set_iterator":=⟨_,hI,rfl⟩;unfold pyNext;refine Kx (Nt (Mn (name:=Yc "__next__") hT gq
  (LQ gq hT jM ?_ (kg _))))
 show wpAny _ _ (fieldsOf (.ref I)>>=_) _ _ s;refine Kx (wpAny_fieldsOf hI rfl ?_);show wpAny _ _ (setEntries a>>=_) _ _ s;refine Kx (wpAny_setEntries_of ho hd hf ?_);refine aa (KM (by rw[hn];simp)) ?_;have Qb:∀ {T T':Sem PySem.Fin} {Qa:PySem.Fin->Shared->Prop} {Ea:X6},T=T'->wpAny MP A.in1 T' Qa Ea s->wpAny MP A.in1 T Qa Ea s:=fun e q=>e▸q;refine Qb ?e (K7 h (fun fin s' hq=>?a) fun e s' hq=>?b)
 case a=>
  obtain⟨v,rfl,hq⟩:=hq;exact⟨v,rfl,KC hq⟩
 case b=>
  obtain⟨⟨o,ho,hc⟩,⟨b,rfl⟩,hq⟩:=hq;exact Kx (ND (T:="StopIteration") (b:=true) ⟨o,ho,hc⟩ isSubtype_stop (KC hq))
 case e=>
  cases first<;>first|rfl|exact congrArg (fun f=>Bind.bind (seqItems? _) f) (funext fun x=>by cases x<;>rfl)
theorem mH(hh:A.handled=none)(h:∀ h' e o,(∀ b x,s.heap.get? b=some x->h'.get? b=some x)->h'.get? e=some o->o.cls=.type "StopIteration"->E' (.ref e) {s with heap:=h'}):
  wpAny MP A.in1 (newExc (.type "StopIteration") []>>=fun e=>raiseNew e) Q E' s:=
 ft hh (h _ _ _ (fun b x e=>KL _ (KL _ e)) (La _ rfl) rfl)
theorem bI(hI:s.heap.get? I=some (cN first i a n ep))(hk:k<5)
  (h:∀ h',Heap.SameBut I s.heap h'->h'.get? I=some {cls:= .type "set_iterator",data:= .fields (#[first,rawInt i, .ref a,rawInt n,rawInt ep].setIfInBounds k x)}->Q () {s with heap:=h'}):wpAny MP A (setField (.ref I) k x) Q E s:=by
 refine O4 hI rfl hk (h _ (Lm ..) ?_);have:=ML (Obj.mapFields (·.setIfInBounds k x)) hI (Ov (NK rfl _));exact this
variable{a I S:Addr}{i:Nat}{ep:Nat}{es:Array (Int×Value)}{t:SetTable}{vs:X8}
theorem eU.move(hk:∀ T xs,h.IsTuple T xs->h'.IsTuple T xs)(x:eU a es ep t h vs i first)(hs:∀ k:Nat,first=rawInt (k:Int)->SetTable.below t.place k=i->w.params.followText "set-order"=false->i=j):eU a es ep t h' vs j first:=by
 cases x with
 |text b e=>exact .text b e
 |draw T ps h1 h2 h3=>exact .draw T ps (hk _ _ h1) h2 h3
 |slot k h1 h2 h3 h4 h5 h6=>exact .slot k h1 h2 h3 h4 h5 (h6.trans (hs k rfl h6 h1))
theorem eV.upd(x:eV a es ep t vs I i h)(hS:h.get? S=some ol)(hc:ol.cls=.type "list")(hk:Heap.SameBut S h h'):eV a es ep t vs I i h':=by
 obtain⟨⟨o,ho,hr,hr2⟩,hf,hl,first,hI,T4⟩:=x;have ne:∀ b o,h.get? b=some o->o.cls≠ .type "list"->b≠S:=fun b o e n=>by rintro rfl;rw[hS] at e;cases e;exact n hc
 refine⟨⟨o,hk.extBut _ _ (ne _ _ ho (by refine aa hr ?_;decide)) ho,hr,hr2⟩,hf,hl,first,hk.extBut _ _ (ne _ _ hI (by show Value.type "set_iterator"≠Value.type "list";decide)) hI,T4.move (fun T xs ⟨o,e,r⟩=>⟨o,hk.extBut _ _ (ne _ _ e (by refine aa r.1 ?_;decide)) e,r⟩) fun _ _ _ _=>rfl⟩
theorem eV.item(x:eV a es ep t vs I i s.heap)(hi:i<es.size)
  (h:∀ v h',vs[i]?=some v->eV a es ep t vs I (i+1) h'->Heap.SameBut I s.heap h'->Q (some v) {s with heap:=h'}):wpAny MP A (pyNext (.ref I)) Q E s:=by
 obtain⟨⟨o,ho,QU,hd⟩,hf,hl,first,hI,T4⟩:=x;have hIa:a≠I:=by rintro rfl;rw[ho] at hI;cases hI;cases hd
 have aft:∀ {h'},Heap.SameBut I s.heap h'->h'.get? a=some o:=fun k=>k.extBut _ _ hIa ho;have YH:∀ {h'},Heap.SameBut I s.heap h'->∀ T xs,s.heap.IsTuple T xs->h'.IsTuple T xs:=fun k T xs ⟨o,e,r⟩=>⟨o,k.extBut _ _ (by rintro rfl;rw[hI] at e;cases e;exact absurd r.1 (by show Value.type "set_iterator"≠Value.type "tuple";decide)) e,r⟩;refine iv hI ho hd hf rfl ?_
 cases T4 with
 |text b e=>
  refine Kx (iU b ho hd hf ?_);have SY:i<(pickOrder (w.params.setOrder a ep) es).size:=by
   have:=congrArg List.length e;simp only[KE,L9] at this;exact L4 [_,_,_,_] (.a V0 W1) V3 1 (.a V0 W1) V1 2 V2 V1 3 V1 V2 1 V2 V3 rfl hi (eL hl) (eG hl) (eL this)
  refine aa (MJ SY) ?_;refine Kx (bI hI (by decide) fun h1 k1 g1=>Kx (bI (first:=rawInt ((0:Nat):Int)) g1 (by decide) fun h2 k2 g2=>KC ⟨_,rfl,h _ _ ?_ ⟨⟨o,aft (k1.trans k2),QU,hd⟩,hf,hl,rawInt ((0:Nat):Int),g2, .text b e⟩ (k1.trans k2)⟩));refine aa e (aa LV (aa (KJ (by simpa using SY)) ?_));simp
 |slot k h1 h2 h3 h4 h5 h6=>
  refine Kx (iT h1 ho hd hf h2 h4 ?_);have hp:t.place.size=es.size:=by unfold SetTable.fits at hf;simp only[Nv,Mx] at hf;exact hf.1
  refine aa (K8 _) (aa h6 (aa (MJ hi) (aa (MJ (q1 hi hp)) ?_)));refine Kx (bI hI (by decide) fun h1' k1 g1=>Kx (bI (first:=rawInt ((t.place[i]+1:Nat):Int)) g1 (by decide) fun h2' k2 g2=>KC ⟨_,rfl,h _ _ ?_ ⟨⟨o,aft (k1.trans k2),QU,hd⟩,hf,hl,rawInt ((t.place[i]+1:Nat):Int),g2, .slot _ h1 h2 h3 h4 h5 ?_⟩ (k1.trans k2)⟩))
  ·refine aa h5 (aa LV (aa Array.getElem?_toList (aa (MJ hi) ?_)));rfl
  ·have inc:=h3.inc
   refine jJ (q1 hi hp) (fun j hj=>?_) fun j hj SD=>?_
   ·have SC:j<t.place.size:=L3 [_,_,_,_] (.a V3 W1) V2 1 (.a V0 W1) V1 1 V1 V2 1 (.a V3 W1) (.a V0 W1) rfl hi (eG hp) hj
    refine aa (show t.place.getD j (t.place[i]+1)=t.place[j] by simp[SC]) ?_;rcases NZ.mp hj with q|rfl
    ·have:=NS.mp inc j i (by simpa using SC) (by simp;exact q1 hi hp) q
     simp only[Array.getElem_toList] at this;exact EM this
    ·lia
   ·refine aa (show t.place.getD j (t.place[i]+1)=t.place[j] by simp[SD]) ?_
    have:=NS.mp inc i j (by simp;exact q1 hi hp) (by simpa using SD) hj;simp only[Array.getElem_toList] at this;exact BR this
 |draw T ps h1 h2 h3=>
  have Qw:ps.length=es.size:=by have:=h2.length_eq;simpa using this
  obtain⟨oT,hoT,hcT,nT,hdT⟩:=id h1;refine Kx (NX hoT hdT ?_);have SY:i<ps.length:=q1 hi Qw;have Yw:ps[i]<es.size:=NV.mp (h2.mem_iff.mp (M5 SY));dsimp only;refine aa (show (ps.map fun(p:Nat)=>rawInt (p:Int)).toArray[i]?=some (rawInt (ps[i]:Nat)) by simp[SY]) ?_;show wpAny _ _ (setNextDrawn a ps[i] ep>>=_) _ _ _;unfold setNextDrawn;refine Kx (Kx (dP ho hd hf ?_));dsimp only;refine aa (KM (by simp)) (aa (MJ Yw) ?_);refine KC (Kx (bI hI (by decide) fun h1' k1 g1=>KC ⟨_,rfl,h _ _ ?_ ⟨⟨o,aft k1,QU,hd⟩,hf,hl, .ref T,g1, .draw T ps (YH k1 _ _ h1) h2 h3⟩ k1⟩));refine aa h3 (aa LV (aa (KJ SY) ?_));simp[Yw]
theorem eV.done(hh:A.handled=none)(x:eV a es ep t vs I es.size s.heap)
  (h:∀ h',(∀ b o,b≠I->s.heap.get? b=some o->h'.get? b=some o)->Q none {s with heap:=h'}):wpAny MP A (pyNext (.ref I)) Q E s:=by
 obtain⟨⟨o,ho,QU,hd⟩,hf,hl,first,hI,T4⟩:=x;refine iv hI ho hd hf rfl ?_
 cases T4 with
 |text b e=>
  refine Kx (iU b ho hd hf ?_);have SY:(pickOrder (w.params.setOrder a ep) es).size<=es.size:=by
   have:=congrArg List.length e;simp only[KE,L9] at this;exact L2 [_,_,_] V2 V1 1 V0 V1 1 V2 V0 rfl (eL hl) (eG this)
  refine aa (Array.getElem?_eq_none SY) ?_;refine Kx (bI hI (by decide) fun h1 k1 g1=>mH hh fun h' e' o' hk he hc=>⟨⟨o',he,hc⟩,⟨_,rfl⟩,h _ fun b x hb q=>hk _ _ (k1.extBut _ _ hb q)⟩)
 |slot k h1 h2 h3 h4 h5 h6=>
  refine Kx (iT h1 ho hd hf h2 h4 ?_);refine aa (K8 _) (aa h6 (aa (Array.getElem?_eq_none (KZ _)) ?_));refine Kx (bI hI (by decide) fun h1 k1 g1=>mH hh fun h' e' o' hk he hc=>⟨⟨o',he,hc⟩,⟨_,rfl⟩,h _ fun b x hb q=>hk _ _ (k1.extBut _ _ hb q)⟩)
 |draw T ps h1 h2 h3=>
  have Qw:ps.length=es.size:=by have:=h2.length_eq;simpa using this
  obtain⟨oT,hoT,hcT,nT,hdT⟩:=id h1;refine Kx (NX hoT hdT ?_);have Q6:(ps.map fun(p:Nat)=>rawInt (p:Int)).toArray[es.size]?=none:=by simp[Qw]
  dsimp only;refine aa Q6 ?_;refine Kx (bI hI (by decide) fun h1' k1 g1=>Kx (bI (first:=rawInt 0) g1 (by decide) fun h2' k2 g2=>mH hh fun h' e' o' hk he hc=>⟨⟨o',he,hc⟩,⟨_,rfl⟩,h _ fun b x hb q=>hk _ _ ((k1.trans k2).extBut _ _ hb q)⟩))
end
section
variable{A:Around}{E:X6}{s:Shared}{K:Type}[DecidableEq K][BEq K][LawfulBEq K]{knd:PySem.KeyKind PR w K}
theorem ra{a:Addr}{first:Value}{n ep:Nat}{Q:X6}(h:Q (.ref s.heap.objs.size) {s with heap:=s.heap.push (cN first 0 a n ep)}):wpAny MP A (newFields "set_iterator" [first,rawInt 0, .ref a,rawInt n,rawInt ep]) Q E s:=by
 unfold newFields;exact LW h
theorem wD{a:Addr}{o:Obj}{PN:List (K×Value)}{Q:X6}(ho:s.heap.get? a=some o)(hS:ba knd o PN)(hz:PN.length<=1000)
  (h:∀ es ep t vs I h' d,vs.Perm (PN.map (·.2))->es.size=PN.length->eV a es ep t vs I 0 h'->(∀ b o,s.heap.get? b=some o->h'.get? b=some o)->I<h'.objs.size->s.heap.objs.size<=I->Q (.ref I) {s with heap:=h',drawn:=d}):
  wpAny MP A (pyIter (.ref a)) Q E s:=by
 obtain⟨hex,es,ep,t,hd,Uh,hp,hk,hf,VJ,Ri,_⟩:=hS;have QI:es.size=PN.length:=by have:=hp.length_eq;simpa using this
 have hT:s.TypeIs (.ref a) "set":=⟨o,ho,hex.1⟩;have hTI:∀ {s':Shared} {I:Addr} {x:Value} {i n ep:Nat},s'.heap.get? I=some (cN x i a n ep)->bG (fun T' r=>s'.TypeIs (.ref I) T') (fun T' r=>typeLookup (.type T') "__next__"=pure (some r)):=fun e=>⟨"set_iterator",_,⟨_,e,rfl⟩,gq.lookup⟩;refine wpAny_pyIter_slot hT F.slot_set_iter (LQ F.slot_set_iter hT mq ?_ (F.args_set_iter_1 _));show wpAny _ _ (Builtin.Frozenset.sizeOf a>>=_) _ _ s;unfold Builtin.Frozenset.sizeOf;refine Kx (Kx (wpAny_setEntries_of ho hd hf (KC ?_)));unfold setDrawn;refine Kx (Kx (dP ho hd hf ?_));dsimp only;unfold setsByText;refine Kx (Kx (MT (KC (KC ?_))));show wpAny _ _ (if (!w.params.followText "set-order"&&(!t.plain&&decide (es.size>1)))=true then _ else _) _ _ _
 split
 ·rename_i hc
  refine Kx ?_;refine gu es.size (List.range es.size) _ _ (by simp) fun ps d hpp=>?_;refine Kx ?_;unfold newTuple;refine LW ?_ (by
   show (List.map _ ps).toArray.size<=sizeLine;have:=hpp.length_eq;simp only[Oo] at this;refine aa Lu (aa (KE _) (aa Lf ?_));exact L3 [_,_,_] V2 (.n 16777216) 1 V0 (.n 1000) 1 V1 V0 1 V2 V1 rfl hz (eL QI) (eL this))
  have g0:∀ b x,s.heap.get? b=some x->(s.heap.push {cls:= .type "tuple",data:= .seq (ps.map fun(i:Nat)=>rawInt (i:Int)).toArray}).get? b=some x:=fun b x e=>KL _ e;refine Kx (wpAny_setEpoch_of (g0 _ _ ho) hd hf ?_);refine Kx (ra ?_);have g1:=La (s.heap.push {cls:= .type "tuple",data:= .seq (ps.map fun(i:Nat)=>rawInt (i:Int)).toArray}) (o:=cN (.ref s.heap.objs.size) 0 a es.size ep) rfl;refine KC ⟨_,rfl,?_⟩;obtain⟨T',r,h1,h2⟩:=hTI (s':=⟨_,s.gens,d,s.toks,s.os⟩) g1;refine⟨T',r,h1,h2,h es ep t (ps.map fun p=>((es[p]?).map (·.2)).getD .none) _ _ d ?_ QI ⟨⟨o,KL _ (g0 _ _ ho),hex.1,hd⟩,hf,?_,_,g1, .draw _ ps ?_ hpp rfl⟩ (fun b x e=>KL _ (g0 b x e)) ?_ ?_⟩
  ·refine(hpp.map _).trans (List.Perm.trans (.of_eq ?_) hp)
   refine List.ext_getElem (by simp) fun i h1 h2=>?_;have hi:i<es.size:=by simpa using h2
   simp[hi]
  ·have:=hpp.length_eq
   simpa using this
  ·exact⟨_,KL _ (La _ rfl),rfl,0,rfl⟩
  ·show _<((s.heap.push _).push _).objs.size
   simp only[LZ];exact LP _
  ·rw[LZ];exact MD _
 ·rename_i hc
  refine Kx (KC ?_);refine Kx (wpAny_setEpoch_of ho hd hf ?_);refine Kx (ra ?_);have g1:=La s.heap (o:=cN (rawInt 0) 0 a es.size ep) rfl;refine KC ⟨_,rfl,?_⟩;obtain⟨T',r,h1,h2⟩:=hTI (s':=⟨_,s.gens,s.drawn,s.toks,s.os⟩) g1;have fin:∀ vs:X8,vs.Perm (PN.map (·.2))->eU a es ep t (s.heap.push (cN (rawInt 0) 0 a es.size ep)) vs 0 (rawInt ((0:Nat):Int))->∃ T' r,Shared.TypeIs ⟨s.heap.push (cN (rawInt 0) 0 a es.size ep),s.gens,s.drawn,s.toks,s.os⟩ (.ref s.heap.objs.size) T'/\typeLookup (.type T') "__next__"=pure (some r)/\Q (.ref s.heap.objs.size) ⟨s.heap.push (cN (rawInt 0) 0 a es.size ep),s.gens,s.drawn,s.toks,s.os⟩:=fun vs hpv T4=>
   ⟨T',r,h1,h2,h es ep t vs _ _ s.drawn hpv QI ⟨⟨o,KL _ ho,hex.1,hd⟩,hf,(hpv.length_eq.trans (by simp[QI])),_,g1,T4⟩ (fun b x e=>KL _ e) (by refine aa (LZ _ _) ?_;exact LP _) (KZ _)⟩
  cases hb:w.params.followText "set-order" with
  |true=>exact fin _ (((mz _ _).map _).trans hp) (.text hb rfl)
  |false=>
   have Ug:(!t.plain&&decide (es.size>1))=false:=by
    rw[hb] at hc;simpa using hc
   refine fin _ hp (.slot 0 hb (Ri hb) VJ Ug rfl ?_);exact jJ (K0 _) (fun k hk=>absurd hk (LK _)) fun k _ _=>K0 _
theorem gh(hh:A.handled=none)(hz:es.size<=1000):
  ∀ (k i:Nat) (s:Shared) (c:Nat),es.size-i=k->i<=es.size->eV a es ep t vs I i s.heap->s.heap.get? S=some (lO (vs.take i) c)->
   (∀ h' c',h'.get? S=some (lO vs c')->(∀ b o,b≠I->b≠S->s.heap.get? b=some o->h'.get? b=some o)->R (.ok (.ret res)) {s with heap:=h'})->
   codeAny MP A (.builtin "list.extend.loop" ⟨[.ref S, .ref I,res],[]⟩) R s
 |0,i,s,c,hk,hi,x,hS,hR=>by
  have e:i=es.size:=sZ hk hi;subst e;refine Mv F.entry_extend_loop ?_;refine aa (LM OK _) ?_;show wpAny _ A.in1 (pyNext (.ref I)>>=_) _ _ s;have T9:S≠I:=by
   obtain⟨_,_,_,first,hI,_⟩:=x;rintro rfl;exact absurd (congrArg Obj.cls (Mq (hS.symm.trans hI))) (by show Value.type "list"≠Value.type "set_iterator";decide)
  refine Kx (eV.done (A:=A.in1) (by first|exact hh|(rw[show A.in1.handled=A.handled from rfl];exact hh)) x fun h' hk=>KC (hR h' c ?_ fun b o hb RX e=>hk b o hb e));have hl:vs.length=es.size:=x.2.2.1;rw[←hl,Lk] at hS;exact hk _ _ T9 hS
 |k+1,i,s,c,hk,hi,x,hS,hR=>by
  have PU:i<es.size:=sJ hk;refine Mv F.entry_extend_loop ?_;refine aa (LM OK _) ?_;show wpAny _ A.in1 (pyNext (.ref I)>>=_) _ _ s;have T9:S≠I:=by
   obtain⟨_,_,_,first,hI,_⟩:=x;rintro rfl;exact absurd (congrArg Obj.cls (Mq (hS.symm.trans hI))) (by show Value.type "list"≠Value.type "set_iterator";decide)
  refine Kx (x.item PU fun v h' hv x' Q3=>?_);have RW:=Q3.extBut _ _ T9 hS;have hl:vs.length=es.size:=x.2.2.1;show wpAny _ A.in1 (updateSeq S (·.push v)>>=_) _ _ _;refine Kx ?_;have Qf:(vs.take i).toArray.size<=1000:=by refine aa Lu (aa Mr ?_);exact L3 [_,_,_] V2 (.n 1000) 1 V0 (.n 1000) 1 V1 V0 1 V2 V1 rfl hz hi (OO _ _)
  have e2:(vs.take (i+1)).toArray=(vs.take i).toArray.push v:=by
   refine aa Mm (aa hv ?_);simp
  obtain⟨c',hg⟩:∃ c',(h'.update S (Obj.mapSeq (·.push v))).get? S=some (listOf ((vs.take i).toArray.push v) c'):=⟨_,Nm RW fun xs=>xs.push v⟩;rw[←e2] at hg;refine wpAny_updateSeq RW rfl (KC ⟨M4 OK _,gh hh hz k (i+1) _ c' (sP hk) PU (x'.upd RW rfl (Lm ..)) hg fun Sf c' h1 h2=>hR Sf c' h1 fun b o hb RX e=>h2 b o hb RX ((Heap.get?_update_other _ _ (MF RX)).trans (Q3.extBut _ _ hb e))⟩)
   (by refine aa Lf ?_;exact bd Qf) (by show ((vs.take i).toArray.push v).size<=sizeLine+1;refine aa (Array.size_push _) (aa Lf ?_);exact L1 [_] (.a V0 W1) (.a (.n 16777216) W1) 1 V0 (.n 1000) rfl Qf)
end
section
variable{A:Around}{E:X6}{s:Shared}{K:Type}[DecidableEq K][BEq K][LawfulBEq K]{knd:PySem.KeyKind PR w K}
theorem jj(hh:A.handled=none)(ho:s.heap.get? a=some o)(hS:ba knd o PN)(hz:PN.length<=1000)
  (h:∀ vs h' d,vs.Perm (PN.map (·.2))->(∀ b o,s.heap.get? b=some o->h'.get? b=some o)->Q vs {s with heap:=h',drawn:=d}):wpAny MP A (collect (.ref a)) Q E s:=by
 have QU:o.cls=.type "set":=hS.1.1;unfold collect;refine Kx (wpAny_runValue (Mv F.entry_proto_collect ?_));refine aa (LM F.plain_proto_collect _) ?_;show wpAny _ A.in1 (newList []>>=fun l=>again (.builtin "list.__iadd__" ⟨[l, .ref a],[]⟩)) _ _ s;refine Kx (LW ?_);refine KC ⟨M4 F.plain_list_iadd _,Mv F.entry_list_iadd ?_⟩;refine aa (LM F.plain_list_iadd _) ?_;have k0:∀ b x,s.heap.get? b=some x->(s.heap.push {cls:= .type "list",data:= .seq ([]:X8).toArray}).get? b=some x:=fun b x e=>KL _ e;have hT:∀ {s':Shared},s'.heap.get? a=some o->s'.TypeIs (.ref a) "set":=fun e=>⟨o,e,QU⟩;show wpAny _ A.in1 (Builtin.List.listExtendWith (.ref s.heap.objs.size) (.ref a) (.ref s.heap.objs.size)) _ _ _;unfold Builtin.List.listExtendWith;refine Kx (Oz (hT (k0 _ _ ho)) ?_);have P2:s.heap.objs.size≠a:=Mh (KO ho);have h1:Builtin.List.listSameRef (.ref s.heap.objs.size) (.ref a)=false:=by simp[Builtin.List.listSameRef,P2]
 have h2:(Value.type "set"==Value.type "list")=false:=by decide
 have h3:(Value.type "set"==Value.type "tuple")=false:=by decide
 refine aa (KM (by rw[h1,h2,h3];decide)) ?_;refine Kx (wD (k0 _ _ ho) hS hz fun es ep t vs I h' d hp hn x hk hI hI2=>?_);refine Kx (Li ?_);have Rr:h'.get? a=some o:=hk _ _ (k0 _ _ ho);unfold Builtin.List.listLengthHint;refine Kx (wpAny_specialOf (hT Rr) F.slot_set_len.lookup ?_);have hsp:splitId "set.__len__"=some ("set","__len__"):=by decide+kernel
 dsimp only;refine aa hsp ?_;dsimp only;refine Kx (ND (T:="set") (b:=true) (hT Rr) (by refine aa (NW _ _) ?_;kernel_rfl) ?_);refine aa (KM (by decide)) (aa (KW (by decide+kernel)) ?_);refine Kx (Oz (hT Rr) (KC ?_));refine aa (KW (by decide+kernel)) ?_;refine Kx (My ?_);have Xp:h'.get? s.heap.objs.size=some (listOf #[] 0):=hk _ _ (La _ rfl);refine Kx ?_;show wpAny _ A.in1 (updateSeq s.heap.objs.size (·.push .none)>>=fun _=>updateSeq s.heap.objs.size (·.pop)) _ _ _;refine Kx (wpAny_updateSeq Xp rfl ?_);obtain⟨c1,Xq⟩:∃ c',(h'.update s.heap.objs.size (Obj.mapSeq (·.push Value.none))).get? s.heap.objs.size=some (listOf #[Value.none] c'):=⟨_,Nm Xp fun xs=>xs.push Value.none⟩;refine wpAny_updateSeq Xq rfl ?_;obtain⟨c2,hS₃⟩:∃ c',((h'.update s.heap.objs.size (Obj.mapSeq (·.push Value.none))).update s.heap.objs.size (Obj.mapSeq (·.pop))).get? s.heap.objs.size=some (listOf #[] c'):=⟨_,Nm Xq fun xs=>xs.pop⟩;have x₃:=(x.upd Xp rfl (Lm _ _ (Obj.mapSeq (·.push Value.none)))).upd Xq rfl (Lm _ _ (Obj.mapSeq (·.pop)));refine KC ⟨M4 OK _,gh (vs:=vs) (I:=I) (es:=es) (ep:=ep) (t:=t) (a:=a) hh (q7 hz hn) _ 0 _ c2 rfl (K0 _) x₃ (by refine aa List.take_zero ?_;exact hS₃) fun Sf c' h1 h2=>?_⟩;show wpAny _ A (load s.heap.objs.size>>=_) _ _ _;refine Kx (wpAny_load h1 ?_);refine KC (h vs Sf d hp fun b o e=>?_);have hb:b≠s.heap.objs.size:=K6 (KO e);have QH:b≠I:=K6 (K9 (KO (k0 _ _ e)) hI2);refine h2 b o QH hb ?_;exact(Heap.get?_update_other _ _ (MF hb)).trans ((Heap.get?_update_other _ _ (MF hb)).trans (hk _ _ (k0 _ _ e)))
end
section
variable{A:Around}{E:X6}{s:Shared}{h₀:Heap}{L:Addr}{m:X5}{news:X4}{K:Type}[DecidableEq K][BEq K][LawfulBEq K]{knd:PySem.KeyKind PR w K}
theorem xa(F:Fr h₀ L s.heap m)(N:News h₀ L s.heap news)(X:Kf.In h₀)(hc:kdsCode Kf env.code=true)
  (he:starEach [e1, .Starred e2 p2] env=[(false,eval e1 env),(true,eval e2 env)])
  (h:∀ (D:Nat) h' o,ba knd o []->Fr h₀ L h' m->News h₀ L h' ((D,o)::news)->(∀ p∈news,p.1<D)->
   wpAny MP A (eval e1 env) (fun v s1=>wpAny MP A (setAdd D v) (fun _ s2=>wpAny MP A (eval e2 env) (fun x s3=>wpAny MP A (setDisplayStar D x) (fun _ s4=>Q (.ref D) s4) E s3) E s2) E s1) E {s with heap:=h'}):
  wpAny MP A (eval (.Set [e1, .Starred e2 p2] 0 pos) env) Q E s:=by
 refine aa (arm_eval_Set _ _ _ _) ?_;refine Kx (LF ?_);refine Kx (kds_main (X.keeps F.keep) hc fun b=>?_);refine aa he ?_;have hr:displayRoad 0 [e1, .Starred e2 p2]=.oneByOne:=rfl;refine aa hr ?_;unfold setDisplay;dsimp only[LA,OU];refine aa (KM (by decide)) ?_;refine Kx (wM (knd:=knd) fun o ho=>?_);dsimp only;have hof:o.isFreed=false:=by
  obtain⟨_,es,ep,t,hd,_⟩:=ho;obtain⟨c,d,dt,sl⟩:=o;dsimp only at hd;subst hd
  rfl
 have st:=h _ _ o ho (F.push o) (NU F N o hof) (fun p hp=>KO (N p hp).1);refine Kx (Li ?_);show wpAny _ _ (evalAll [(do let v←eval e1 env;standAt pos;pure v)]>>=_) _ _ _;unfold evalAll;refine Kx (Kx (Kx (K7 st (fun v s1 h1=>?_) fun _ _ e=>e)));refine Kx (LF (KC ?_));refine Kx (Li (KC (KC ?_)));refine Kx (Li ?_);simp only[Of,Os];refine Kx (Kx (Kx (K7 h1 (fun _ s2 h2=>?_) fun _ _ e=>e)));refine KC ?_;refine KC ?_;refine aa (KM (by decide)) ?_;refine KC ?_;show wpAny _ _ (forIn [(true,(do let v←eval e2 env;standAt pos;pure v))] PUnit.unit _>>=_) _ _ _;simp only[Of,Os];refine Kx (Kx (Kx (Kx (K7 h2 (fun x s3 h3=>?_) fun _ _ e=>e))));refine Kx (LF (KC ?_));simp only[if_true];refine Kx (Li (K7 h3 (fun _ s4 h4=>?_) fun _ _ e=>e));exact KC (KC (KC (KC h4)))
end
section
variable{A:Around}{E:X6}{s:Shared}{h₀:Heap}{L:Addr}{m:X5}{news:X4}{K:Type}[DecidableEq K][BEq K][LawfulBEq K]{knd:PySem.KeyKind PR w K}
theorem kG:entryFor table "set.update.loop"=some Builtin.«set.update.loop»:=OI (by kernel_rfl)
theorem lD:plainId "set.update.loop"=true:=by decide+kernel
theorem ss(hh:A.handled=none)(hD:s.heap.get? D=some o)(hS:ba knd o PN)(h1:PN.length<=1)
  (hd:s.heap.get? d=some (dictOf [] n)) (Rl:(d==sysModules)=false) (h:∀ h' tk,(∀ b x,s.heap.get? b=some x->h'.get? b=some x)->Q () {s with heap:=h',toks:=tk}):wpAny MP A (setDisplayStar D (.ref d)) Q E s:=by
 obtain⟨hex,es,ep,t,hdat,Uh,hp,hk,hf,VJ,Ri,Wi⟩:=hS;have QI:es.size=PN.length:=by have:=hp.length_eq;simpa using this
 have hT:s.TypeIs (.ref d) "dict":=⟨_,hd,rfl⟩;unfold setDisplayStar;dsimp only;refine Kx (ND (T:="dict") (b:=false) hT (by refine aa (NW _ _) ?_;kernel_rfl) ?_);refine aa (KM KP) ?_;refine Kx (ND (T:="dict") (b:=false) hT (by refine aa (NW _ _) ?_;kernel_rfl) ?_);refine Kx (MT ?_)
 cases hb:w.params.followText "set-display-star-reads-storage" with
 |true=>
  refine aa (show MP.w.params.followText "set-display-star-reads-storage"=true from hb) (aa (KW rfl) ?_);dsimp only;have hat:s.heap.DictAt knd d ([]:List (K×Value)) n:=⟨_,#[],hd,⟨rfl,rfl,rfl⟩,rfl,fun e he=>by simp at he, .nil,MC⟩;refine Kx (wpAny_pyIter_dict Rl hat ?_);refine Kx (wpAny_runValue (Mv kG ?_));refine aa (LM lD _) ?_;show wpAny _ A.in1 (pyNext (.ref s.heap.objs.size)>>=_) _ _ _;have W:=Walks.dictKeys (knd:=knd) (A:=A.in1) (by first|exact hh|(rw[show A.in1.handled=A.handled from rfl];exact hh)) s.heap.objs.size d (K6 (KO hd)) [] n;refine Kx (W.done _ _ _ ⟨⟨_,La _ rfl,rfl,rfl⟩,hat.at' fun o e=>KL _ e⟩ fun h' tk Qz=>?_);exact KC (KC (h _ _ fun b x e=>Qz b x (by simpa using K6 (KO e)) (KL _ e)))
 |false=>
  refine aa (show MP.w.params.followText "set-display-star-reads-storage"=false from hb) (aa (KM KP) ?_);dsimp only;refine aa (KM KP) ?_;refine Kx (Oz hT ?_);refine aa (KW (by decide)) ?_;refine Kx (My ?_);refine aa Rl (aa (KM KP) ?_);refine Kx (wpAny_dictEpoch hd rfl ?_);refine Kx (wpAny_dictEntries hd rfl ?_);unfold setRoomFor;refine Kx (Kx (dP hD hdat hf ?_));dsimp only;have hfill:t.fill=es.size:=by
   unfold SetTable.fits at hf;simp only[Nv,Mx] at hf;unfold SetTable.fill;refine aa hf.1 (aa VJ.dum ?_);rfl
  have P9:t.roomFor (#[]:Array DictEntry).size=none:=by
   unfold SetTable.roomFor;rw[KM];have:=Wi (q7 h1 QI);have e0:(#[]:Array DictEntry).size=0:=rfl;refine aa e0 (aa hfill ?_)
   lia
  refine aa (show ([]:List DictEntry).toArray=#[] from rfl) (aa P9 ?_);refine KC ?_;show wpAny _ _ (forIn [0:0] _ _>>=_) _ _ _;refine aa (Std.Legacy.Range.forIn_eq_forIn_range' _ _ _) ?_;show wpAny _ _ (forIn (List.range' 0 0 1) _ _>>=_) _ _ _;exact aa (show List.range' 0 0 1=[] from rfl) (aa Os (Kx (KC (KC (h _ _ fun _ _ e=>e)))))
theorem xF(F:Fr h₀ L s.heap m)(N:News h₀ L s.heap news)(U:UpdF sa so news g)(hS:ba knd so PN)(P9:PN.length+1<scanBound)
  (RE:knd.is k x=true) (VH:x.scannable=true) (Rk:¬k∈PN.map (·.1)) (h:∀ h' SL,Fr h₀ L h' m->News h₀ L h' (g SL)->ba knd SL (PN++[(k,x)])->Q true {s with heap:=h',toks:=s.toks+1}):
  wpAny MP A (setAdd sa x) Q E s:=by
 obtain⟨pre,post,rfl,hg,a,b⟩:=U.split;have hm:=N (sa,so) (Kz _ (.head _));unfold setAdd;refine Li (Kx (knd.pyHash RE ?_));refine pJ (s:={s with toks:=s.toks+1}) RE VH hm.1 hS P9 (fun q=>absurd q Rk) fun _ h' o' Q3 Rr RW=>?_;exact h h' o' (F.change Q3 hm.2.1 hm.2.2) (hg o'▸N.setIn a b Q3 Rr) RW
end
noncomputable def bE (a b c d:Str):Bool:=if a=c then decide (b.cps.toList<d.cps.toList) else decide (a.cps.toList<c.cps.toList)
section
variable{A:Around}{E:X6}{s:Shared}
theorem yr(hx:s.heap.get? x=some (listOf #[.str a t1, .str b t2] n1))(hy:s.heap.get? y=some (listOf #[.str c t3, .str d t4] n2))(P2:¬(a=c/\b=d))
  (h:R (.ok (.ret (.bool (bE a b c d)))) s):codeAny MP A (.builtin "list.__eq__.loop" ⟨[.ref x, .ref y,rawInt 0,rawInt 0],[]⟩) R s:=by
 refine Mv MeetsSeq3.entry_eq_loop ?_;refine aa (LM N9 _) ?_;unfold Builtin.«list.__eq__.loop»;show wpAny _ A.in1 (Builtin.List.listItems (.ref x)>>=_) _ _ s;refine Kx (MS hx rfl ?_);refine Kx (MS hy rfl ?_);show wpAny _ A.in1 (eqBool (.str a t1) (.str c t3)>>=_) _ _ s;refine Kx (wpAny_eqBool_str ?_)
 by_cases h1:a=c
 ·refine aa (KW (by simpa using h1)) ?_
  refine KC ⟨M4 N9 _,Mv MeetsSeq3.entry_eq_loop ?_⟩;refine aa (LM N9 _) ?_;unfold Builtin.«list.__eq__.loop»;show wpAny _ A.in1 (Builtin.List.listItems (.ref x)>>=_) _ _ s;refine Kx (MS hx rfl ?_);refine Kx (MS hy rfl ?_);show wpAny _ A.in1 (eqBool (.str b t2) (.str d t4)>>=_) _ _ s;refine Kx (wpAny_eqBool_str ?_);refine aa (KM (by simpa using fun q=>P2 ⟨h1,q⟩)) ?_;refine Kx (MS hx rfl ?_);refine Kx (MS hy rfl ?_);show wpAny _ A.in1 (richCompare .Lt (.str b t2) (.str d t4)>>=_) _ _ s;refine Kx (PyProof.Rows.lt_str (KC ?_));unfold bE at h;rw[KW h1] at h;exact h
 ·refine aa (KM (by simpa using h1)) ?_
  refine Kx (MS hx rfl ?_);refine Kx (MS hy rfl ?_);show wpAny _ A.in1 (richCompare .Lt (.str a t1) (.str c t3)>>=_) _ _ s;refine Kx (PyProof.Rows.lt_str (KC ?_));unfold bE at h;rw[KM h1] at h;exact h
theorem qm(hu:A.units<cLine)(hx:s.heap.get? x=some (listOf #[.str a t1, .str b t2] n1))(hy:s.heap.get? y=some (listOf #[.str c t3, .str d t4] n2))(P2:¬(a=c/\b=d))
  (h:Q (bE a b c d) s):wpAny MP A (keyLt' oneType' (.ref x) (.ref y)) Q E s:=by
 have hT:s.TypeIs (.ref x) "list":=⟨_,hx,rfl⟩;have hTy:s.TypeIs (.ref y) "list":=⟨_,hy,rfl⟩;refine aa (keyLt'_oneType _ _) (aa (oneLt'_eq _ _ _) ?_);refine aa (KW rfl) ?_;refine Kx (wpAny_cRoomFor hu ?_);refine Kx (wpAny_callSpecialIfBound?_slot hT F.slot_list_lt (OJ (OG F.slot_list_lt.plain F.entry_list_lt (F.slot_list_lt.check _ _ _ _ _ _ _ _ hT (F.args_list_lt_2 _ _) ?_))));show wpAny _ A.in1 (isInstance (.ref y) (.type "list")>>=_) _ _ s;refine Kx (ND (T:="list") (b:=true) hTy (by refine aa (NW _ _) ?_;kernel_rfl) ?_);refine KC ⟨M4 N9 _,yr hx hy P2 ?_⟩;exact wpAny_truthy_bool h
def qI(h₀:Heap)(L:Addr)(m:X5)(need:X4)(a b:Str)(PZ:Shared)(v:Value)(QS:Shared):Prop:=
 vR (fun(r:Nat) (h':Heap) (tk:Nat) (t u:Tok) (c:Nat)=>QS={PZ with heap:=h',toks:=tk}) (fun r _ _ _ _ _=>v=.ref r) (fun _ h' _ _ _ _=>Fr h₀ L h' m) (fun r h' _ t u c=>News h₀ L h' ((r,listOf #[.str a t, .str b u] c)::need)) (fun r _ _ _ _ _=>∀ p∈need,p.1≠r)
variable{h₀:Heap}{L:Addr}{m:X5}{news:X4}{P:PySem.Fin->Shared->Prop}
theorem r7(F:Fr h₀ L h' m)(N:News h₀ L h' ((r,listOf #[.str a t, .str b u] c)::need))(hr:∀ p∈need,p.1≠r):qI h₀ L m need a b PZ (.ref r) {PZ with heap:=h',toks:=tk}:=
 ⟨r,h',tk,t,u,c,rfl,rfl,F,N,hr⟩
def cP(A:Around)(h₀:Heap)(L:Addr)(m:X5)(news:X4)(f v:Value)(a b:Str)(g:Array GenState)(os:OsState):Prop:=
 ∀ (h:Heap) (tk:Nat) (d:Drawn) (own:X4),Fr h₀ L h m->News h₀ L h (own++news)->wpAny MP A (call f [v]) (qI h₀ L m (own++news) a b ⟨h,g,d,tk,os⟩) (fun _ _=>False) ⟨h,g,d,tk,os⟩
theorem xI{a kS:Addr}{kA:Array Value}{e e1:Nat}{st:SortSt}(F:Fr h₀ L s.heap m)(N:News h₀ L s.heap ((kS,listOf kA e)::(a,listOf #[] e1)::news))(TL:kS≠a)(UV:∀ p∈news,p.1≠kS)(Uq:∀ p∈news,p.1≠a)
  (hz1:kA.size<=100) (hz:(arrOf st).size<=100) (hf:failedOf st=none) (h:∀ h' c,Fr h₀ L h' m->News h₀ L h' ((a,listOf ((arrOf st).map (·.2)) c)::news)->P (.done (.ret .none)) {s with heap:=h'}):
  wpAny MP A (ksk_tail a false e1 (.ref kS) st) P E s:=by
 have nk:=N _ (.head _);have na:=N _ aJ;have s1:=Lm s.heap kS (Obj.mapSeq fun _=>(#[]:Array Value));have na1:(s.heap.update kS (Obj.mapSeq fun _=>(#[]:Array Value))).get? a=some (listOf #[] e1):=(s1.2 a TL.symm).trans na.1;have s2:=Lm (s.heap.update kS (Obj.mapSeq fun _=>(#[]:Array Value))) a (Obj.mapSeq fun _=>(arrOf st).map (·.2));obtain⟨c2,hc2⟩:∃ c2,((s.heap.update kS (Obj.mapSeq fun _=>(#[]:Array Value))).update a (Obj.mapSeq fun _=>(arrOf st).map (·.2))).get? a=some (listOf ((arrOf st).map (·.2)) c2):=by
  generalize (arrOf st).map (·.2)=X;exact⟨_,Nm na1 fun _=>X⟩
 unfold ksk_tail
 try dsimp only
 refine Kx (Oc nk.1 rfl ?_ (by refine aa Lf ?_;exact bd hz1) (K0 _));refine Kx (wpAny_letGo ?_);refine Kx (seqEpoch_at na1 rfl ?_);refine Kx (Oc na1 rfl ?_ (K0 _) (by show ((arrOf st).map (·.2)).size<=_;refine aa Array.size_map (aa Lf ?_);exact L1 [_] V0 (.a (.n 16777216) W1) 1 V0 (.n 100) rfl hz));refine aa hf ?_;simp only[bne_self_eq_false,Bool.false_eq_true,if_false];refine KC (h _ c2 (ksk_fr (ksk_fr F s1 nk.2.1 nk.2.2) s2 na.2.1 na.2.2) fun p hp=>?_);rcases KG.mp hp with rfl|hp
 ·exact⟨hc2,na.2⟩
 ·exact ksk_news (ksk_news (fun q hq=>N q (dj hq)) s1 UV) s2 Uq p hp
theorem oY{a:Addr}{vs:X8}{n:Nat}{f:Value}(F:Fr h₀ L s.heap m)(N:News h₀ L s.heap ((a,lO vs n)::news))(Uq:∀ p∈news,p.1<a)(hz:vs.length<=100)
  (h:∀ (kS:Nat) e1 h',a<kS->Fr h₀ L h' m->News h₀ L h' ((kS,listOf #[] 0)::(a,listOf #[] e1)::news)->wpAny MP A (ksk_rest a f false vs.toArray e1 (.ref kS)) P E {s with heap:=h'}):
  wpAny MP A (ksk_tree a f false) P E s:=by
 have hN:=N _ (.head _);have ho:=hN.1;have ha:a<s.heap.objs.size:=KO ho;have s1:=Lm s.heap a (Obj.mapSeq fun _=>(#[]:Array Value));obtain⟨e1,ho1⟩:∃ e1,(s.heap.update a (Obj.mapSeq fun _=>(#[]:Array Value))).get? a=some (listOf #[] e1):=⟨_,Nm ho fun _=>#[]⟩;have F1:=ksk_fr F s1 hN.2.1 hN.2.2;have N1:=ksk_news (fun p hp=>N p (.tail _ hp)) s1 fun p hp=>K6 (Uq p hp);unfold ksk_tree;refine Kx (MS ho rfl ?_);refine Kx (Oc ho rfl ?_ (by refine aa Lu (aa Lf ?_);exact bd hz) (K0 _));refine Kx (seqEpoch_at ho1 rfl ?_);refine Kx (wpAny_newTuple ?_ (by show vs.length<=_;refine aa Lf ?_;exact bd hz));refine Kx (wpAny_newList ?_ (K0 _));refine Li ?_;have F2:=F1.push {cls:= .type "tuple",data:= .seq vs.toArray.toList.toArray 0};have N2:=News.grown (h':=(s.heap.update a (Obj.mapSeq fun _=>(#[]:Array Value))).push {cls:= .type "tuple",data:= .seq vs.toArray.toList.toArray 0}) (show News h₀ L _ ((a,listOf #[] e1)::news) from fun p hp=>by
  rcases KG.mp hp with rfl|hp
  ·exact⟨ho1,hN.2⟩
  ·exact N1 p hp) fun b x e=>KL _ e
 refine h _ e1 _ ?_ (F2.push _) (NU F2 N2 (listOf #[] 0))
 (refine aa (LZ _ _) ?_;rw[Heap.size_update])
 exact LG ha
theorem r8(F:Fr h₀ L s.heap m)(N:News h₀ L s.heap (pre++(kS,listOf kA e)::post))(h1:∀ p∈pre,p.1≠kS)(h2:∀ p∈post,p.1≠kS)(hz:kA.size<=100)
  (h:∀ h' c,Fr h₀ L h' m->News h₀ L h' (pre++(kS,listOf (kA.push k) c)::post)->Q () {s with heap:=h'}):wpAny MP A (Builtin.List.listUpdate (.ref kS) (·.push k)) Q E s:=by
 have nk:=N (kS,listOf kA e) (Kz _ (.head _));have s1:=Lm s.heap kS (Obj.mapSeq (·.push k));obtain⟨c2,hc2⟩:∃ c2,(s.heap.update kS (Obj.mapSeq (·.push k))).get? kS=some (listOf (kA.push k) c2):=⟨_,Nm nk.1 (·.push k)⟩;refine Oc nk.1 rfl ?_ (by refine aa Lf ?_;exact bd hz) (KF (Md (Array.size_push ..)) (by refine aa Lf ?_;exact L1 [_] (.a V0 W1) (.a (.n 16777216) W1) 1 V0 (.n 100) rfl hz));exact h _ c2 (ksk_fr F s1 nk.2.1 nk.2.2) (news_set N h1 h2 s1 hc2)
theorem Ab{a kS:Nat}{e1:Nat}{f v:Value}{x y:Str}(F:Fr h₀ L s.heap m)(N:News h₀ L s.heap ((kS,listOf #[] 0)::(a,listOf #[] e1)::news))(TL:a<kS)(Uq:∀ p∈news,p.1<a)(turn:cP A h₀ L m news f v x y s.gens s.os)
  (h:∀ h' tk c,Fr h₀ L h' m->News h₀ L h' ((a,listOf #[v] c)::news)->P (.done (.ret .none)) {s with heap:=h',toks:=tk}):wpAny MP A (ksk_rest a f false #[v] e1 (.ref kS)) P E s:=by
 have UV:∀ p∈news,p.1≠kS:=fun p hp=>K6 (Mg (Uq p hp) TL);unfold ksk_rest;refine Kx (My ?_);refine ae Array.forIn_toList ?_;simp only[Of,Os];refine Kx (Kx (Kx (Nt (K7 (turn s.heap s.toks s.drawn [(kS,listOf #[] 0),(a,listOf #[] e1)] F N) (fun k Qh he=>?_) fun _ _ hF=>hF.elim))));obtain⟨r,h',tk,t,u,c,rfl,rfl,F',N',hr⟩:=he;refine Kx (r8 (pre:=[(r,listOf #[.str x t, .str y u] c)]) (post:=(a,listOf #[] e1)::news) (k:= .ref r) F' N' (fun p hp=>by refine aa (KD.mp hp) ?_;exact(hr _ (.head _)).symm) (fun p hp=>?_) (by show (0:Nat)<=100;decide) fun h2 c2 F2 N2=>?_)
 ·rcases KG.mp hp with rfl|hp
  ·exact K6 TL
  ·exact UV p hp
 have nk:=N2 (kS,listOf #[.ref r] c2) (by simp);refine KC (KC ?_);refine Kx (MS nk.1 rfl ?_);unfold ksk_end;dsimp only;refine aa (KM KP) (aa (KW (by show (1:Nat)<2;decide)) (aa (KW (by show (1:Nat)<2;decide)) ?_));refine Kx (KC ?_);refine aa (StateT.run_pure _ _) ?_;refine Kx (KC ?_);dsimp only;have WU:(#[Value.ref r]).zip #[v]=#[(Value.ref r,v)]:=by simp
 refine aa (KM KP) (aa WU ?_);refine xI (s:=⟨h2,s.gens,s.drawn,tk,s.os⟩) (P:=P) (st:=SortSt.mk' general' #[(Value.ref r,v)] #[] 7 none) F2 (fun p hp=>N2 p (.tail _ hp)) (Mh TL) UV (fun p hp=>K6 (Uq p hp)) (by show (1:Nat)<=100;decide) (by show (1:Nat)<=100;decide) rfl fun h3 c3 F3 N3=>?_;have e:(arrOf (SortSt.mk' general' #[(Value.ref r,v)] #[] 7 none)).map (·.2)=#[v]:=by show (#[(Value.ref r,v)]:Array Keyed).map (·.2)=_;simp
 rw[e] at N3;exact h h3 tk c3 F3 N3
noncomputable def bS(b:Bool)(v1 v2:Value):Array Value:=if b then #[v2,v1] else #[v1,v2]
theorem uy{a kS:Nat}{e1:Nat}{f v1 v2:Value}{x1 y1 x2 y2:Str}(hu:A.units<cLine)(F:Fr h₀ L s.heap m)(N:News h₀ L s.heap ((kS,listOf #[] 0)::(a,listOf #[] e1)::news))(TL:a<kS)(Uq:∀ p∈news,p.1<a)
  (YI:cP A h₀ L m news f v1 x1 y1 s.gens s.os) (YG:cP A h₀ L m news f v2 x2 y2 s.gens s.os) (P2:¬(x2=x1/\y2=y1))
  (h:∀ h' tk c,Fr h₀ L h' m->News h₀ L h' ((a,listOf (bS (bE x2 y2 x1 y1) v1 v2) c)::news)->P (.done (.ret .none)) {s with heap:=h',toks:=tk}):wpAny MP A (ksk_rest a f false #[v1,v2] e1 (.ref kS)) P E s:=by
 have UV:∀ p∈news,p.1≠kS:=fun p hp=>K6 (Mg (Uq p hp) TL);unfold ksk_rest;refine Kx (My ?_);refine ae Array.forIn_toList ?_;simp only[Of,Os];refine Kx (Kx (Kx (Nt (K7 (YI s.heap s.toks s.drawn [(kS,listOf #[] 0),(a,listOf #[] e1)] F N) (fun k Qh he=>?_) fun _ _ hF=>hF.elim))));obtain⟨r,h',tk,t,u,c,rfl,rfl,F',N',hr⟩:=he;refine Kx (r8 (pre:=[(r,listOf #[.str x1 t, .str y1 u] c)]) (post:=(a,listOf #[] e1)::news) (k:= .ref r) F' N' (fun p hp=>by refine aa (KD.mp hp) ?_;exact(hr _ (.head _)).symm) (fun p hp=>?_) (by show (0:Nat)<=100;decide) fun h2 c2 F2 N2=>?_)
 ·rcases KG.mp hp with rfl|hp
  ·exact K6 TL
  ·exact UV p hp
 refine KC ?_;dsimp only;refine Kx (Kx (Nt (K7 (YG h2 tk s.drawn [(r,listOf #[.str x1 t, .str y1 u] c),(kS,listOf (#[].push (.ref r)) c2),(a,listOf #[] e1)] F2 N2) (fun k Qh he=>?_) fun _ _ hF=>hF.elim)));obtain⟨r2,h3,tk3,t3,u3,c3,rfl,rfl,F3,N3,hr3⟩:=he;refine Kx (r8 (pre:=[(r2,listOf #[.str x2 t3, .str y2 u3] c3),(r,listOf #[.str x1 t, .str y1 u] c)]) (post:=(a,listOf #[] e1)::news) (k:= .ref r2) F3 N3 (fun p hp=>?_) (fun p hp=>?_) (by show (1:Nat)<=100;decide) fun h4 c4 F4 N4=>?_)
 ·rcases KG.mp hp with rfl|hp
  ·exact(hr3 _ aJ).symm
  ·exact aa (KD.mp hp) ((hr _ (.head _)).symm)
 ·rcases KG.mp hp with rfl|hp
  ·exact K6 TL
  ·exact UV p hp
 have nk:=N4 (kS,listOf ((#[].push (.ref r)).push (.ref r2)) c4) (by simp);have nr:=N4 (r,listOf #[.str x1 t, .str y1 u] c) (by simp);have nr2:=N4 (r2,listOf #[.str x2 t3, .str y2 u3] c3) (by simp);refine KC (KC ?_);refine Kx (MS nk.1 rfl ?_);unfold ksk_end;dsimp only;refine aa (KM KP) (aa (KM (by show¬(2:Nat)<2;decide)) (aa (KM (by show¬(2:Nat)<2;decide)) ?_));have hT:∀ (b:Nat) (o:Obj),h4.get? b=some o->o.cls=.type "list"->Looks MP h4 (typeOf (.ref b)) (Value.type "list"):=fun b o e hc=>by
  have this:Looks MP h4 (typeOf (.ref b)) o.cls:=(Looks.ld e).andThen .now;rw[hc] at this;exact this
 refine Kx (kas_kind (vs:=[.ref r, .ref r2]) (T:= .type "list") (by show (2:Nat)<=2;decide) (fun v hv=>?_) (by decide) (by decide) ?_)
 ·rcases KG.mp hv with rfl|hv
  ·exact hT _ _ nr.1 rfl
  ·refine aa (KD.mp hv) ?_;exact hT _ _ nr2.1 rfl
 have WU:((#[].push (Value.ref r)).push (Value.ref r2)).zip #[v1,v2]=#[(Value.ref r,v1),(Value.ref r2,v2)]:=by simp
 refine aa (KM KP) (aa WU ?_);have est:SortSt.mk' oneType' #[(Value.ref r,v1),(Value.ref r2,v2)] #[] 7 none=kas_st oneType' #[(Value.ref r,v1),(Value.ref r2,v2)] (List.toArray (List.range 2)):=by
  show _=SortSt.mk' oneType' ((List.toArray (List.range 2)).map (kas_item #[(Value.ref r,v1),(Value.ref r2,v2)])) #[] 7 none;exact aa (show (List.toArray (List.range 2)).map (kas_item #[(Value.ref r,v1),(Value.ref r2,v2)])=#[(Value.ref r,v1),(Value.ref r2,v2)] from kas_range #[(Value.ref r,v1),(Value.ref r2,v2)]) rfl
 refine aa est ?_;refine Kx (kas_runs (E:=E) (it:=#[(Value.ref r,v1),(Value.ref r2,v2)]) (n:=2) (Q:=fun _ VU s'=>wpAny MP A (ksk_tail a false e1 (.ref kS) VU) P E s') (G:=fun p s'=>s'=⟨h4,s.gens,s.drawn,tk3,s.os⟩/\p.map (fun i=>(kas_item #[(Value.ref r,v1),(Value.ref r2,v2)] i).2)=bS (bE x2 y2 x1 y1) v1 v2) (KZ 2) (by decide) ?_ ?_)
 ·rintro p' VU s' hp hst Qi ⟨rfl,Yw⟩
  have e2:(arrOf VU).map (·.2)=bS (bE x2 y2 x1 y1) v1 v2:=by
   exact aa hst (aa Array.map_map Yw)
  refine xI (st:=VU) (kA:=((#[]:Array Value).push (Value.ref r)).push (Value.ref r2)) F4 (fun p hp=>N4 p (dj hp)) (Mh TL) UV (fun p hp=>K6 (Uq p hp)) (by show (2:Nat)<=100;decide) (by refine aa hst (aa Array.size_map (aa hp ?_));decide) Qi fun h5 c5 F5 N5=>?_;rw[e2] at N5;exact h h5 tk3 c5 F5 N5
 ·show kas_cmp PR w A oneType' #[(Value.ref r,v1),(Value.ref r2,v2)] 1 0 _ _
  refine qm hu nr2.1 nr.1 P2 ?_;unfold bS
  cases bE x2 y2 x1 y1 with
  |true=>
   refine⟨rfl,?_⟩;have e01:(#[0,1]:Array Nat).swapIfInBounds 0 1=#[1,0]:=by decide
   simp[kas_rev,mirror,kas_item,show List.range 2=[0,1] from rfl,e01]
  |false=>
   refine⟨rfl,?_⟩;simp[kas_item,show List.range 2=[0,1] from rfl]
theorem oM{l1 l2:List Nat}(h:l1≠l2):decide (l1<l2)= !decide (l2<l1):=by
 by_cases q:l1<l2
 ·refine aa (KV q) (aa (KY (List.lt_asymm q)) ?_);rfl
 ·refine aa (KY q) ?_
  by_cases q2:l2<l1
  ·refine aa (KV q2) ?_;rfl
  ·exact absurd (List.le_antisymm (List.not_lt.mp q2) (List.not_lt.mp q)) h
theorem nF{a b:Str}(h:a≠b):a.cps.toList≠b.cps.toList:=fun e=>h (by cases a;cases b;exact congrArg Str.mk (Array.toList_inj.mp e))
theorem uD{a b c d:Str}(h:¬(a=c/\b=d)):bE c d a b= !bE a b c d:=by
 unfold bE
 by_cases q:a=c
 ·exact aa (KW q) (aa (KW q.symm) (oM (nF fun e=>h ⟨q,e.symm⟩)))
 ·exact aa (KM q) (aa (KM fun e=>q e.symm) (oM (nF fun e=>q e.symm)))
end
section
variable{A:Around}{E:X6}{s:Shared}{h₀:Heap}{L D:Addr}{m:X5}{news:X4}{Q:X6}{so:Obj}{K:Type}[DecidableEq K][BEq K][LawfulBEq K]{knd:PySem.KeyKind PR w K}
theorem lQ(hh:A.handled=none)(F:Fr h₀ L s.heap m)(N:News h₀ L s.heap news)(hm:(D,so)∈news)(hS:ba knd so PN)(hz:PN.length<=100)(ha1:argsOk "sorted" ⟨[.ref D],kw⟩)(ha2:∀ x,argsOk "list.sort" ⟨[.ref x],kw⟩)
  (h:∀ (vs:X8) h' d (a:Nat),vs.Perm (PN.map (·.2))->Fr h₀ L h' m->News h₀ L h' ((a,lO vs 0)::news)->(∀ p∈news,p.1<a)->
   wpAny MP A.in1.in1 (Builtin.«list.sort» ⟨[.ref a],kw⟩) (fun fin s'=>fin=.done (.ret .none)/\Q (.ref a) s') E {s with heap:=h',drawn:=d}):
  wpAny MP A (call (.builtin "sorted") [.ref D] kw) Q E s:=by
 refine call_function_entry_kw kind_sorted plain_sorted entry_sorted ha1 ?_;unfold Builtin.«sorted»;refine Kx (m:=checkCount "sorted" 1 1 _) (KC ?_);refine Kx (jj (A:=A.in1) (by first|exact hh|(rw[show A.in1.handled=A.handled from rfl];exact hh)) (N _ hm).1 hS (bd hz) fun vs h' d hp hk=>?_);have hl:vs.length=PN.length:=by have:=hp.length_eq;simpa using this
 refine Kx (wpAny_newList ?_ (by refine aa Lf ?_;exact L2 [_,_] V1 (.n 16777216) 1 V0 (.n 100) 1 V1 V0 rfl hz (eL hl)));have F1:Fr h₀ L h' m:=⟨F.ns.at' fun o e=>hk _ o e,fun b o e=>hk b o (F.keep b o e),F.above⟩;have N1:News h₀ L h' news:=fun p hp=>⟨hk _ _ (N p hp).1,(N p hp).2⟩;have st:=h vs _ d h'.objs.size hp (F1.push (lO vs 0)) (NU F1 N1 (lO vs 0)) (fun p hp=>KO (N1 p hp).1);refine Kx (Li (wpAny_call_entry_kw slot_list_sort ⟨_,La _ rfl,rfl⟩ OQ (K7 st (fun fin s' hq=>?_) fun _ _ e=>e) (ha2 _)));exact⟨.none,hq.1,KC ⟨_,rfl,hq.2⟩⟩
theorem qy(hh:A.handled=none)(F:Fr h₀ L s.heap m)(N:News h₀ L s.heap news)(hm:(D,so)∈news)(hS:ba knd so [(k,v)])(ht:∀ x,Builtin.«list.sort» ⟨[.ref x],[(Yc "key",f)]⟩=ksk_tree x f false)
  (turn:cP A.in1.in1 h₀ L m news f v x y s.gens s.os) (h:∀ (a:Nat) h' tk d c,Fr h₀ L h' m->News h₀ L h' ((a,listOf #[v] c)::news)->(∀ p∈news,p.1<a)->Q (.ref a) {s with heap:=h',toks:=tk,drawn:=d}):
  wpAny MP A (call (.builtin "sorted") [.ref D] [(Yc "key",f)]) Q E s:=by
 refine lQ hh F N hm hS (by show 1<=100;decide) (ksk_s1 _ _) (fun x=>ksk_l1 _ _) fun vs h' d a hp F' N' PU=>?_;have hv:vs=[v]:=List.perm_singleton.mp hp;subst hv;refine aa (ht _) ?_;exact oY F' N' PU (by show 1<=100;decide) fun kS e1 h2 hk F2 N2=>Ab F2 N2 hk PU turn fun h3 tk c F3 N3=>⟨rfl,h a h3 tk d c F3 N3 PU⟩
theorem qz(hh:A.handled=none)(hu:A.in1.in1.units<cLine)(F:Fr h₀ L s.heap m)(N:News h₀ L s.heap news)(hm:(D,so)∈news)(hS:ba knd so [(k1,v1),(k2,v2)])(ht:∀ x,Builtin.«list.sort» ⟨[.ref x],[(Yc "key",f)]⟩=ksk_tree x f false)
  (YI:cP A.in1.in1 h₀ L m news f v1 x1 y1 s.gens s.os) (YG:cP A.in1.in1 h₀ L m news f v2 x2 y2 s.gens s.os) (P2:¬(x2=x1/\y2=y1))
  (h:∀ (a:Nat) h' tk d c,Fr h₀ L h' m->News h₀ L h' ((a,listOf (bS (bE x2 y2 x1 y1) v1 v2) c)::news)->(∀ p∈news,p.1<a)->Q (.ref a) {s with heap:=h',toks:=tk,drawn:=d}):
  wpAny MP A (call (.builtin "sorted") [.ref D] [(Yc "key",f)]) Q E s:=by
 refine lQ hh F N hm hS (by show 2<=100;decide) (ksk_s1 _ _) (fun x=>ksk_l1 _ _) fun vs h' d a hp F' N' PU=>?_;have hv:=wS hp;refine aa (ht _) ?_;rcases hv with rfl|rfl
 ·exact oY F' N' PU (by show 2<=100;decide) fun kS e1 h2 hk F2 N2=>uy hu F2 N2 hk PU YI YG P2 fun h3 tk c F3 N3=>⟨rfl,h a h3 tk d c F3 N3 PU⟩
 ·refine oY F' N' PU (by show 2<=100;decide) fun kS e1 h2 hk F2 N2=>uy hu F2 N2 hk PU YG YI (fun q=>P2 ⟨q.1.symm,q.2.symm⟩) fun h3 tk c F3 N3=>⟨rfl,h a h3 tk d c F3 ?_ PU⟩
  have e:bS (bE x1 y1 x2 y2) v2 v1=bS (bE x2 y2 x1 y1) v1 v2:=by
   refine aa (uD P2) ?_;unfold bS
   cases bE x2 y2 x1 y1<;>rfl
  refine ae e ?_;exact N3
end
section
variable{A:Around}{E:X6}{s:Shared}{h₀:Heap}{L a:Addr}{m:X5}{news:X4}{Q:X6}
theorem pL(F:Fr h₀ L s.heap m)(N:News h₀ L s.heap news)(U:UpdF a (listOf #[v] n) news g)
  (h:∀ h' c,Fr h₀ L h' m->News h₀ L h' (g (listOf #[v] c))->Q .none {s with heap:=h'}):wpAny MP A (call (.builtin "list.sort") [.ref a]) Q E s:=by
 obtain⟨pre,post,rfl,hg,h1,h2⟩:=U.split;have hm:=N (a,listOf #[v] n) (Kz _ (.head _));have ho:=hm.1;refine LQ slot_list_sort ⟨_,ho,rfl⟩ OQ ?_ (args_list_sort _);refine aa (list_sort_plain _) ?_;have s1:=Lm s.heap a (Obj.mapSeq fun _=>(#[]:Array Value));obtain⟨e1,ho1⟩:∃ e1,(s.heap.update a (Obj.mapSeq fun _=>(#[]:Array Value))).get? a=some (listOf #[] e1):=⟨_,Nm ho fun _=>#[]⟩;have F1:=F.change s1 hm.2.1 hm.2.2;have N1:=N.setIn h1 h2 s1 ho1;refine Kx (MS ho rfl ?_);refine Kx (Oc ho rfl ?_ (by show (1:Nat)<=sizeLine;refine aa Lf ?_;decide) (K0 _));refine Kx (seqEpoch_at ho1 rfl ?_);refine Kx (wpAny_newTuple ?_ (by show (1:Nat)<=sizeLine;refine aa Lf ?_;decide));refine Kx (wpAny_newList ?_ (K0 _));refine Li ?_;refine aa (KW (by show (1:Nat)<2;decide)) (aa (KW (by show (1:Nat)<2;decide)) ?_);refine Kx (KC ?_);dsimp only;refine aa (StateT.run_pure _ _) ?_;refine Kx (KC ?_);dsimp only;have ks:∀ b x,(s.heap.update a (Obj.mapSeq fun _=>(#[]:Array Value))).get? b=some x->(((s.heap.update a (Obj.mapSeq fun _=>(#[]:Array Value))).push {cls:= .type "tuple",data:= .seq #[v].toList.toArray 0}).push (listOf #[] 0)).get? b=some x:=fun b x e=>KL _ (KL _ e);have F2:=(F1.push {cls:= .type "tuple",data:= .seq #[v].toList.toArray 0}).push (listOf #[] 0);have N2:=News.grown N1 ks;have Tk:=N2 (a,listOf #[] e1) (Kz _ (.head _));have s2:=Lm (((s.heap.update a (Obj.mapSeq fun _=>(#[]:Array Value))).push {cls:= .type "tuple",data:= .seq #[v].toList.toArray 0}).push (listOf #[] 0)) a (Obj.mapSeq fun _=>(#[v]:Array Value));obtain⟨e2,ho2⟩:∃ e2,((((s.heap.update a (Obj.mapSeq fun _=>(#[]:Array Value))).push {cls:= .type "tuple",data:= .seq #[v].toList.toArray 0}).push (listOf #[] 0)).update a (Obj.mapSeq fun _=>(#[v]:Array Value))).get? a=some (listOf #[v] e2):=⟨_,Nm Tk.1 fun _=>#[v]⟩;refine Kx (seqEpoch_at Tk.1 rfl ?_);have esz:(arrOf (SortSt.mk' general' ((#[v]:Array Value).zip #[v]) #[] 7 none)).map (·.2)=#[v]:=by show ((#[v]:Array Value).zip #[v]).map (·.2)=_;simp
 refine aa esz ?_;refine Kx (Oc Tk.1 rfl ?_ (K0 _) (by show (1:Nat)<=sizeLine+1;refine aa Lf ?_;decide));simp only[bne_self_eq_false,Bool.false_eq_true,if_false];exact KC ⟨_,rfl,h _ e2 (F2.change s2 Tk.2.1 Tk.2.2) (by refine aa (hg _) ?_;exact N2.setIn h1 h2 s2 ho2)⟩
theorem xc{x y:Nat}{p1 q1 p2 q2:Str}{t1 u1 t2 u2:Tok}{n n1 n2:Nat}{pre post:X4}(F:Fr h₀ L s.heap m)(N:News h₀ L s.heap (pre++(a,listOf #[.ref x, .ref y] n)::post))(QW:∀ p∈pre++post,p.1≠a)
  (hx:(x,bl (.str p1 t1) (.str q1 u1) n1)∈pre++post) (hy:(y,bl (.str p2 t2) (.str q2 u2) n2)∈pre++post) (P2:p1≠p2)
  (h:∀ h' c,Fr h₀ L h' m->News h₀ L h' (pre++(a,listOf (bS (decide (p2.cps.toList<p1.cps.toList)) (.ref x) (.ref y)) c)::post)->Q .none {s with heap:=h'}):wpAny MP A (call (.builtin "list.sort") [.ref a]) Q E s:=by
 have hm:=N (a,listOf #[.ref x, .ref y] n) (Kz _ (.head _));have N0:News h₀ L s.heap (pre++post):=fun p hp=>N p (by
  rcases KK.mp hp with hp|hp
  ·exact Ky _ hp
  ·exact Kz _ (.tail _ hp))
 refine LQ slot_list_sort ⟨_,hm.1,rfl⟩ OQ ?_ (args_list_sort _);refine kat_list_sort (vs:=[.ref x, .ref y]) F N0 hm.1 hm.2.1 hm.2.2 QW (by show (2:Nat)<=2;decide) (by show (2:Nat)<64;decide) fun e1 h' F' N'=>?_;have gx:=(N' _ (.tail _ hx)).1;have gy:=(N' _ (.tail _ hy)).1;refine kat_kind (fs:=[.str p1 t1, .str p2 t2]) (T:= .type "str") (KatTups.cons gx rfl rfl rfl (KatTups.cons gy rfl rfl rfl KatTups.nil)) (by show 0<2;decide) (fun v hv=>?_) (by decide) ?_
 ·rcases KG.mp hv with rfl|hv
  ·exact .now
  ·refine aa (KD.mp hv) ?_;exact .now
 show kas_ask PR w A.in1 _ [.ref x, .ref y] 1 0 _ _;refine kat_lt gy rfl gx rfl ?_;refine kat_cons (wpAny_eqBool_str ?_);have hd:decide (p2=p1)=false:=KY fun e=>P2 e.symm;have hb:(p2==p1)=false:=LL.mpr fun e=>P2 e.symm;simp only[hd];refine kat_no ?_;refine aa (show ((Value.type "str" !=Value.type "tuple")&&(0:Nat)==0)=true from by decide) ?_;refine oneLt_str ?_;have U:UpdF a (seqObj "list" #[] e1) ((a,seqObj "list" #[] e1)::(pre++post)) (fun o'=>(a,o')::(pre++post)):= .head QW;have fin:∀ (b:Bool) (out:X8),List.toArray out=bS b (.ref x) (.ref y)->KasFin h₀ L m a e1 out (fun s3=>(fun fin s'=>∃ v,fin=PySem.Fin.done (.ret v)/\Q v s') (.done (.ret .none)) s3) {s with heap:=h'}∨¬b=decide (p2.cps.toList<p1.cps.toList):=fun b out e=>by
  by_cases hb:b=decide (p2.cps.toList<p1.cps.toList)
  ·left
   subst hb;refine KasFin.intro F' N' U fun h2 c F2 N2=>⟨_,rfl,h h2 c F2 ?_⟩;rw[e] at N2;exact gk N2 Ld.symm
  ·exact .inr hb
 cases hb:decide (p2.cps.toList<p1.cps.toList) with
 |true=>
  refine(fin true _ ?_).resolve_right (fun q=>q hb.symm);have e01:(#[0,1]:Array Nat).swapIfInBounds 0 1=#[1,0]:=by decide
  simp[kas_rev,mirror,List.range,List.range.loop,e01,bS]
 |false=>
  refine(fin false _ ?_).resolve_right (fun q=>q hb.symm);simp[List.range,List.range.loop,bS]
end
structure Fx where
 A₀:Around
 base:Heap
 k:Nat
 dp:Nat
 un:Nat
 gd:Option (List Code)
 cn:Str
 cs:Scope
 L:Addr
 a:Addr
 ccd:Value
 cl:List (Str×Addr)
 outer:List Env
 h₀:Heap
 os:OsState
 g₀:Array GenState
noncomputable def Fx.env (c:Fx):Env:=envX c.cn c.cs c.L c.a c.ccd c.cl
noncomputable def Fx.A (c:Fx):Around:=ktrTop c.dp c.un c.gd c.cn c.cs c.L c.a c.ccd c.cl c.outer
def Fx.Gp(c:Fx)(g:Array GenState):Prop:=AllBare g/\(c.k=0->g=c.g₀)
structure ax(c:Fx)(s:Shared)(m:X5)(n:X4):Prop where
 B:Below c.A₀ c.base c.outer c.h₀
 X:(am w.params).In c.h₀
 T:rv (fun Qt mg mb=>TT Qt mg mb c.h₀)
 hk:c.cs.kind=.function
 hd:c.dp+c.k<recursionLimit
 hu:c.un+20*c.k<cLine
 F:Fr c.h₀ c.L s.heap m
 N:News c.h₀ c.L s.heap n
 D:aw n
 G:c.Gp s.gens
 O:s.os=c.os
theorem wrap{P:Prop}(h:P):P:=h
abbrev Br(b:Bool)(P Q:Prop):Prop:=match b with|true=>P|false=>Q
abbrev ad(α:Type):=α->X5->X4->Prop
structure Tr{α:Type}(c:Fx)(E:X6)(m:X5)(n:X4)(p:Sem α)(K:ad α):Prop where
 go:∀ s,ax c s m n->wpAny MP c.A p (fun v s'=>bG (fun m' n'=>ax c s' m' n') (fun m' n'=>K v m' n')) E s
section
variable{c:Fx}{E:X6}{m:X5}{n:X4}{α β:Type}
theorem ax.to(l:ax c s m n)(F:Fr c.h₀ c.L s'.heap m')(N:News c.h₀ c.L s'.heap n')(D:aw n')(G:c.Gp s'.gens)(O:s'.os=s.os):ax c s' m' n':=
 ⟨l.B,l.X,l.T,l.hk,l.hd,l.hu,F,N,D,G,O.trans l.O⟩
theorem ax.push(l:ax c s m n)(o:Obj)(ho:o.isFreed=false:=by rfl):ax c {s with heap:=s.heap.push o} m ((s.heap.objs.size,o)::n):=
 l.to (l.F.push o) (NU l.F l.N o ho) (l.D.fresh fun p hp=>KO (l.N p hp).1) l.G rfl
theorem ax.tok(l:ax c s m n):ax c {s with toks:=tk} m n:=l.to l.F l.N l.D l.G rfl
theorem ax.perm(l:ax c s m n)(p:n.Perm n'):ax c s m n':=l.to l.F (gk l.N p) (l.D.perm p) l.G rfl
theorem ax.sub(l:ax c s m n)(h:n'.Sublist n):ax c s m n':=l.to l.F (fun p hp=>l.N p (h.subset hp)) (List.Nodup.sublist (h.map _) l.D) l.G rfl
theorem Tr.mono{p:Sem α}{K K':ad α}(h:Tr c E m n p K)(k:∀ v m n,K v m n->K' v m n):Tr c E m n p K':=
 .mk fun s l=>K7 (h.go s l) (fun _ _ ⟨m',n',l',q⟩=>⟨m',n',l',k _ _ _ q⟩) fun _ _ e=>e
theorem GH{p:Sem α}{K K₁:ad α}(h:∀ T5:ad α,(∀ v m n,K₁ v m n->T5 v m n)->Tr c E m n p T5)(k:∀ v m n,K₁ v m n->K v m n):Tr c E m n p K:=Tr.mono (h K₁ fun _ _ _ x=>x) k
theorem Kl{v:α}{K:ad α}(h:K v m n):Tr c E m n (Pure.pure v) K:= .mk fun _ l=>KC ⟨m,n,l,h⟩
theorem IU{p:Sem α}{f:α->Sem β}{K:ad β}(h:Tr c E m n p fun v m n=>Tr c E m n (f v) K):Tr c E m n (p>>=f) K:=
 .mk fun s l=>Kx (K7 (h.go s l) (fun _ s' ⟨_,_,l',q⟩=>q.go s' l') fun _ _ e=>e)
theorem GW{p:Sem α}{K:ad α}{n':X4}(h:n'.Sublist n)(k:Tr c E m n' p K):Tr c E m n p K:= .mk fun s l=>k.go s (l.sub h)
theorem Gd{p:Sem α}{K:ad α}{n':X4}(h:n.Perm n')(k:Tr c E m n' p K):Tr c E m n p K:= .mk fun s l=>k.go s (l.perm h)
theorem F0{p:Sem α}{K:ad α}{s:Shared}{Q:α->Shared->Prop}(l:ax c s m n)(h:Tr c E m n p K)(k:∀ v s' m' n',ax c s' m' n'->K v m' n'->Q v s'):wpAny MP c.A p Q E s:=
 K7 (h.go s l) (fun _ _ ⟨_,_,l',q⟩=>k _ _ _ _ l' q) fun _ _ e=>e
theorem up{p:Sem α}{K:ad α}{s:Shared}{Q:α->Shared->Prop}(h:wpAny MP c.A p (fun v s'=>bG (fun m' n'=>ax c s' m' n') (fun m' n'=>K v m' n')) E s)(k:∀ v s',(bG (fun m' n'=>ax c s' m' n') (fun m' n'=>K v m' n'))->Q v s'):wpAny MP c.A p Q E s:=
 K7 h (fun _ _ q=>k _ _ q) fun _ _ e=>e
theorem c6{p:Sem α}{K:ad α}{s:Shared}{Q:α->Shared->Prop}(h:wpAny MP c.A p (fun v s'=>bG (fun m' n'=>ax c s' m' n') (fun m' n'=>K v m' n')) E s)(k:∀ v s' m' n',ax c s' m' n'->K v m' n'->Q v s'):wpAny MP c.A p Q E s:=
 K7 h (fun v s' h=>h.casesOn fun m' n' l q=>k v s' m' n' l q) fun _ _ e=>e
abbrev kT(c:Fx)(E:X6)(f:α->Sem β)(J:ad β):ad α:=fun v m n=>Tr c E m n (f v) J
abbrev kE(c:Fx)(E:X6)(e:X7)(env:Env)(f:α->Value->Sem β)(J:ad β):ad α:=fun x m n=>Tr c E m n (eval e env) (kT c E (f x) J)
abbrev kS(c:Fx)(E:X6)(r:Yb)(env:Env)(K:ad Flow):ad α:=fun _ m n=>Tr c E m n (execs r env) K
abbrev kA(c:Fx)(E:X6)(x:Str)(r:Yb)(K:ad Flow):ad Value:=fun v m n=>Tr c E (fun y=>if y=x then some v else m y) n (execs r c.env) K
abbrev kR(K:ad Flow):ad Value:=fun v m n=>K (.ret v) m n
abbrev kB(c:Fx)(E:X6)(r₁ SK:Yb)(env:Env)(K:ad Flow):ad Bool:=fun b m n=>Br b (Tr c E m n (execs r₁ env) K) (Tr c E m n (execs SK env) K)
abbrev kX(c:Fx)(E:X6)(a b:X7)(env:Env)(J:ad Value):ad Bool:=fun x m n=>Br x (Tr c E m n (eval a env) J) (Tr c E m n (eval b env) J)
abbrev kC(v:Value)(K:ad X8):ad X8:=fun vs m n=>K (v::vs) m n
abbrev kV(c:Fx)(E:X6)(p:Pos)(r:List X7)(env:Env)(K:ad X8):ad Value:=fun v m n=>Tr c E m n (spliced (backTo p (starEach r env))) (kC v K)
abbrev kM(c:Fx)(E:X6)(name:Str)(pl:Sem Bool)(p:Pos)(as:List X7)(env:Env)(J:ad Value):ad Value:=fun ov m n=>Tr c E m n (getMethod ov name pl) (kT c E (fun fx=>callWith p fx.1 fx.2 (backTo p (starEach as env)) []) J)
def Sq(c:Fx)(E:X6)(r:Yb)(env:Env)(K:ad Flow):ad Flow:=fun f m n=>match f with| .next=>Tr c E m n (execs r env) K|f=>K f m n
variable{K:ad Flow}{e:X7}{r:Yb}{env:Env}
theorem Gu{st:Stmt}(h:Tr c E m n (exec st env) (Sq c E r env K)):Tr c E m n (execs (st::r) env) K:= .mk fun s l=>
 Lp (F0 l h fun f s' m' n' l' q=>by cases f<;>first|exact Tr.go q s' l'|exact⟨m',n',l',q⟩)
theorem F6(h:K .next m n):Tr c E m n (execs [] env) K:= .mk fun _ l=>wpAny_execs_nil ⟨m,n,l,h⟩
theorem GM(h:Tr c E m n (eval e env) (kR K)):Tr c E m n (execs (.Return (some e) p::r) env) K:= .mk fun s l=>
 Lp (wpAny_Return_some (h.go s l))
theorem IY(h:K (.ret .none) m n):Tr c E m n (execs (.Return none p::r) env) K:= .mk fun _ l=>Lp (wpAny_Return_none ⟨m,n,l,h⟩)
theorem Ge(h:Tr c E m n (eval e env) (kS c E r env K))(hi:interactive env=false:=by rfl)(hs:swapsWith e none p.line env=Pure.pure false:=by rfl):Tr c E m n (execs (.Expr e p::r) env) K:= .mk fun s l=>
 Lp (wpAny_Expr_any (F0 l h fun _ s' _ _ l' q=>q.go s' l') hi hs)
theorem Gk{p:Pos}{t:X7}{Xm Xn:Yb}(h:Tr c E m n (isTrue t env (eval t env)) (kB c E Xm Xn env (Sq c E r env K))):
  Tr c E m n (execs (.If t Xm Xn p::r) env) K:=Gu<| .mk fun s l=>wpAny_If (F0 l h fun b s' _ _ l' q=>by
   cases b
   ·exact q.go s' l'
   ·exact q.go s' l')
theorem GV{p:Pos}{t:X7}{Xm Xn:Yb}(h:Tr c E m n (isTrue t env (eval t env)) (kB c E Xm Xn env K)):
  Tr c E m n (exec (.If t Xm Xn p) env) K:= .mk fun s l=>wpAny_If (F0 l h fun b s' _ _ l' q=>by
   cases b
   ·exact q.go s' l'
   ·exact q.go s' l')
theorem JI{x:Str}{v:Value}{K:ad Unit}(h:K () (fun y=>if y=x then some v else m y) n)(hx:c.env.kindOf x=some .local):Tr c E m n (storeName c.env x v) K:= .mk fun _ l=>
 storeX_L l.F l.N (fun _ F' N'=>⟨_,_,l.to F' N' l.D l.G rfl,h⟩) l.hk hx
theorem Gf(h:Tr c E m n (eval e c.env) (kA c E x r K))(hx:c.env.kindOf x=some .local:=by rfl)(hs:swapsWith e (some (.Name x p')) p.line c.env=Pure.pure false:=by rfl):
  Tr c E m n (execs (.Assign [.Name x p'] e p::r) c.env) K:= .mk fun s l=>
 Lp (Pc (F0 l h fun _ s' _ _ l' q=>storeX_L l'.F l'.N (fun _ F' N'=>q.go _ (l'.to F' N' l'.D l'.G rfl)) l'.hk hx) hs)
variable{J:ad Value}
theorem FX(hv:m x=some v)(h:J v m n)(hx:c.env.kindOf x=some .local:=by rfl)(hd:(x==("__debug__":Str))=false:=by decide):Tr c E m n (eval (.Name x p) c.env) J:= .mk fun _ l=>
 nameX_L l.F hv ⟨m,n,l,h⟩ l.hk hx hd
theorem GJ(hc:c.cl.lookup x=some a)(hm:(a,o)∈n)(hd:o.data=.cell (some v))(h:J v m n)(hx:c.env.kindOf x=some .cell:=by rfl)(hb:(x==("__debug__":Str))=false:=by decide):Tr c E m n (eval (.Name x p) c.env) J:= .mk fun _ l=>
 nameX_C l.N hc hm hd ⟨m,n,l,h⟩ l.hk hx hb
theorem Gz(e:nsIn (am w.params) mainGlobals x=some (some v))(h:J v m n)(hx:c.env.kindOf x=some .globalImplicit:=by rfl)(hd:(x==("__debug__":Str))=false:=by decide):Tr c E m n (eval (.Name x p) c.env) J:= .mk fun _ l=>
 let ⟨_,_,_,t⟩:=l.T;nameX_K l.F l.X (topRead_of t) e ⟨m,n,l,h⟩ l.hk hx hd
theorem HK(e:nsIn (am w.params) mainGlobals x=some none)(hv:bootBuiltins x=some v)(hn:x≠"__name__")(h:J v m n)(hx:c.env.kindOf x=some .globalImplicit:=by rfl)(hd:(x==("__debug__":Str))=false:=by decide):Tr c E m n (eval (.Name x p) c.env) J:= .mk fun _ l=>
 let ⟨_,_,_,t⟩:=l.T;nameX_B l.F l.X (topRead_of t) e hv hn ⟨m,n,l,h⟩ l.hk hx hd
theorem Gw(h:J .none m n):Tr c E m n (eval (.Constant .none k p) env) J:= .mk fun _ l=>wpAny_Constant_none ⟨m,n,l,h⟩
theorem HA(h:J (.bool b) m n):Tr c E m n (eval (.Constant (.bool b) k p) env) J:= .mk fun _ l=>wpAny_Constant_bool ⟨m,n,l,h⟩
theorem Gc(h:∀ t,J (.str x t) m n):Tr c E m n (eval (.Constant (.str x) k p) env) J:= .mk fun _ l=>wpAny_Constant_str ⟨m,n,l.tok,h _⟩
theorem F7(h:∀ t,J (.int i t) m n):Tr c E m n (eval (.Constant (.int i) k p) env) J:= .mk fun _ l=>Nd ⟨m,n,l.tok,h _⟩
theorem IB(h:Tr c E m n (eval a env) (kE c E b env (compareOp op) J))(hm:behindInMarks op b=false:=by with_unfolding_all rfl):Tr c E m n (eval (.Compare a [op] [b] p) env) J:= .mk fun s l=>
 wpAny_Compare1 (F0 l h fun _ s' _ _ l' q=>F0 l' q fun _ s' _ _ l' q=>q.go s' l') hm
theorem F8(h:Tr c E m n (eval a env) (kE c E b env (binaryOp op) J)):Tr c E m n (eval (.BinOp a op b p) env) J:= .mk fun s l=>
 wpAny_BinOp (F0 l h fun _ s' _ _ l' q=>F0 l' q fun _ s' _ _ l' q=>q.go s' l')
theorem Hb{t a b:X7}{p:Pos}(h:Tr c E m n (isTrue t env (eval t env)) (kX c E a b env J)):Tr c E m n (eval (.IfExp t a b p) env) J:= .mk fun s l=>
 wpAny_IfExp (F0 l h fun x s' _ _ l' q=>by
  cases x
  ·exact q.go s' l'
  ·exact q.go s' l')
theorem HZ(h:Tr c E m n (eval o env) (kT c E (fun v=>getAttr v x true) J))
  (he:eval (.Attribute o x p) env=(do
   let v←eval o env
   standAt p.atName
   let y←holding [v] (getAttr v x true)
   letTemporaryGo o v y
   Pure.pure y):=by with_unfolding_all rfl):Tr c E m n (eval (.Attribute o x p) env) J:= .mk fun s l=>
 Attribute_any_ (F0 l h fun _ s' _ _ l' q=>q.go s' l') he
theorem Gg(h:Tr c E m n (eval o env) (kE c E i env (subscriptTail o i) J)):Tr c E m n (eval (.Subscript o i p) env) J:= .mk fun s l=>
 Subscript_ (F0 l h fun _ s' _ _ l' q=>F0 l' q fun _ s' _ _ l' q=>q.go s' l')
variable{B:ad Bool}
theorem Gn(h:Tr c E m n Tz (kT c E truthy B))(he:isTrue e env Tz=(do let v←Tz;standAt e.pos;holding [v] (truthy v)):=by rfl):Tr c E m n (isTrue e env Tz) B:= .mk fun s l=>
 wpAny_isTrue_value (F0 l h fun _ s' _ _ l' q=>q.go s' l') he
theorem Gb(h:Tr c E m n (eval a env) (kE c E b env (compareOp op) (kT c E truthy B)))(hm:behindInMarks op b=false:=by with_unfolding_all rfl):
  Tr c E m n (isTrue (.Compare a [op] [b] p) env Tz) B:= .mk fun s l=>
 wpAny_isTrue_Compare1 (F0 l h fun _ s' _ _ l' q=>F0 l' q fun _ s' _ _ l' q=>F0 l' q fun _ s' _ _ l' q=>q.go s' l') hm
theorem H9(h:Tr c E m n (isTrue a env (eval a env)) fun b m n=>B (!b) m n):Tr c E m n (isTrue (.UnaryOp .Not a p) env Tz) B:= .mk fun s l=>wpAny_isTrue_Not (h.go s l)
theorem GR(h:Tr c E m n (allTrue op xs env) B):Tr c E m n (isTrue (.BoolOp op xs p) env Tz) B:= .mk fun s l=>wpAny_isTrue_BoolOp (h.go s l)
theorem He(h:B true m n):Tr c E m n (allTrue .And [] env) B:= .mk fun _ l=>wpAny_allTrue_And_nil ⟨m,n,l,h⟩
theorem Gy{x:X7}{xs:List X7}(h:Tr c E m n (isTrue x env (eval x env)) fun b m n=>Br b (Tr c E m n (allTrue .And xs env) B) (B false m n)):Tr c E m n (allTrue .And (x::xs) env) B:= .mk fun s l=>
 wpAny_allTrue_And_cons (F0 l h fun b s' m' n' l' q=>by
  cases b
  ·exact⟨m',n',l',q⟩
  ·exact q.go s' l')
theorem F9(h:B b m n):Tr c E m n (truthy (.bool b)) B:= .mk fun _ l=>wpAny_truthy_bool ⟨m,n,l,h⟩
theorem Hq(h:B false m n):Tr c E m n (truthy .none) B:= .mk fun _ l=>truthy_none ⟨m,n,l,h⟩
theorem JM(h:B (i !=0) m n):Tr c E m n (truthy (.int i t)) B:= .mk fun _ l=>P.truthy_int ⟨m,n,l,h⟩
theorem JN(hx:x.length<=16777216)(h:B ((x.length:Int) !=0) m n):Tr c E m n (truthy (.str x t)) B:= .mk fun _ l=>P.truthy_str (EU hx) ⟨m,n,l.tok,h⟩
theorem HE(hm:(a,listOf its k)∈n)(hz:its.size<=16777216)(h:B (!its.isEmpty) m n):Tr c E m n (truthy (.ref a)) B:= .mk fun _ l=>
 wpAny_truthy_list ⟨_,(l.N _ hm).1,rfl,k,rfl⟩ (xQ hz) ⟨m,n,l.tok,h⟩
theorem Hl(h:J (.bool (!(v== .none))) m n):Tr c E m n (compareOp .IsNot v .none) J:= .mk fun _ l=>isNot_none ⟨m,n,l,h⟩
end
section
variable{c:Fx}{E:X6}{m:X5}{n pre post:X4}{J:ad Value}{env:Env}
structure dR(name:Str)(es:List DictEntry)(v:Value):Prop where
 hg:plainGet (am w.params) 150 name=true
 hh:hasDictIn (am w.params) 150=true
 ha:aM (fun attr=>findIn (am w.params) (.ref 150) name=some attr) (fun attr=>noGet (am w.params) attr=true)
 hl:getL name es=some (some v)
 hv:handedIn v=true
theorem Gr(o:dR y es v)(hx:m x=some (.ref W))(h1:(W,instObj 150 D)∈n)(h2:(D,dictOf es k)∈n)(h:J v m n)(hk:c.env.kindOf x=some .local:=by rfl)(hd:(x==("__debug__":Str))=false:=by decide)
  (he:eval (.Attribute (.Name x px) y p) c.env=(do
   let v←eval (.Name x px) c.env
   standAt p.atName
   let z←holding [v] (getAttr v y true)
   letTemporaryGo (.Name x px) v z
   Pure.pure z):=by with_unfolding_all rfl):Tr c E m n (eval (.Attribute (.Name x px) y p) c.env) J:=
 HZ (FX hx (.mk fun _ l=>let ⟨_,a,b⟩:=o.ha;get_own l.F l.X (MU l.N h1 h2) o.hg o.hh a b o.hl o.hv ⟨m,n,l.tok,h⟩) hk hd) he
theorem Ga{o:X7}{name:Str}{ap p:Pos}{args:List X7}{pl:Sem Bool}(h:Tr c E m n (eval o env) (kM c E name pl p args env J))
  (he:eval (.Call (.Attribute o name ap) args [] p) env=(do
   let ov←eval o env
   standAt ap.atName
   let (f,first)←holding [ov] (getMethod ov name pl)
   callWith p f first (backTo p (starEach args env)) []):=by rfl):Tr c E m n (eval (.Call (.Attribute o name ap) args [] p) env) J:= .mk fun s l=>
 MethodCall_ (F0 l h fun _ s' _ _ l' q=>F0 l' q fun _ s' _ _ l' q=>q.go s' l') he
structure iA(name:Str)(es:List DictEntry)(f:Addr):Prop where
 hg:plainGet (am w.params) 150 name=true
 hf:findIn (am w.params) (.ref 150) name=some (some (.ref f))
 ht:isFn (am w.params) (.ref f)=true
 hk:keepIn (am w.params) (.ref f)=true
 hl:getL name es=some none
theorem GZ{name:Str}{pl:Sem Bool}{W D f:Nat}{es:List DictEntry}{k:Nat}{K:ad (Value×X8)}(o:iA name es f)(h1:(W,instObj 150 D)∈n)(h2:(D,dictOf es k)∈n)(h:K (.ref f,[.ref W]) m n):Tr c E m n (getMethod (.ref W) name pl) K:= .mk fun _ l=>
 method_inst l.F l.X (MU l.N h1 h2) o.hg o.hf o.ht o.hl ⟨m,n,l,h⟩
theorem Gj{name:Str}{id:String}{pl:Sem Bool}{D:Addr}{its:Array Value}{k:Nat}{K:ad (Value×X8)}(hm:(D,listOf its k)∈n)(slot:Slot "list" name id)(hty:typeOf (.builtin id)=Pure.pure (.type "method_descriptor"))(h:K (.builtin id,[.ref D]) m n):Tr c E m n (getMethod (.ref D) name pl) K:= .mk fun _ l=>
 kl_method l.N hm slot hty ⟨m,n,l,h⟩
theorem FY{p:Pos}{K:ad X8}(h:K [] m n):Tr c E m n (spliced (backTo p (starEach [] env))) K:= .mk fun _ l=>Lz ⟨m,n,l,h⟩
theorem FZ{p:Pos}{e:X7}{r:List X7}{K:ad X8}(h:Tr c E m n (eval e env) (kV c E p r env K))
  (he:starEach (e::r) env=(false,eval e env)::starEach r env:=by rfl):Tr c E m n (spliced (backTo p (starEach (e::r) env))) K:= .mk fun s l=>
 Ll (F0 l h fun _ s' _ _ l' q=>q.go s' l') he
theorem Ha(hk:keepIn (am w.params) (.ref f)=true)(h:Tr c E m n (spliced (backTo p (starEach (e::r) env))) (kT c E (fun vs=>call (.ref f) (first++vs)) J))
  (he:starEach (e::r) env=(false,eval e env)::starEach r env:=by rfl) (hp:(backTo p (starEach r env)).any (·.1)=false:=by rfl):Tr c E m n (callWith p (.ref f) first (backTo p (starEach (e::r) env)) []) J:= .mk fun s l=>
 callWith_K l.X hk (F0 l h fun _ s' _ _ l' q=>⟨l'.X.keeps l'.F.keep,q.go s' l'⟩) he hp
theorem J9(hk:keepIn (am w.params) (.ref f)=true)(h:Tr c E m n (call (.ref f) (first++[])) J):Tr c E m n (callWith p (.ref f) first (backTo p (starEach [] env)) []) J:= .mk fun s l=>
 callWith_K0 (l.X.keeps l.F.keep) hk (h.go s l)
theorem Gq{p:Pos}{id:String}{first:X8}{e:X7}{r:List X7}(h:Tr c E m n (spliced (backTo p (starEach (e::r) env))) (kT c E (fun vs=>call (.builtin id) (first++vs)) J))
  (he:starEach (e::r) env=(false,eval e env)::starEach r env:=by rfl) (hp:(backTo p (starEach r env)).any (·.1)=false:=by rfl):Tr c E m n (callWith p (.builtin id) first (backTo p (starEach (e::r) env)) []) J:= .mk fun s l=>
 N7 (F0 l h fun _ s' _ _ l' q=>q.go s' l') he hp
theorem Hk{p:Pos}{id:String}{first:X8}(h:Tr c E m n (call (.builtin id) first) J):Tr c E m n (callWith p (.builtin id) first (backTo p (starEach [] env)) []) J:= .mk fun s l=>callWith_method0 (h.go s l)
theorem pU:∀ {n:X4} (pre:X4) {post:X4},n=pre++(a,o)::post->aw n->Upd a o o' n (pre++(a,o')::post)
 |_,[],_,rfl,h=> .head fun q hq=>h.ne hq
 |_,p::pre,_,rfl,h=> .tail (fun e=>(aw.cons.mp h).1 (a,o) (Kz _ (.head _)) e.symm) (pU pre rfl h.tail)
theorem Jl(hn:n=pre++(D,listOf its k)::post)(hz:its.size<=100000)(h:J .none m (pre++(D,listOf (its.push x) (k+1))::post)):Tr c E m n (call (.builtin "list.append") [.ref D,x]) J:= .mk fun _ l=>
 append_K l.F l.N (pU pre hn l.D) (fun _ F' N'=>⟨_,_,l.to F' N' (hn▸l.D).set l.G rfl,h⟩) (by refine aa Lf ?_;exact bd hz)
theorem J2(hq:(q,be "list.append" (.ref D))∈n)(hn:n=pre++(D,listOf its k)::post)(hz:its.size<=100000)(h:J .none m (pre++(D,listOf (its.push x) (k+1))::post)):Tr c E m n (call (.ref q) [x]) J:= .mk fun _ l=>
 yR l.F l.N hq (pU pre hn l.D) (fun _ F' N'=>⟨_,_,l.to F' N' (hn▸l.D).set l.G rfl,h⟩) (by refine aa Lf ?_;exact bd hz)
theorem HN(hn:n=pre++(D,lO (p++[y]) k)::post)(hz:p.length<=100000)(h:J y m (pre++(D,lO p (k+1))::post)):Tr c E m n (call (.builtin "list.pop") [.ref D]) J:= .mk fun _ l=>by
 have e:kl_last (p++[y]).toArray.toList=some (p,y):=by
  show kl_last (p++[y])=_;clear hn hz h
  induction p with
  |nil=>rfl
  |cons z p ih=>show (match kl_last (p++[y]) with|some (p,y)=>some (z::p,y)|none=>some ([],z))=_;exact aa ih rfl
 exact kl_pop l.F l.N e (pU pre hn l.D) (by show (p++[y]).length<=sizeLine;refine aa Lf (aa KH (aa M8 ?_));exact L1 [_] (.a V0 W1) (.n 16777216) 1 V0 (.n 100000) rfl hz) fun _ F' N'=>⟨_,_,l.to F' N' (hn▸l.D).set l.G rfl,h⟩
theorem Ho(hm:(a,lO (xs++[v]) k)∈n)(h:J v m n)(hs:subscripted i false (.ref a) (.int (-1) u)=operate [.ref a, .int (-1) u] (getItem (.ref a) (.int (-1) u)):=by with_unfolding_all rfl):
  Tr c E m n (subscriptTail o i (.ref a) (.int (-1) u)) J:= .mk fun _ l=>uv l.N hm ⟨m,n,l,h⟩ hs
theorem Hj{o i:X7}{a:Addr}{xs:X8}{v:Value}{u:Tok}{k:Nat}{j:Nat}{z:Int}(hm:(a,(⟨.type "tuple",none, .seq xs.toArray k,#[]⟩:Obj))∈n)(hz:z=(j:Int))(hj:xs[j]?=some v)(hl:xs.length<=1000)(h:J v m n)(hs:∀ u,subscripted i false (.ref a) (.int z u)=operate [.ref a, .int z u] (getItem (.ref a) (.int z u)):=by intro u;with_unfolding_all rfl):
  Tr c E m n (subscriptTail o i (.ref a) (.int z u)) J:= .mk fun _ l=>by
 obtain⟨SC,_⟩:=Lj.mp hj;subst hz;refine item_tupleT (j:=j) ⟨_,(l.N _ hm).1,rfl,k,rfl⟩ (iW) (B1 SC hl) ?_ hj ⟨m,n,l,h⟩ (hs u);unfold seqIndex?;simp;exact u3 SC
theorem Hn(hm:(d,ob)∈n)(hd:ob.IsDictOf (PySem.strKind PR w) PN)(hv:valueAt PN x=some v)(h:J v m n)
  (hs:subscripted i false (.ref d) (.str x t)=operate [.ref d, .str x t] (getItem (.ref d) (.str x t)):=by with_unfolding_all rfl):Tr c E m n (subscriptTail o i (.ref d) (.str x t)) J:= .mk fun _ l=>
 kdt_tail l.N hm hd (kdt_getItem (knd:=PySem.strKind PR w) l.N hm hd (NE _ _ _ _) hv ⟨m,n,l.tok,h⟩) hs
theorem Jd(hm:(a,listOf its k)∈n)(hz:its.size<=100000)(h:∀ t,J (.int its.size t) m n):Tr c E m n (call (.builtin "len") [.ref a]) J:= .mk fun _ l=>
 PyProof.Rows.len_list ⟨_,(l.N _ hm).1,rfl,k,rfl⟩ (BW hz) ⟨m,n,l.tok,h _⟩
theorem Gm(hx:x.length<=1000000)(hy:y.length<=1000000)(h:∀ t,J (.str (x++y) t) m n):Tr c E m n (binaryOp .Add (.str x t) (.str y u)) J:= .mk fun _ l=>
 KXadd.add hx hy (by decide) fun _ _ _=>⟨m,n,l.tok,h _⟩
theorem Hf(h:Tr c E m n (joinParts Str.empty (eval v₁ env::eval v₂ env::evalEach r env)) J):Tr c E m n (eval (.JoinedStr (v₁::v₂::r) p) env) J:= .mk fun s l=>JoinedStr_many (h.go s l)
theorem G7(hz:out.length<=1000000)(h:∀ t,J (.str out t) m n):Tr c E m n (joinParts out []) J:= .mk fun _ l=>joinParts_nil ⟨m,n,l.tok,h _⟩ (by refine aa Lf ?_;exact bd hz)
theorem G4(h:Tr c E m n x fun v m n=>bV (fun y t=>v=.str y t) (fun y _=>(out++y).length<=1000000) (fun y _=>Tr c E m n (joinParts (out++y) r) J)):Tr c E m n (joinParts out (x::r)) J:= .mk fun s l=>
 joinParts_cons (F0 l h fun _ s' _ _ l' ⟨_,_,e,hz,q⟩=>e▸⟨by refine aa Lf ?_;exact bd hz,q.go s' l'⟩)
theorem GA(h:Tr c E m n (spliced (backTo p (starEach es env))) fun vs m n=>vs.length<=1000/\∀ a:Nat,J (.ref a) m ((a,(⟨.type "tuple",none, .seq vs.toArray 0,#[]⟩:Obj))::n)):Tr c E m n (eval (.Tuple es k p) env) J:= .mk fun s l=>
 wpAny_Tuple (F0 l h fun _ s' _ _ l' ⟨hz,q⟩=>⟨by refine aa Lf ?_;lia,_,_,l'.push _,q _⟩)
theorem Gx(h:Tr c E m n (spliced (backTo p (starEach es env))) fun vs m n=>vs.length<=1000/\∀ a:Nat,J (.ref a) m ((a,lO vs 0)::n)):Tr c E m n (eval (.List es p) env) J:= .mk fun s l=>
 wpAny_List (F0 l h fun _ s' _ _ l' ⟨hz,q⟩=>⟨by refine aa Lf ?_;lia,_,_,l'.push _,q _⟩)
end
def dC(c:Fx)(m:X5)(rest:X4)(Rs:Str->X4->Prop)(E:X6):Prop:=
 ∀ PO Yp,Rs PO Yp->∀ e t h' TA Qe d' TV tw,Fr c.h₀ c.L TA m->(∀ p∈rest,TA.get? p.1=some p.2/\p.1≠c.L)->RaisedS c.base TA (c.env::c.outer) e (.type "ValueError") t [.str PO tw] Yp h'->TA.UpToSlots h'->AllBare Qe->E (.ref e) ⟨h',Qe,d',TV,c.os⟩
def eT:Str->X4->Prop:=fun _ _=>False
theorem dC.no:dC c m rest eT E:=fun _ _ h=>h.elim
def Cc(k:Nat)(f:Addr)(args:X8)(n:X4)(P:Value->X4->Prop)(Rs:Str->X4->Prop):Prop:=
 ∀ (c:Fx) E m rest J,k<=c.k->(∀ v n',P v n'->J v m (n'++rest))->dC c m rest Rs E->Tr c E m (n++rest) (call (.ref f) args) J
def eE(k:Nat)(f:Addr)(as:Args)(n:X4)(P:Value->X4->Prop)(Rs:Str->X4->Prop):Prop:=
 ∀ (c:Fx) E m rest (J:ad Value),k<=c.k->(∀ v n',P v n'->J v m (n'++rest))->dC c m rest Rs E->∀ s,ax c s m (n++rest)->
  codeAny MP c.A (.call (.ref f) as) (fun r s'=>match r with| .ok (.ret v)=>bG (fun m' n'=>ax c s' m' n') (fun m' n'=>J v m' n')| .ok _=>False| .error e=>E e s') s
abbrev bD(k:Nat)(f:Addr)(args:X8)(n:X4)(P:Value->X4->Prop)(Rs:Str->X4->Prop):Prop:=eE k f ⟨args,[]⟩ n P Rs
theorem bD.to(h:bD k f args n P Rs):Cc k f args n P Rs:=fun c E m rest J hk hJ hR=> .mk fun s l=>OJ (h c E m rest J hk hJ hR s l)
def jE(Rs:Str->X4->Prop)(c:Fx)(E:X6):Prop:=
 ∀ {m:X5} (rest RsI),(∀ PO Vj,RsI PO Vj->aM (fun Yp=>Rs PO Yp) (fun Yp=>∀ q∈Yp,q∈Vj∨q∈rest))->dC c m rest RsI E
def cv:Flow->Value| .ret v=>v|_=> .none
theorem Hh{c c':Fx}{m m':X5}{n n' rest:X4}{J:ad Value}{s s':Shared}{P:Value->X4->Prop}{R:Result->Shared->Prop}{v:Value}(l:ax c s m (n++rest))(hJ:∀ v n',P v n'->J v m (n'++rest))
  (QJ:∀ p∈rest,p∈n++rest/\∀ q∈n,q.1≠p.1) (RA:∀ p∈rest,c'.h₀.get? p.1=some p.2/\p.1≠c.L) (l':ax c' s' m' n') (q:aM (fun PP=>PP.Sublist n') (fun PP=>P v PP)) (hO:c'.os=c.os) (hk:c.k≠0)
  (hR:∀ v m' n',ax c s' m' n'->J v m' n'->R (.ok (.ret v)) s'):
  LeaveK c.h₀ c.L m c'.h₀ (fun r s'=>md (n++rest) n s'.heap->R r s') v s':=by
 obtain⟨PP,hs,hp⟩:=q;have l2:=l'.sub hs;refine leaveK_ l2.F l2.N fun F2 N2 kept=>?_;refine hR _ m (PP++rest) (l.to F2 (o9 l.N kept N2 QJ) (l2.D.append l.D.right fun p hp q hq e=>?_) ⟨l2.G.1,fun h=>absurd h hk⟩ ((l2.O.trans hO).trans l.O.symm)) (hJ _ _ hp);have h1:=(l2.N p hp).2.2;rw[e] at h1;rw[show c'.h₀.get? q.1=some q.2 from(RA q hq).1] at h1
 cases h1
theorem jE.mk{c c':Fx}{rest n:X4}{m:X5}{E:X6}{Rs:Str->X4->Prop}(hR:dC c m rest Rs E)(B':Below c.A c.base (c.env::c.outer) c'.h₀)(FG:Fr c.h₀ c.L c'.h₀ m)(RA:∀ p∈rest,c'.h₀.get? p.1=some p.2/\p.1≠c.L)
  (Ry:∀ PO Yp,Rs PO Yp->∀ q∈Yp,q.1∈n.map (·.1)) (hn:∀ p∈n,c'.h₀.get? p.1=none) (hO:c'.os=c.os:=by rfl) (hB:c'.base=c.base:=by rfl) (ho:c'.outer=c.env::c.outer:=by rfl):
  jE Rs c' (fun e s'=>wpAny MP (c.A.deeper c'.env) (leaving c'.env e) (fun _ Qh=>E e Qh) (fun e' Qh=>E e' Qh) s'):=by
 intro m2 rest' RsI hI PO Vj hw e t h' TA Qe d' TV tw F2 hr2 R2 U2 Ub;rw[hB,ho] at R2;obtain⟨Yp,Vm,hc2⟩:=hI PO Vj hw;refine oZ (Yp:=Yp) B' rfl F2 R2 U2 (fun q hq=>?_) (fun q hq=>?_) fun Sf R3 U3=>?_
 ·rcases hc2 q hq with h|h
  ·exact .inl h
  ·exact .inr (hr2 q h)
 ·obtain⟨p,hp,e⟩:=KI.mp (Ry PO Yp Vm q hq)
  exact ae e (hn p hp)
 ·exact aa hO (hR PO Yp Vm e t Sf c'.h₀ Qe d' TV tw FG RA R3 U3 Ub)
theorem GG{k:Nat}{f:Addr}{as:Args}{n:X4}{P:Value->X4->Prop}{Rs:Str->X4->Prop}
  {name qual:Str} {params:Arguments} {body:Yb} {scope:Scope} {dV kV doc pm PV ct oc:Value} {an od:Option Addr} {RL:Array (Option Value)} {binds:List (Str×Value)}
  (ho:(am w.params).lookup f=some ⟨oc,od, .func (fnOf name qual params body scope dV kV doc pm an PV ct),RL⟩) (QZ:codeIn (am w.params) PV qual=true)
  (Qv:∀ s:Shared,(am w.params).In s.heap->BindsTo s (fnOf name qual params body scope dV kV doc pm an PV ct) as binds) (Rz:∀ y∈binds,scope.names.lookup y.1=some .local)
  (Q0:scope.isCoroutine=false) (QV:scope.isGenerator=false) (hk:scope.kind=.function) (P6:∀ x∈scope.names,x.2≠ .cell)
  (Ry:∀ PO Yp,Rs PO Yp->∀ q∈Yp,q.1∈n.map (·.1))
  (hb:∀ A₀ base dp un gd L outer h₀ os g₀,let c:Fx:=⟨A₀,base,k,dp,un,gd,qual,scope,L,f,PV,[],outer,h₀,os,g₀⟩;∀ E (K:ad Flow),jE Rs c E->(∀ fl m n' PP,PP.Sublist n'->P (cv fl) PP->K fl m n')->
   Tr c E (fun y=>binds.reverse.lookup y) n (execs body c.env) K):
  eE (k+1) f as n P Rs:=by
 intro c E m rest J Qz hJ hR s l;obtain⟨Qt,mg,mb,T⟩:=l.T;have hd:=l.hd;have hu:=l.hu;refine iC l.B l.F l.X l.N T rfl rfl l.hk (fun p hp=>Ky rest hp) ho QZ (by show c.dp<recursionLimit;exact iR hd) (Qv s (l.X.keeps l.F.keep)) Rz ?_ Q0 QV hk P6;intro g L' h₁ FG F' N' B' X' T' PU hg;have QJ:∀ p∈rest,p∈n++rest/\∀ q∈n,q.1≠p.1:=fun p hp=>⟨Kz _ hp,fun q hq=>l.D.apart q hq p hp⟩;have RA:∀ p∈rest,g.get? p.1=some p.2/\p.1≠c.L:=fun p hp=>⟨hg p (QJ p hp).1 (QJ p hp).2,(l.N p (QJ p hp).1).2.1⟩;have l0:ax (⟨c.A,c.base,k,c.dp+1,c.un+3,c.gd,qual,scope,L',f,PV,[],c.env::c.outer,g,c.os,s.gens⟩:Fx) {s with heap:=h₁,toks:=s.toks+binds.length} (fun y=>binds.reverse.lookup y) n:=
  ⟨B',X',⟨_,_,_,T'⟩,hk,tV Qz hd,vw Qz hu,F',N',l.D.left,⟨l.G.1,fun _=>rfl⟩,l.O⟩
 refine K7 (Tr.go (hb c.A c.base (c.dp+1) (c.un+3) c.gd L' (c.env::c.outer) g c.os s.gens _ (fun fl _ n'=>aM (fun PP=>PP.Sublist n') (fun PP=>P (cv fl) PP)) ?_ (fun _ _ _ PP a b=>⟨PP,a,b⟩)) _ l0) ?_ fun _ _ e=>e
 ·exact @jE.mk _ _ _ _ _ _ _ hR B' FG RA Ry (fun p hp=>(N' p hp).2.2) rfl rfl rfl
 ·rintro fl s' ⟨m',n',l',q⟩
  cases fl<;>exact Hh l hJ QJ RA l' q rfl (pE Qz) fun v m' n' a b=>⟨m',n',a,b⟩
theorem Ix{k:Nat}{f:Addr}{as:Args}{n:X4}{P:Value->X4->Prop}{Rs:Str->X4->Prop}
  {name qual:Str} {params:Arguments} {body:Yb} {scope:Scope} {dV kV doc pm PV ct oc:Value} {an od:Option Addr} {RL:Array (Option Value)} {binds:List (Str×Value)}
  (ho:(am w.params).lookup f=some ⟨oc,od, .func (fnOf name qual params body scope dV kV doc pm an PV ct),RL⟩) (QZ:codeIn (am w.params) PV qual=true)
  (Qv:∀ s:Shared,(am w.params).In s.heap->BindsTo s (fnOf name qual params body scope dV kV doc pm an PV ct) as binds) (P4:(binds.all fun y=>scope.names.lookup y.1==some .local||scope.names.lookup y.1==some .cell)=true) (RP:((cellsFrom 0 scope.names []).map (·.1)).Nodup)
  (Q0:scope.isCoroutine=false) (QV:scope.isGenerator=false) (hk:scope.kind=.function)
  (Sh:∀ L cells,CellsAre (bindC (envOfC qual scope L f PV).kindOf binds fun _=>none) (cellsFrom (L+1) scope.names []) cells->aw cells/\∀ p∈cells,L<p.1)
  (Ry:∀ PO Yp,Rs PO Yp->∀ q∈Yp,q.1∈n.map (·.1))
  (hb:∀ A₀ base dp un gd L outer h₀ os g₀,let c:Fx:=⟨A₀,base,k,dp,un,gd,qual,scope,L,f,PV,cellsFrom (L+1) scope.names [],outer,h₀,os,g₀⟩;∀ E (K:ad Flow) cells,jE Rs c E->(∀ fl m n' PP,PP.Sublist n'->P (cv fl) PP->K fl m n')->CellsAre (bindC (envOfC qual scope L f PV).kindOf binds fun _=>none) (cellsFrom (L+1) scope.names []) cells->
   Tr c E (bindL (envOfC qual scope L f PV).kindOf binds fun _=>none) (cells++n) (execs body c.env) K):
  eE (k+1) f as n P Rs:=by
 intro c E m rest J Qz hJ hR s l;obtain⟨Qt,mg,mb,T⟩:=l.T;have hd:=l.hd;have hu:=l.hu;refine kt l.B l.F l.X l.N T rfl rfl l.hk (fun p hp=>Ky rest hp) ho QZ (by show c.dp<recursionLimit;exact iR hd) (Qv s (l.X.keeps l.F.keep)) P4 RP ?_ Q0 QV hk;intro g L' h₁ Tv cells FG F' N' Y' B' X' T' PU hg hn;have QJ:∀ p∈rest,p∈n++rest/\∀ q∈n,q.1≠p.1:=fun p hp=>⟨Kz _ hp,fun q hq=>l.D.apart q hq p hp⟩;have RA:∀ p∈rest,g.get? p.1=some p.2/\p.1≠c.L:=fun p hp=>⟨hg p (QJ p hp).1 (QJ p hp).2,(l.N p (QJ p hp).1).2.1⟩;have l0:ax (⟨c.A,c.base,k,c.dp+1,c.un+3,c.gd,qual,scope,L',f,PV,cellsFrom (L'+1) scope.names [],c.env::c.outer,g,c.os,s.gens⟩:Fx) {s with heap:=h₁,toks:=Tv} (bindL (envOfC qual scope L' f PV).kindOf binds fun _=>none) (cells++n):=
  ⟨B',X',⟨_,_,_,T'⟩,hk,tV Qz hd,vw Qz hu,F',N',(Sh L' cells Y').1.append l.D.left fun p hp q hq e=>absurd (PU q (Ky _ hq)) (e▸MW.mpr (LD ((Sh L' cells Y').2 p hp))),⟨l.G.1,fun _=>rfl⟩,l.O⟩
 refine K7 (Tr.go (hb c.A c.base (c.dp+1) (c.un+3) c.gd L' (c.env::c.outer) g c.os s.gens _ (fun fl _ n'=>aM (fun PP=>PP.Sublist n') (fun PP=>P (cv fl) PP)) cells ?_ (fun _ _ _ PP a b=>⟨PP,a,b⟩) Y') _ l0) ?_ fun _ _ e=>e
 ·exact @jE.mk _ _ _ _ _ _ _ hR B' FG RA Ry hn rfl rfl rfl
 ·rintro fl s' ⟨m',n',l',q⟩
  cases fl<;>exact Hh l hJ QJ RA l' q rfl (pE Qz) fun v m' n' a b=>⟨m',n',a,b⟩
section
variable{c:Fx}{E:X6}{m:X5}{n pre post:X4}{J:ad Value}{K:ad Flow}{U:ad Unit}{env:Env}{r:Yb}
theorem Hy(o:dR y es v)(hx:∀ J:ad Value,J (.ref W) m n->Tr c E m n (eval oe env) J)(h1:(W,instObj 150 D)∈n)(h2:(D,dictOf es k)∈n)(h:J v m n)
  (he:eval (.Attribute oe y p) env=(do
   let v←eval oe env
   standAt p.atName
   let z←holding [v] (getAttr v y true)
   letTemporaryGo oe v z
   Pure.pure z):=by with_unfolding_all rfl):Tr c E m n (eval (.Attribute oe y p) env) J:=
 HZ (hx _<| .mk fun _ l=>let ⟨_,a,b⟩:=o.ha;get_own l.F l.X (MU l.N h1 h2) o.hg o.hh a b o.hl o.hv ⟨m,n,l.tok,h⟩) he
structure xx(name:Str)(es:List DictEntry)(f:Addr):Prop where
 hg:plainGet (am w.params) 150 name=true
 hh:hasDictIn (am w.params) 150=true
 ha:findIn (am w.params) (.ref 150) name=some (some (.ref f))
 hf:isFn (am w.params) (.ref f)=true
 hgf:specialIn (am w.params) (.ref f) "__get__"=some (some (.builtin "function.__get__"))
 ht:takesIn (am w.params) (.ref f)=some false
 hc:copiedNames.contains name=false
 hl:getL name es=some none
theorem JO(o:xx y es f)(hx:∀ J:ad Value,J (.ref W) m n->Tr c E m n (eval oe env) J)(h1:(W,instObj 150 D)∈n)(h2:(D,dictOf es k)∈n)(h:∀ q:Nat,J (.ref q) m ((q,methodObj (.ref f) (.ref W))::n))
  (he:eval (.Attribute oe y p) env=(do
   let v←eval oe env
   standAt p.atName
   let z←holding [v] (getAttr v y true)
   letTemporaryGo oe v z
   Pure.pure z):=by with_unfolding_all rfl):Tr c E m n (eval (.Attribute oe y p) env) J:=
 HZ (hx _<| .mk fun _ l=>kbm_bound l.F l.X l.N (MU l.N h1 h2) o.hg o.hh o.ha o.hf o.hgf o.ht o.hc o.hl fun q _ F' N' lt=>⟨m,_,l.to F' N' (l.D.fresh lt) l.G rfl,h q⟩) he
theorem Hg(hc:c.cl.lookup x=some a)(hn:n=pre++(a,o)::post)(hd:o.data=.cell X2)(h:∀ o',o'.data=.cell (some v)->U () m (pre++(a,o')::post))(hx:c.env.kindOf x=some .cell):Tr c E m n (storeName c.env x v) U:= .mk fun _ l=>
 storeX_C l.F l.N hc (fb pre hn l.D) hd (fun _ o' F' N' d'=>⟨_,_,l.to F' N' (hn▸l.D).set l.G rfl,h o' d'⟩) l.hk hx
theorem G8(h:Tr c E m n (eval e c.env) (kT c E (storeName c.env x) (kS c E r c.env K)))(hs:swapsWith e (some (.Name x p')) p.line c.env=Pure.pure false:=by rfl):
  Tr c E m n (execs (.Assign [.Name x p'] e p::r) c.env) K:= .mk fun s l=>
 Lp (Pc (F0 l h fun _ s' _ _ l' q=>F0 l' q fun _ s' _ _ l' q=>q.go s' l') hs)
theorem Ib(h:Tr c E m n (eval e env) fun v m n=>Tr c E m n (assign XJ env v) (kT c E (fun _=>assign XC env v) (kS c E r env K)))
  (he:(assignEach [XJ,XC] env).map (·.2)=[assign XJ env,assign XC env]:=by rfl) (hw:swappedStores [XJ,XC] e env=Pure.pure none:=by rfl):Tr c E m n (execs (.Assign [XJ,XC] e p::r) env) K:= .mk fun s l=>
 Lp (wpAny_Assign_two (F0 l h fun _ s' _ _ l' q=>F0 l' q fun _ s' _ _ l' q=>F0 l' q fun _ s' _ _ l' q=>q.go s' l') he hw)
theorem Go(h:U () (fun y=>if y=x then some v else m y) n)(hx:c.env.kindOf x=some .local:=by rfl):Tr c E m n (assign (.Name x p) c.env v) U:= .mk fun s l=>Op ((JI h hx).go s l)
theorem Iv(h:Tr c E m n (eval o env) (kE c E i env (fun x y=>setItem x y v) U)):Tr c E m n (assign (.Subscript o i p) env v) U:= .mk fun s l=>by
 refine aa (assign_Subscript _ _ _ _) ?_;refine Kx (Li (F0 l h fun _ s' _ _ l' q=>Kx (Li (F0 l' q fun _ s' _ _ l' q=>Kx (LF (Kx (Li (up (q.go s' l') fun _ s' q=>wpAny_release q))))))))
theorem Iu(hn:n=pre++(d,ob)::post)(hd:ob.IsDictOf (PySem.strKind PR w) PN)(hz:PN.length<=1000)(h:∀ Tt,Tt.IsDictOf (PySem.strKind PR w) (PySem.stored PN x v)->U () m (pre++(d,Tt)::post)):Tr c E m n (setItem (.ref d) (.str x t) v) U:= .mk fun _ l=>
 kda_set l.F l.N (fb pre hn l.D) hd (NE _ _ _ _) (by refine aa Lf ?_;exact bd hz) fun _ o' F' N' d'=>⟨_,_,l.to F' N' (hn▸l.D).set l.G rfl,h o' d'⟩
theorem IE(h:∀ (d:Nat) ob,ob.IsDictOf (PySem.strKind PR w) []->(d==sysModules)=false->J (.ref d) m ((d,ob)::n)):Tr c E m n (eval (.Dict [] [] p) env) J:= .mk fun _ l=>
 let ⟨_,_,_,t⟩:=l.T;newDict_K (h₀:=c.h₀) l.F l.N t.nolimit fun _ _ o F' N' lt lo hd _ _ _=>⟨m,_,l.to F' N' (l.D.fresh lt) l.G rfl,h _ o hd lo⟩
theorem Jn(hm:(d,ob)∈n)(hd:ob.IsDictOf (PySem.strKind PR w) PN)(lo:(d==sysModules)=false)(hz:PN.length<=1000)(h:B (!PN.isEmpty) m n):Tr c E m n (truthy (.ref d)) B:= .mk fun _ l=>
 wpAny_truthy_dict lo (kda_dict l.N hm hd) (xQ hz) ⟨m,n,l.tok,h⟩
theorem Kg{pl:Sem Bool}{d:Addr}{ob:Obj}{PN:List (Str×Value)}{K:ad (Value×X8)}(hm:(d,ob)∈n)(hd:ob.IsDictOf (PySem.strKind PR w) PN)(h:K (.builtin "dict.get",[.ref d]) m n):Tr c E m n (getMethod (.ref d) "get" pl) K:= .mk fun _ l=>
 kdg_method l.N hm hd ⟨m,n,l,h⟩
theorem Kc(hm:(d,ob)∈n)(hd:ob.IsDictOf (PySem.strKind PR w) PN)(lo:(d==sysModules)=false)(h:J ((valueAt PN x).getD .none) m n):Tr c E m n (call (.builtin "dict.get") [.ref d, .str x t]) J:= .mk fun _ l=>
 kdg_get1 l.N hm hd lo (NE _ _ _ _) _ rfl ⟨m,n,l.tok,h⟩
theorem Gv(h:Tr c E m n (eval e env) (kE c E oe env (fun v x=>setAttr x y v) (kS c E r env K)))(hs:swapsWith e (some (.Attribute oe y p')) p.line env=Pure.pure false:=by rfl):
  Tr c E m n (execs (.Assign [.Attribute oe y p'] e p::r) env) K:= .mk fun s l=>
 Lp (plainObj_wpAny_Assign_Attribute (F0 l h fun _ s' _ _ l' q=>F0 l' q fun _ s' _ _ l' q=>F0 l' q fun _ s' _ _ l' q=>q.go s' l') hs)
structure rG(name:Str)(es:List DictEntry):Prop where
 hs:findIn (am w.params) (.ref 150) "__setattr__"=some (some (.builtin "object.__setattr__"))
 hp:plainOver (am w.params) 150=true
 ht:takerIn (am w.params) 150 name=some none
 hh:hasDictIn (am w.params) 150=true
 hl:(getL name es).isSome=true
theorem Gl{y:Str}{W D:Nat}{es:List DictEntry}{es':Tok->List DictEntry}{k k':Nat}{v:Value}(o:rG y es)(h1:(W,instObj 150 D)∈n)(hn:n=pre++(D,dictOf es k)::post)(e:∀ t,∃ t',(putL y (PyData.keyHash w.params y) (.str y t) v es,putN y es k)=(es' t',k'))(hz:∀ t,(es' t).length<=1000)
  (h:∀ t,U () m (pre++(D,dictOf (es' t) k')::post)):Tr c E m n (PySem.setAttr (.ref W) y v) U:= .mk fun s l=>by
 obtain⟨t',e'⟩:=e (s.toks+1);exact set_dict l.F l.X l.N (MU l.N h1 (hn▸Kz _ (.head _))) rfl o.hs o.hp o.ht o.hh o.hl e' (pU pre hn l.D) (hz t') fun _ F' N'=>⟨_,_,l.to F' N' (hn▸l.D).set l.G rfl,h t'⟩
theorem Jf(hc:kdsCode (am w.params) env.code=true)(he:starEach [e1, .Starred e2 p2] env=[(false,eval e1 env),(true,eval e2 env)])
  (h:∀ (D:Nat) ob,ba (PySem.strKind PR w) ob []->Tr c E m ((D,ob)::n) (eval e1 env) fun v m n=>Tr c E m n (setAdd D v) fun _ m n=>Tr c E m n (eval e2 env) fun x m n=>Tr c E m n (setDisplayStar D x) fun _ m n=>J (.ref D) m n):Tr c E m n (eval (.Set [e1, .Starred e2 p2] 0 p) env) J:= .mk fun _ l=>
 xa (Kf:=am w.params) (knd:=PySem.strKind PR w) l.F l.N l.X hc he fun D _ ob hS F' N' lt=>c6 ((h D ob hS).go _ (l.to F' N' (l.D.fresh lt) l.G rfl)) fun _ s' _ _ l' q=>F0 l' q fun _ s' _ _ l' q=>F0 l' q fun _ s' _ _ l' q=>q.go s' l'
theorem JG(hn:n=pre++(D,ob)::post)(hS:ba (PySem.strKind PR w) ob PN)(hz:PN.length<=2)(Rk:x∉PN.map (·.1))(h:∀ Tt,ba (PySem.strKind PR w) Tt (PN++[(x, .str x t)])->B true m (pre++(D,Tt)::post)):Tr c E m n (PySem.setAdd D (.str x t)) B:= .mk fun _ l=>
 xF l.F l.N (fb pre hn l.D) hS (by unfold scanBound;exact L1 [_] (.a (.a V0 W1) W1) (.n 4096) 1 V0 (.n 2) rfl hz) (NE _ _ _ _) rfl Rk fun _ o' F' N' d'=>⟨_,_,l.to F' N' (hn▸l.D).set l.G rfl,h o' d'⟩
theorem J1(hm:(D,ob)∈n)(hS:ba (PySem.strKind PR w) ob PN)(h1:PN.length<=1)(hd:(d,dictOf [] k)∈n)(Rl:(d==sysModules)=false)(h:U () m n):Tr c E m n (setDisplayStar D (.ref d)) U:= .mk fun _ l=>
 ss rfl (l.N _ hm).1 hS h1 (l.N _ hd).1 Rl fun _ _ hk=>⟨m,n,l.to ⟨l.F.ns.at' fun o e=>hk _ o e,fun b o e=>hk b o (l.F.keep b o e),l.F.above⟩ (fun p hp=>⟨hk _ _ (l.N p hp).1,(l.N p hp).2⟩) l.D l.G rfl,h⟩
theorem J3(hn:n=pre++(D,ob)::post)(hS:ba (PySem.strKind PR w) ob PN)(hz:PN.length<=2)(Rk:x∉PN.map (·.1))(h:∀ Tt,ba (PySem.strKind PR w) Tt (PN++[(x, .str x t)])->J .none m (pre++(D,Tt)::post)):Tr c E m n (call (.builtin "set.add") [.ref D, .str x t]) J:= .mk fun s l=>by
 have hm:=l.N (D,ob) (hn▸Kz _ (.head _));have hex:=hS.1;refine LQ PySem.F.slot_set_add ⟨_,hm.1,hex.1⟩ PySem.F.entry_set_add ?_ (PySem.F.args_set_add_2 _ _);unfold Builtin.«set.add» Builtin.Frozenset.oneOther;simp only[List.isEmpty_nil,bind_assoc];unfold Builtin.Frozenset.addrOf;refine Kx (KC ?_)
 try dsimp only
 refine Kx (KC ?_)
 try dsimp only
 refine Kx (xF l.F l.N (fb pre hn l.D) hS (by unfold scanBound;exact L1 [_] (.a (.a V0 W1) W1) (.n 4096) 1 V0 (.n 2) rfl hz) (NE _ _ _ _) rfl Rk fun _ o' F' N' d'=>?_);exact KC ⟨_,rfl,_,_,l.to F' N' (hn▸l.D).set l.G rfl,h o' d'⟩
theorem Ke{pl:Sem Bool}{D:Addr}{ob:Obj}{PN:List (Str×Value)}{K:ad (Value×X8)}(hm:(D,ob)∈n)(hS:ba (PySem.strKind PR w) ob PN)(h:K (.builtin "set.add",[.ref D]) m n):Tr c E m n (getMethod (.ref D) "add" pl) K:= .mk fun _ l=>by
 obtain⟨hex,_⟩:=hS;exact Pb ⟨_,(l.N _ hm).1,hex.1⟩ PySem.F.plainAttrs_set PySem.F.slot_set_add PySem.F.type_set_add (fun b e=>by cases e;exact⟨_,(l.N _ hm).1,hex.2.1⟩) ⟨m,n,l,h⟩
theorem H8(h:J (.bool true) m n):Tr c E m n (compareOp .IsNot (.str x t) .none) J:=Hl (by exact h)
theorem Hc(h:J (.bool false) m n):Tr c E m n (compareOp .IsNot .none .none) J:=Hl (by exact h)
end
section
variable(a:aE)(t:Nat->Tok)(Yg:Value)(seen done:Bool)
theorem fT:dR "_data" (aD a t Yg seen done) (.ref a.data):=⟨by k_is,by k_is,⟨_,by k_is,by k_is⟩,by k_get,by k_handed⟩
theorem iO:dR "_write" (aD a t Yg seen done) (.ref a.Yt):=⟨by k_is,by k_is,⟨_,by k_is,by k_is⟩,by k_get,by k_handed⟩
theorem uX:dR "_strip_text" (aD a t Yg seen done) (.bool false):=⟨by k_is,by k_is,⟨_,by k_is,by k_is⟩,by k_get,by k_handed⟩
theorem sf:dR "_exclude_attrs" (aD a t Yg seen done) .none:=⟨by k_is,by k_is,⟨_,by k_is,by k_is⟩,by k_get,by k_handed⟩
theorem nw:dR "_exclude_tags" (aD a t Yg seen done) .none:=⟨by k_is,by k_is,⟨_,by k_is,by k_is⟩,by k_get,by k_handed⟩
theorem ic:dR "_qname_aware_tags" (aD a t Yg seen done) (.ref a.Yu):=⟨by k_is,by k_is,⟨_,by k_is,by k_is⟩,by k_get,by k_handed⟩
theorem wQ:dR "_find_qname_aware_attrs" (aD a t Yg seen done) .none:=⟨by k_is,by k_is,⟨_,by k_is,by k_is⟩,by k_get,by k_handed⟩
theorem fU:dR "_declared_ns_stack" (aD a t Yg seen done) (.ref a.decl):=⟨by k_is,by k_is,⟨_,by k_is,by k_is⟩,by k_get,by k_handed⟩
theorem lB:dR "_ns_stack" (aD a t Yg seen done) (.ref a.ns):=⟨by k_is,by k_is,⟨_,by k_is,by k_is⟩,by k_get,by k_handed⟩
theorem ib:dR "_preserve_space" (aD a t Yg seen done) (.ref a.Yn):=⟨by k_is,by k_is,⟨_,by k_is,by k_is⟩,by k_get,by k_handed⟩
theorem pi(h:handedIn Yg=true):dR "_pending_start" (aD a t Yg seen done) Yg:=⟨by k_is,by k_is,⟨_,by k_is,by k_is⟩,by k_get,h⟩
theorem pj:dR "_root_seen" (aD a t Yg seen done) (.bool seen):=⟨by k_is,by k_is,⟨_,by k_is,by k_is⟩,by k_get,by k_handed⟩
theorem wP:dR "_root_done" (aD a t Yg seen done) (.bool done):=⟨by k_is,by k_is,⟨_,by k_is,by k_is⟩,by k_get,by k_handed⟩
theorem my:dR "_ignored_depth" (aD a t Yg seen done) (.int 0 (t 17)):=⟨by k_is,by k_is,⟨_,by k_is,by k_is⟩,by k_get,by k_handed⟩
theorem nh:iA "_qname" (aD a t Yg seen done) 90:=⟨by k_is,by k_is,by k_is,by k_is,by k_get⟩
theorem jw:iA "_resolve_prefix_name" (aD a t Yg seen done) 82:=⟨by k_is,by k_is,by k_is,by k_is,by k_get⟩
theorem ng:iA "_flush" (aD a t Yg seen done) 106:=⟨by k_is,by k_is,by k_is,by k_is,by k_get⟩
theorem ni:iA "_start" (aD a t Yg seen done) 126:=⟨by k_is,by k_is,by k_is,by k_is,by k_get⟩
theorem g9:iA "data" (aD a t Yg seen done) 97:=⟨by k_is,by k_is,by k_is,by k_is,by k_get⟩
theorem lj:iA "start" (aD a t Yg seen done) 120:=⟨by k_is,by k_is,by k_is,by k_is,by k_get⟩
theorem jx:iA "start_ns" (aD a t Yg seen done) 113:=⟨by k_is,by k_is,by k_is,by k_is,by k_get⟩
theorem fE:iA "end" (aD a t Yg seen done) 133:=⟨by k_is,by k_is,by k_is,by k_is,by k_get⟩
theorem uL:xx "_qname" (aD a t Yg seen done) 90:=⟨by k_is,by k_is,by k_is,by k_is,by k_is,by k_is,by decide+kernel,by k_get⟩
theorem uM:xx "_start" (aD a t Yg seen done) 126:=⟨by k_is,by k_is,by k_is,by k_is,by k_is,by k_is,by decide+kernel,by k_get⟩
theorem vm:rG "_root_seen" (aD a t Yg seen done):=⟨by k_is,by k_is,by k_is,by k_is,by refine aa ((pj a t Yg seen done).hl) ?_;rfl⟩
theorem vl:rG "_root_done" (aD a t Yg seen done):=⟨by k_is,by k_is,by k_is,by k_is,by refine aa ((wP a t Yg seen done).hl) ?_;rfl⟩
theorem nB(h:handedIn Yg=true):rG "_pending_start" (aD a t Yg seen done):=⟨by k_is,by k_is,by k_is,by k_is,by refine aa ((pi a t Yg seen done h).hl) ?_;rfl⟩
end
section
variable{c:Fx}{E:X6}{m:X5}{n pre post:X4}{J:ad Value}{K:ad Flow}{U:ad Unit}{env:Env}{r:Yb}
theorem HS(hm:(t,bl x y k)∈n)(h:Tr c E m n (assign a env x) (kT c E (fun _=>assign b env y) U))
  (he:assignEach [a,b] env=[(false,assign a env),(false,assign b env)]:=by rfl):Tr c E m n (assign (.Tuple [a,b] kk p) env (.ref t)) U:= .mk fun s l=>
 unpackN_ l.F l.N (l.N.isTup hm) rfl (by refine aa he ?_;rfl) (by refine aa he ?_;rfl) fun h' F' N'=>by
  exact aa he (MR (c6 (h.go _ (l.to F' N' l.D l.G rfl)) fun _ s1 _ _ l1 q=>MR (up (q.go s1 l1) fun _ s2 q=>assignInOrder_nil q)))
theorem Gh(hm:(C,oC)∈n)(xC:bv oC mC)(hv:mC x=some v)(h:J v m n)(hC:Yj.locals=C:=by rfl)(hk:Yj.scope.kind=.function:=by rfl)(hx:Yj.kindOf x=some .local:=by rfl)(hd:(x==("__debug__":Str))=false:=by decide):
  Tr c E m n (eval (.Name x p) Yj) J:= .mk fun _ l=>yf l.N hm xC hC hk hx hv ⟨m,n,l,h⟩ hd
theorem GB(hn:n=pre++(C,oC)::post)(xC:bv oC mC)(h:∀ Qo,bv Qo (fun y=>if y=x then some v else mC y)->U () m (pre++(C,Qo)::post))(hC:Yj.locals=C:=by rfl)(hx:Yj.kindOf x=some .local:=by rfl)
  (hp:(Yj.scope.kind== .class||(Yj.scope.kind== .module&&Yj.locals !=Yj.globals))=false:=by rfl):Tr c E m n (assign (.Name x p) Yj v) U:= .mk fun _ l=>
 tQ l.F l.N (fb pre hn l.D) xC hC hx (fun _ Qo F' N' x'=>⟨_,_,l.to F' N' (hn▸l.D).set l.G rfl,h Qo x'⟩) hp
theorem H7(e:nsIn (am w.params) mainGlobals x=some (some v))(h:J v m n)(hg:Yj.globals=mainGlobals:=by rfl)(hk:Yj.scope.kind=.function:=by rfl)(hx:Yj.kindOf x=some .globalImplicit:=by rfl)(hd:(x==("__debug__":Str))=false:=by decide):
  Tr c E m n (eval (.Name x p) Yj) J:= .mk fun _ l=>let ⟨_,_,_,t⟩:=l.T;nameG_K l.F l.X (topRead_of t) e ⟨m,n,l,h⟩ hg hk hx hd
theorem oQ(h:aY l u=none):u∉l.map (·.1):=by
 unfold aY at h;rw[On,NI] at h;intro hm;obtain⟨x,hx,rfl⟩:=KI.mp hm;exact h x hx (OF _)
theorem lH:∀ (l:List Str) (st:List UP×List UP),(st.1.map (·.1)).Nodup->((aG Ym st l).2.1.map (·.1)).Nodup
 |[],_,h=>h
 |u::l,(cur,pm),h=>by
  show ((aG Ym (aL Ym (cur,pm) u).2 l).2.1.map (·.1)).Nodup;refine lH l _ ?_;have add:∀ x:Str,aY (cur++Ym) u=none->((cur++[(u,x)]:List UP).map (fun y:UP=>y.1)).Nodup:=fun x e=>by
   have:=oQ e;rw[KN,KK,not_or] at this
   (refine aa KN ?_;rw[Nn])
   refine⟨h,Lx.mpr ⟨Lw,MC⟩,fun a ha b hb=>?_⟩;refine aa (KD.mp hb) ?_;rintro rfl;exact this.1 ha
  unfold aL;dsimp only
  split
  ·exact h
  ·split
   ·exact add _ (by assumption)
   ·exact add _ (by assumption)
abbrev aU(x:UP):Str×Str:=(Yc "xmlns:"++x.2,x.1)
def aX:List UP->List (Str×Str)
 |[x,y]=>if (aU y).1.cps.toList<(aU x).1.cps.toList then[aU y,aU x] else[aU x,aU y]
 |l=>l.map aU
inductive sV(g:X4):Value->Str×Str->Prop
 |mk (A:Nat) (a:Str×Str) (t u:Tok):(A,bl (.str a.1 t) (.str a.2 u) 0)∈g->sV g (.ref A) a
abbrev bU(g:X4):X8->List (Str×Str)->Prop:=eC (sV g)
theorem bU.mono(h:∀ p∈g,p∈g')(x:bU g vs as):bU g' vs as:=eC.mono (by rintro _ _ ⟨A,a,t,u,m⟩;exact .mk A _ t u (h _ m)) x
theorem bU.snoc(hm:(A,bl (.str a.1 t) (.str a.2 u) 0)∈g)(x:bU g vs as):bU g (vs++[.ref A]) (as++[a]):=eC.snoc (.mk A a t u hm) x
variable{B:ad Bool}
theorem HF(h0:0<x.length)(hx:x.length<=16777216)(h:B true m n):Tr c E m n (truthy (.str x t)) B:=JN hx (by
 have e:((x.length:Int) !=0)=true:=by simp;exact AM h0
 refine aa e ?_;exact h)
theorem JY(hn:n=pre++(a,listOf #[v] k)::post)(h:∀ k',J .none m (pre++(a,listOf #[v] k')::post)):Tr c E m n (call (.builtin "list.sort") [.ref a]) J:= .mk fun _ l=>
 pL l.F l.N (fb pre hn l.D) fun _ k' F' N'=>⟨_,_,l.to F' N' (hn▸l.D).set l.G rfl,h k'⟩
theorem JZ{a:Addr}{x y:Nat}{p1 q1 p2 q2:Str}{t1 u1 t2 u2:Tok}{k n1 n2:Nat}(hn:n=pre++(a,listOf #[.ref x, .ref y] k)::post)(hx:(x,bl (.str p1 t1) (.str q1 u1) n1)∈pre++post)(hy:(y,bl (.str p2 t2) (.str q2 u2) n2)∈pre++post)(P2:p1≠p2)
  (h:∀ k',J .none m (pre++(a,listOf (bS (decide (p2.cps.toList<p1.cps.toList)) (.ref x) (.ref y)) k')::post)):Tr c E m n (call (.builtin "list.sort") [.ref a]) J:= .mk fun _ l=>by
 subst hn;have hd:aw ((a,listOf #[.ref x, .ref y] k)::(pre++post)):=l.D.perm Ld;exact xc l.F l.N (fun p hp=>hd.ne hp) hx hy P2 fun _ k' F' N'=>⟨_,_,l.to F' N' l.D.set l.G rfl,h k'⟩
theorem G6(h:∀ t,J (.int (-i) t) m n):Tr c E m n (eval (.UnaryOp .USub (.Constant (.int i) k p) p') env) J:= .mk fun _ l=>
 wpAny_UnaryOp (Nd (P.neg_int ⟨m,n,l.tok,h _⟩))
theorem HG(hv:m x=some (.ref q))(hq:(q,be "list.append" (.ref D))∈n)(h:Tr c E m n (eval e c.env) fun v m n'=>(q,be "list.append" (.ref D))∈n'/\Tr c E m n' (call (.ref q) [v]) J)
  (he:starEach [e] c.env=[(false,eval e c.env)]:=by rfl) (hx:c.env.kindOf x=some .local:=by rfl) (hd:(x==("__debug__":Str))=false:=by decide):Tr c E m n (eval (.Call (.Name x xp) [e] [] p) c.env) J:= .mk fun s l=>
 LB rfl (nameX_L l.F hv (ji l.N hq (Ll (F0 l h fun _ s1 _ _ l1 ⟨Ur,q1⟩=>Lz ⟨(l1.N _ Ur).1,q1.go _ l1⟩) he) he) l.hk hx hd)
theorem Io(hm:(D,listOf its k)∈n)(hi:StrsAre its.toList ys)(hsep:x.length<=16)(hw:(ys.map (·.length)).sum+ys.length<=1048576)(h:∀ t',J (.str (Txt.join x ys) t') m n):Tr c E m n (call (.builtin "str.join") [.str x t, .ref D]) J:= .mk fun _ l=>
 join_listW ⟨_,(l.N _ hm).1,rfl,k,rfl⟩ hi hsep hw fun _ _=>⟨m,n,l.tok,h _⟩
theorem HM{name:Str}{id:String}{pl:Sem Bool}{x:Str}{t:Tok}{K:ad (Value×X8)}(slot:Slot "str" name id)(hty:typeOf (.builtin id)=Pure.pure (.type "method_descriptor"))(h:K (.builtin id,[.str x t]) m n):Tr c E m n (getMethod (.str x t) name pl) K:= .mk fun _ l=>
 Pb (typeIs_str _ _ _) Pg slot hty (fun a e=>by cases e) ⟨m,n,l,h⟩
theorem GE(hf:∀ J:ad Value,J (.ref f) m n->Tr c E m n (eval (.Name x xp) env) J)(hk:keepIn (am w.params) (.ref f)=true)(h:Tr c E m n (eval e env) (kT c E (fun v=>call (.ref f) [v]) J))
  (he:starEach [e] env=[(false,eval e env)]:=by rfl):Tr c E m n (eval (.Call (.Name x xp) [e] [] p) env) J:= .mk fun s l=>
 LB rfl (c6 ((hf (fun v m' n'=>v=.ref f/\m'=m/\n'=n) ⟨rfl,rfl,rfl⟩).go s l) fun _ s' _ _ l' ⟨e1,e2,e3⟩=>by
  subst e1 e2 e3;exact callWith_K l'.X hk (Ll (F0 l' h fun _ s1 _ _ l1 q=>Lz ⟨l1.X.keeps l1.F.keep,q.go _ l1⟩) he) he)
theorem GQ(h:Tr c E m n (joinParts out (eval e env::evalEach es env)) J):Tr c E m n (joinParts out (evalEach (e::es) env)) J:= .mk fun s l=>PyProof.Rows.joinParts_consE (h.go s l)
theorem G0(h:Tr c E m n (joinParts out []) J):Tr c E m n (joinParts out (evalEach [] env)) J:= .mk fun s l=>PyProof.Rows.joinParts_nilE (h.go s l)
theorem HX(h:Tr c E m n (eval v env) (kT c E (fun y=>formatField y Str.empty) J)):Tr c E m n (eval (.FormattedValue v (-1) none p) env) J:= .mk fun s l=>
 FormattedValue_plain (F0 l h fun _ s' _ _ l' q=>q.go s' l')
theorem HQ(hz:x.length<=1000000)(h:∀ t',J (.str x t') m n):Tr c E m n (formatField (.str x t) Str.empty) J:= .mk fun _ l=>
 PyProof.Rows.formatField_str (fun _ _=>⟨m,n,l.tok,h _⟩) (by refine aa Lf ?_;exact bd hz)
theorem Hs(hq:(q,be "list.append" (.ref D))∈n)(hn:n=pre++(D,lO vs k)::post)(hz:vs.length<=100000)(h:J .none m (pre++(D,lO (vs++[x]) (k+1))::post)):Tr c E m n (call (.ref q) [x]) J:=
 J2 hq hn (by refine aa Lu ?_;exact hz) (by refine aa (List.push_toArray _ _) ?_;exact h)
theorem Gs(hn:n=pre++(D,lO vs k)::post)(hz:vs.length<=100000)(h:J .none m (pre++(D,lO (vs++[x]) (k+1))::post)):Tr c E m n (call (.builtin "list.append") [.ref D,x]) J:=
 Jl hn (by refine aa Lu ?_;exact hz) (by refine aa (List.push_toArray _ _) ?_;exact h)
def fL(as:List (Str×Str)):Str:=Txt.join (Yc "") (as.map fun a=>Yc " "++a.1++Yc "=\""++a.2++Yc "\"")
theorem bU.get{g:X4}{vs:X8}{as:List (Str×Str)}{j:Nat}{v:Value}(x:bU g vs as)(h:vs[j]?=some v):vL (fun(a:Str×Str) (A:Nat) (t u:Tok)=>as[j]?=some a) (fun _ A _ _=>v=.ref A) (fun a A t u=>(A,bl (.str a.1 t) (.str a.2 u) 0)∈g):=by
 obtain⟨a,e,A,_,t,u,m⟩:=eC.at x h;exact⟨a,A,t,u,e,rfl,m⟩
theorem nA:∀ (l:List Str) (st:List UP×List UP) (x:UP),x∈(aG Ym st l).2.1->x∈st.1∨x.1∈l
 |[],_,_,h=> .inl h
 |v::l,(cur,pm),x,h=>by
  rcases nA l (aL Ym (cur,pm) v).2 x h with q|q
  ·unfold aL at q
   dsimp only at q
   split at q
   ·exact .inl q
   ·split at q<;>
    ·rcases KK.mp q with q|q
     ·exact .inl q
     ·refine aa (KD.mp q) ?_;exact .inr (.head _)
  ·exact .inr (.tail _ q)
theorem jv(h:a∈aX l):∃ x∈l,a=aU x:=by
 match l,h with
 |[],h=>exact(nomatch h)
 |[x],h=>exact⟨x, .head _,KD.mp h⟩
 |[x,y],h=>
  have h:a∈if (aU y).1.cps.toList<(aU x).1.cps.toList then[aU y,aU x] else[aU x,aU y]:=h
  split at h<;>(rcases KG.mp h with e|h<;>first|exact⟨y,aJ,e⟩|exact⟨x, .head _,e⟩|(rw[KD] at h;first|exact⟨x, .head _,h⟩|exact⟨y,aJ,h⟩))
 |x::y::z::r,h=>
  obtain⟨b,hb,e⟩:=KI.mp (show a∈(x::y::z::r).map aU from h);exact⟨b,hb,e.symm⟩
theorem qc{as:List (Str×Str)}(h:as.length<=2)(hl:∀ a∈as,a.1.length<=2000/\a.2.length<=1000):
  ((as.map fun a=>Yc " "++a.1++Yc "=\""++a.2++Yc "\"").map (·.length)).sum+(as.map fun a=>Yc " "++a.1++Yc "=\""++a.2++Yc "\"").length<=1048576:=by
 refine aa M1 (aa (KE _) ?_);have h1:∀ x∈as.map (Str.length∘fun a:Str×Str=>Yc " "++a.1++Yc "=\""++a.2++Yc "\""),x<=3004:=fun x hx=>by
  obtain⟨a,ha,rfl⟩:=KI.mp hx;have:=hl a ha;show (Yc " "++a.1++Yc "=\""++a.2++Yc "\"").length<=3004
  (refine aa (KB _ _) (aa (KB _ _) (aa (KB _ _) (aa (KB _ _) ?_)));rw[wG];refine aa Af (aa Ag ?_))
  exact L2 [_,_] (.a (.a (.a (.a W1 V0) (.n 2)) V1) W1) (.n 3004) 1 V0 (.n 2000) 1 V1 (.n 1000) rfl this.1 this.2
 have h2:=sy h1;rw[KE] at h2;have h3:=MV 3004 h;exact KF (Ny (KF h2 h3) h) (by decide)
end
section
variable{c:Fx}{E:X6}{m:X5}{n:X4}{J:ad Value}{env:Env}
theorem Gi{o i:X7}{l:Addr}{vs:X8}{k:Nat}{z:Int}{j:Nat}{u:Tok}{v:Value}(hm:(l,lO vs k)∈n)(hz:z=(j:Int))(hj:vs[j]?=some v)(hl:vs.length<=100000)(h:J v m n)
  (hs:∀ u,subscripted i false (.ref l) (.int z u)=operate [.ref l, .int z u] (getItem (.ref l) (.int z u)):=by intro u;with_unfolding_all rfl):Tr c E m n (subscriptTail o i (.ref l) (.int z u)) J:= .mk fun s l'=>by
 have hL:s.heap.IsList l vs.toArray:=⟨_,(l'.N _ hm).1,rfl,k,rfl⟩;obtain⟨SC,_⟩:=Lj.mp hj;refine tail_any hL.typeIs slot_list_getitem.lookup (wpAny_getItem_list hL (EV hz) (Fm hz SC hl) (by subst hz;simpa using hj) ⟨m,n,l',h⟩) (hs u)
theorem G5(h0:0<=z)(h1:z<x.length)(hz:x.length<=100000)(h:∀ t',J (.str (Txt.item x z) t') m n)
  (hs:subscripted i false (.str x t) (.int z u)=operate [.str x t, .int z u] (getItem (.str x t) (.int z u)):=by with_unfolding_all rfl) (ht:∀ r,letTemporaryGo o (.str x t) r=Pure.pure ():=by intro _;with_unfolding_all rfl):
  Tr c E m n (subscriptTail o i (.str x t) (.int z u)) J:= .mk fun s l=>
 tail_of_ItemOn (PyProof.Rows.SBL.item (BX h0) h1 (BW hz) fun _=>⟨m,n,l.tok,h _⟩) hs ht
theorem HO(h:Tr c E m n (eval o env) fun v m' n'=>bV (fun x t=>v=.str x t) (fun x _=>x.length<=100000) (fun x _=>∀ t',J (.str (Txt.slice x none (some j)) t') m' n'))
  (hs:∀ x t r,subscripted (.Slice none (some (.Constant (.int j) kk pc)) none ps) false (.str x t) (.ref r)=operate [.ref r, .str x t] (getItem (.str x t) (.ref r)):=by intro x t r;with_unfolding_all rfl) (ht:∀ x t r,letTemporaryGo o (.str x t) r=Pure.pure ():=by intro _ _ _;with_unfolding_all rfl):
  Tr c E m n (eval (.Subscript o (.Slice none (some (.Constant (.int j) kk pc)) none ps) p) env) J:= .mk fun s l=>
 Oa (F0 l h fun v s1 _ _ l1 ⟨x,t,e,hz,q⟩=>wpAny_Slice (KC (by
  subst e;refine Nd (k:=kk) (pos:=pc) (KC ?_);exact slice_strN_ns (s:={s1 with toks:=_}) l1.F l1.N (fun h' t' k F' N'=>⟨_,_,l1.to F' N' l1.D l1.G rfl,q t'⟩) (hs x t _) (ht x t) (by refine aa Lf ?_;exact bd hz))))
theorem HH(h:Tr c E m n (eval o env) fun v m' n'=>bV (fun x t=>v=.str x t) (fun x _=>x.length<=100000) (fun x _=>∀ t',J (.str (Txt.slice x (some j) none) t') m' n'))
  (hs:∀ x t r,subscripted (.Slice (some (.Constant (.int j) kk pc)) none none ps) false (.str x t) (.ref r)=operate [.ref r, .str x t] (getItem (.str x t) (.ref r)):=by intro x t r;with_unfolding_all rfl) (ht:∀ x t r,letTemporaryGo o (.str x t) r=Pure.pure ():=by intro _ _ _;with_unfolding_all rfl):
  Tr c E m n (eval (.Subscript o (.Slice (some (.Constant (.int j) kk pc)) none none ps) p) env) J:= .mk fun s l=>
 Oa (F0 l h fun v s1 _ _ l1 ⟨x,t,e,hz,q⟩=>wpAny_Slice (by
  subst e;refine Nd (k:=kk) (pos:=pc) (KC (KC ?_));exact slice_strN_sn (s:={s1 with toks:=_}) l1.F l1.N (fun h' t' k F' N'=>⟨_,_,l1.to F' N' l1.D l1.G rfl,q t'⟩) (hs x t _) (ht x t) (by refine aa Lf ?_;exact bd hz)))
theorem IW(h:∀ t',J (.int (if b<a then b else a) t') m n):Tr c E m n (call (.builtin "min") [.int a t, .int b u]) J:= .mk fun s l=>
 min_two_ints rfl fun h' tk hk=>by
  have F':Fr c.h₀ c.L h' m:=⟨l.F.ns.at' fun o e=>hk _ o e,fun b o e=>hk b o (l.F.keep b o e),l.F.above⟩;have N':News c.h₀ c.L h' n:=fun p hp=>⟨hk _ _ (l.N p hp).1,(l.N p hp).2⟩;refine⟨m,n,l.to F' N' l.D l.G rfl,?_⟩;have:=h
  split
  ·rename_i q;have:=h u;rw[KW q] at this;exact this
  ·rename_i q;have:=h t;rw[KM q] at this;exact this
theorem HC(h:J (.bool (decide (j<i))) m n):Tr c E m n (compareOp .Gt (.int i t) (.int j u)) J:= .mk fun _ l=>PyProof.Rows.gt_int ⟨m,n,l,h⟩
theorem Ks(h:J (.bool (decide (i<j))) m n):Tr c E m n (compareOp .Lt (.int i t) (.int j u)) J:= .mk fun _ l=>PyProof.Rows.lt_int ⟨m,n,l,h⟩
theorem Kt(h:J (.bool (i !=j)) m n):Tr c E m n (compareOp .NotEq (.int i t) (.int j u)) J:= .mk fun _ l=>PyProof.Rows.ne_int ⟨m,n,l,h⟩
theorem Hd(h:∀ t',J (.int (i+j) t') m n):Tr c E m n (binaryOp .Add (.int i t) (.int j u)) J:= .mk fun _ l=>PyProof.Rows.add_int ⟨m,n,l.tok,h _⟩
theorem Hm(h:∀ t',J (.int (i-j) t') m n):Tr c E m n (binaryOp .Sub (.int i t) (.int j u)) J:= .mk fun _ l=>PyProof.Rows.sub_int ⟨m,n,l.tok,h _⟩
theorem HV{y:Str}{xp p:Pos}{e e2:X7}{id:String}(e0:nsIn (am w.params) mainGlobals y=some none)(hv:bootBuiltins y=some (.builtin id))(hn:y≠"__name__")(h:Tr c E m n (eval e c.env) (kE c E e2 c.env (fun v v2=>call (.builtin id) [v,v2]) J))
  (he:starEach [e,e2] c.env=(false,eval e c.env)::starEach [e2] c.env:=by rfl) (he2:starEach [e2] c.env=(false,eval e2 c.env)::starEach [] c.env:=by rfl) (hp:(backTo p (starEach [e2] c.env)).any (·.1)=false:=by rfl) (hx:c.env.kindOf y=some .globalImplicit:=by rfl) (hd:(y==("__debug__":Str))=false:=by decide):Tr c E m n (eval (.Call (.Name y xp) [e,e2] [] p) c.env) J:= .mk fun s l=>
 LB rfl (c6 ((HK (J:=fun v m' n'=>v=.builtin id/\m'=m/\n'=n) e0 hv hn ⟨rfl,rfl,rfl⟩ hx hd).go s l) fun _ s' _ _ l' ⟨e1,e3,e4⟩=>by
  subst e1 e3 e4;exact N7 (Ll (F0 l' h fun _ s1 _ _ l1 q=>Ll (F0 l1 q fun _ s2 _ _ l2 q2=>Lz (q2.go s2 l2)) he2) he) he hp)
theorem pI(ys:List Str):PySem.Spec.same (.list (ys.map PyData.str)) (.list [])=ys.isEmpty:=by cases ys<;>simp[PySem.Spec.same,PySem.Spec.sameAll]
theorem qM:∀ ys:List Str,(∀ y∈ys,PyData.strOk y=true)->PyData.canLayAll0 (ys.map PyData.str)=true
 |[],_=>rfl
 |y::r,h=>by simp[PyData.canLayAll0,PyData.canLay0,qM r fun z hz=>h z (.tail _ hz),h y (.head _)]
theorem mT:∀ ys:List Str,PyData.depthAll (ys.map PyData.str)=0
 |[]=>rfl
 |_::r=>by simp[PyData.depthAll,PyData.depth,mT r]
theorem qg{vs:X8}{ys:List Str}(h:StrsAre vs ys):CarriedAll vs (ys.map PyData.str):=by
 induction h with
 |nil=>exact .nil
 |cons _ t r ih=>exact .cons (.str _ t) ih
theorem JX(hm:(l,lO vs k)∈n)(hi:StrsAre vs ys)(he:(e,listOf #[] k2)∈n)(hk:4<=c.k)(Qc:∀ y∈ys,PyData.strOk y=true)(h:J (.bool (!ys.isEmpty)) m n):Tr c E m n (compareOp .NotEq (.ref l) (.ref e)) J:= .mk fun s l'=>
 ne_dataH_same (reads_newData ⟨_,(l'.N _ hm).1,rfl,k,rfl⟩ (qg hi)) (reads_newData (ys:=[]) (ds:=[]) ⟨_,(l'.N _ he).1,rfl,k2,rfl⟩ .nil) (by simp[SeqAt.shaped,PyData.canLay0,PyData.depth,qM ys Qc,mT]) (by rfl) (by have:=l'.hu;show c.un+64<cLine;exact L2 [_,_,_] (.a (.a V1 (.n 64)) W1) V2 16 (.n 4) V0 1 (.a (.a V1 (.m 20 V0)) W1) V2 rfl hk this)
  (SeqAt.noMix_of_shape (.list .str) rfl _ _ (list_map_has (g:=PyData.str) fun _=>rfl) (list_map_has (l:=([]:List Str)) (g:=PyData.str) fun _=>rfl)) (by refine aa (pI _) ?_;exact⟨m,n,l',h⟩)
end
section
variable{c:Fx}{E:X6}{m:X5}{n:X4}{K:ad Flow}{PM iter:X7}{body orelse:Yb}{pos:Pos}
def ry(I:Nat)(oI:Obj)(Inv:X5->X4->Prop)(K:ad Flow):ad Flow:=fun fl m' n'=>match fl with
 | .next| .cont=>aM (fun PP=>n'=(I,oI)::PP) (fun PP=>Inv m' PP)
 | .brk=>K .next m' n'
 | .ret v=>K (.ret v) m' n'
theorem qU{Inv:Nat->X5->X4->Prop}{N I:Nat}{P:Nat->Value->Prop}{fp:List Addr}{St:Nat->Heap->Prop}{src:Addr->Obj}{oI:Obj}{s:Shared}(hI:fc c.A I N P fp St)(l:ax c s m ((I,oI)::n))(hst:St 0 s.heap)
  (Uj:∀ j m n,Inv j m n->∀ b∈fp,b≠I->(b,src b)∈n∨c.h₀.get? b=some (src b)) (h0:Inv 0 m n)
  (turn:∀ j v m n (oI:Obj),j<N->P j v->Inv j m n->Tr c E m ((I,oI)::n) (assign PM c.env v) fun _ m n=>Tr c E m n (execs body c.env) (ry I oI (Inv (j+1)) K)) (last:∀ m n,Inv N m n->Tr c E m n (execs orelse c.env) K):
  i0 c.A c.h₀ c.env PM body orelse (fun fl s'=>bG (fun m' n'=>ax c s' m' n') (fun m' n'=>K fl m' n')) E (.ref I) s:=by
 have hN:=l.N (I,oI) (.head _);have mk:∀ {h:Heap} {g:Array GenState} {d:Drawn} {tk:Nat} {SH:X5} {PW:X4},Fr c.h₀ c.L h SH->News c.h₀ c.L h PW->aw PW->c.Gp g->ax c ⟨h,g,d,tk,s.os⟩ SH PW:=
  fun F N D G=>⟨l.B,l.X,l.T,l.hk,l.hd,l.hu,F,N,D,G,l.O⟩
 refine⟨fun g _=>c.Gp g,I,fp,N,P,St,src,fun j m n=>Inv j m n/\∀ o:Obj,aw ((I,o)::n),m,n,oI,rfl,hI.W,hst,MF hN.2.1,hN.2.2,l.F,l.N,l.G,⟨h0,fun o=>l.D⟩,?_,hI.hex,fun i s' v Q'=>hI.hgo i PM s' v Q' E,?_,?_⟩
 ·rintro j m n ⟨hi,hd⟩
  exact⟨fun p hp=>(hd oI).ne hp,Uj j m n hi⟩
 ·rintro j v SH PW Q1 h g d tk hj hv ⟨hi,hd⟩ hg F N
  refine c6 ((turn j v SH PW Q1 hj hv hi).go _ (mk F N (hd Q1) hg)) fun _ TD XG n₂ l₂ q=>c6 (q.go TD l₂) fun fl Rg WB Vd RC VS=>?_
  match fl,VS with
  | .next,⟨PP,e,q⟩=>
   subst e;exact⟨WB,PP,RC.F,RC.N,⟨q,fun o=>RC.D⟩,RC.G,RC.O.trans l.O.symm⟩
  | .cont,⟨PP,e,q⟩=>
   subst e;exact⟨WB,PP,RC.F,RC.N,⟨q,fun o=>RC.D⟩,RC.G,RC.O.trans l.O.symm⟩
  | .brk,q=>exact⟨WB,Vd,RC,q⟩
  | .ret v,q=>exact⟨WB,Vd,RC,q⟩
 ·rintro h g d tk SH PW ⟨hi,hd⟩ hg F N
  exact(last SH PW hi).go _ (mk F N (hd oI).tail hg)
theorem IG(h:∀ s,ax c s m n->wpAny MP c.A (eval iter c.env) (fun xv PZ=>wpAny MP c.A (pyIter xv) (fun it QS=>i0 c.A c.h₀ c.env PM body orelse (fun fl s'=>bG (fun m' n'=>ax c s' m' n') (fun m' n'=>K fl m' n')) E it QS) E PZ) E s)
  (hs:∀ x,foldedSetIterable iter c.env x=Pure.pure x:=by intro _;rfl) (hE:PassesOwn MP c.A c.env E):Tr c E m n (exec (.For PM iter body orelse pos) c.env) K:= .mk fun s l=>zv l.F (h s l) hs hE
noncomputable abbrev bk (i:Int) (t u z:Tok):Obj:={cls:= .type "range",dict:=none,data:= .fields #[.int 0 t, .int i u, .int 1 z],slots:=#[]}
theorem Hr(h:∀ (r:Nat) t u z,J (.ref r) m ((r,bk i t u z)::n)):Tr c E m n (call (.type "range") [.int i t]) J:= .mk fun _ l=>
 call_range_1 ⟨m,_,(l.push _).tok,h _ _ _ _⟩
theorem IO(N:Nat)(Inv:Nat->X5->X4->Prop)(hE:PassesOwn MP c.A c.env E)
  (h:Tr c E m n (eval iter c.env) fun v m' n'=>vL (fun r t u z=>v=.ref r) (fun r t u z=>(r,bk N t u z)∈n') (fun _ _ _ _=>Inv 0 m' n')) (hz:N<=1000)
  (turn:∀ j t I oI m n,j<N->Inv j m n->Tr c E m ((I,oI)::n) (assign PM c.env (.int (j:Nat) t)) fun _ m n=>Tr c E m n (execs body c.env) (ry I oI (Inv (j+1)) K))
  (last:∀ m n,Inv N m n->Tr c E m n (execs orelse c.env) K) (hs:∀ x,foldedSetIterable iter c.env x=Pure.pure x:=by intro _;rfl):Tr c E m n (exec (.For PM iter body orelse pos) c.env) K:=
 IG (fun s l=>F0 l h fun v PZ m' n' l' ⟨r,t,u,z,e,hr,h0⟩=>by
  subst e;refine kQ (n:=N) l'.F l'.N (l'.N _ hr).1 (small_one (by decide) (by decide) (iW) (tK hz)) (by refine aa (PyProof.Rows.rangeSize_nat _ _) ?_;exact BY) fun I oI h1 hI F1 N1 PU hst Qf=>?_;have l1:ax c {PZ with heap:=h1} m' ((I,oI)::n'):=l'.to F1 N1 (l'.D.fresh PU) l'.G rfl;refine qU (Inv:=Inv) (N:=N) (src:=fun _=>oI) (nE rfl I 0 1 N) l1 hst (fun j m n hi b hb QH=>absurd (by simpa using hb) QH) h0 (fun j v m n oI hj hv hi=>?_) last;obtain⟨tk,rfl⟩:=hv;have:=turn j tk I oI m n hj hi;refine aa (show (0:Int)+(j:Nat)*1=(j:Nat) from B7) ?_;exact this) hs hE
theorem ly{h:Heap}:∀ l:X4,(∀ p∈l,h.get? p.1=some p.2)->fJ (fun l'=>l'.Sublist l) (fun l'=>aw l') (fun l'=>∀ p∈l,p∈l')
 |[],_=>⟨[], .slnil,aw.nil,fun _ h=>nomatch h⟩
 |x::l,hl=>by
  obtain⟨l',hs,hd,hm⟩:=ly l fun p hp=>hl p (.tail _ hp)
  by_cases hx:x∈l'
  ·exact⟨l', .cons _ hs,hd,fun p hp=>(KG.mp hp).elim (fun e=>e▸hx) fun h=>hm p h⟩
  ·refine⟨x::l', .cons₂ _ hs,aw.cons.mpr ⟨fun q hq e=>hx ?_,hd⟩,fun p hp=>(KG.mp hp).elim (fun e=>e▸ .head _) fun h=> .tail _ (hm p h)⟩
   have h1:=hl x (.head _);have h2:=hl q (.tail _ (hs.subset hq));rw[e,h1] at h2;have:q=x:=Prod.ext e (Mq h2).symm;exact this▸hq
noncomputable def Fx.still (c:Fx) (g:Array GenState):Fx:={c with k:=0,g₀:=g}
theorem Ir{c:Fx}{E:X6}{m:X5}{n:X4}{K:ad Flow}{PM:X7}{body:Yb}{x y:Str}{px VR ap ap2 p pos:Pos}{W D Ln cL k:Nat}{es:List DictEntry}{ns:ay}
  (Inv:Nat->X5->X4->Prop) (hE:PassesOwn MP c.A c.env E) (hk:1<=c.k)
  (hx:m x=some (.ref W)) (h1:(W,instObj 150 D)∈n) (h2:(D,dictOf es k)∈n) (hm:iA "_iter_namespaces" es 75) (ho:dR y es (.ref Ln))
  (WD:∀ z∈ns,z.2.1.length<=1000) (Sj:∀ j m' n',Inv j m' n'->∀ z∈bH Ln cL ns.stk,z∈n'∨c.h₀.get? z.1=some z.2) (hA:∀ j m' n',Inv j m' n'->n'.map (·.1)=n.map (·.1)) (h0:Inv 0 m n)
  (turn:∀ (j:Nat) (q:Pr) (own:X4) m' n' (T5:ad Flow) (g:Array GenState),ns.flat[j]?=some q->Inv j m' n'->(∀ m'' PP,Inv (j+1) m'' PP->T5 .next m'' (own++PP))->(∀ v m'' PP,K (.ret v) m'' PP->T5 (.ret v) m'' PP)->
   Tr (c.still g) E m' (own++n') (assign PM c.env (.ref q.a)) (kS (c.still g) E body c.env T5))
  (last:∀ m' n',Inv ns.flat.length m' n'->K .next m' n')
  (hkx:c.env.kindOf x=some .local:=by rfl) (hdx:(x==("__debug__":Str))=false:=by decide)
  {pl:Sem Bool} (he:eval (.Call (.Attribute (.Name x px) "_iter_namespaces" ap) [.Attribute (.Name x VR) y ap2] [] p) c.env=(do
   let ov←eval (.Name x px) c.env
   standAt ap.atName
   let (f,first)←holding [ov] (getMethod ov "_iter_namespaces" pl)
   callWith p f first (backTo p (starEach [.Attribute (.Name x VR) y ap2] c.env)) []):=by rfl)
  (he2:eval (.Attribute (.Name x VR) y ap2) c.env=(do
   let v←eval (.Name x VR) c.env
   standAt ap2.atName
   let z←holding [v] (getAttr v y true)
   letTemporaryGo (.Name x VR) v z
   Pure.pure z):=by with_unfolding_all rfl)
  (hs:∀ z,foldedSetIterable (.Call (.Attribute (.Name x px) "_iter_namespaces" ap) [.Attribute (.Name x VR) y ap2] [] p) c.env z=Pure.pure z:=by intro _;rfl):
  Tr c E m n (exec (.For PM (.Call (.Attribute (.Name x px) "_iter_namespaces" ap) [.Attribute (.Name x VR) y ap2] [] p) body [] pos) c.env) K:=by
 refine .mk fun s l=>?_;obtain⟨Qt,mg,mb,T⟩:=l.T;obtain⟨at1,at2,at3⟩:=ho.ha;have hd:=l.hd;have P9:c.A.depth<recursionLimit:=by show c.dp<recursionLimit;exact iR hd
 refine xV l.F (MethodCall_ (nameX_L l.F hx (method_inst l.F l.X (MU l.N h1 h2) hm.hg hm.hf hm.ht hm.hl (callWith_K l.X hm.hk (Ll (Attribute_any_ (nameX_L l.F hx (get_own l.F l.X (MU l.N h1 h2) ho.hg ho.hh at2 at3 ho.hl ho.hv (Lz ⟨l.X.keeps l.F.keep,?_⟩)) l.hk hkx hdx) he2) rfl) rfl rfl)) l.hk hkx hdx) he) hs hE;have lt:ax c {s with toks:=s.toks+1} m n:=l.tok;have hsh0:bF s.heap (bH Ln cL ns.stk):=fun z hz=>(Sj 0 m n h0 z hz).elim (fun h=>(l.N z h).1) fun h=>l.F.keep _ _ h;refine rR (K:=am w.params) (xs:=ns.stk) (cL:=cL) (Ln:=Ln) (s:={s with toks:=s.toks+1}) lt.F l.X lt.N T (by k_is) (by k_is) P9 (binds_K (l.X.keeps l.F.keep) rfl (by k_is) rfl rfl rfl) (locs rfl) rfl rfl rfl (by decide) rfl hsh0 (fun z hz=>?_) rfl fun C h' Qe tk own hC hG F N QC hL hh0 hn=>?_
 ·obtain⟨u,hu,rfl⟩:=KI.mp hz
  have:=WD u hu;simp only[KE];exact xQ this
 have hnC:∀ j m' n',Inv j m' n'->∀ z∈n',z.1<C:=fun j m' n' hi z hz=>by
  have:z.1∈n.map (·.1):=hA j m' n' hi▸KU hz;obtain⟨u,hu,e⟩:=KI.mp this;exact e▸hn u hu
 refine⟨C+2,C,Ln,cL,C+1,_,ns.stk,own,Inv,m,n,rfl,rfl,T.nolimit,P9,LP _,LP _,hh0,hL,hG,F,N,QC l.G.1,fun j m' n' hi=>⟨hnC j m' n' hi,Sj j m' n' hi⟩,h0,?_,?_⟩
 ·intro j v SH PW oa oC oI oJ I J' h₁ V9 XQ Tv hv hi hCI hCJ hb F₁ XO
  rw[GX,LV] at hv;obtain⟨q,hq,rfl⟩:=Ls.mp hv;obtain⟨ow,os1,od,om⟩:=ly (h:=h₁) [(C+1,oa),(C,oC),(I,oI),(J',oJ)] fun z hz=>(XO z (Ky _ hz)).1;have hge:∀ z∈ow,C<=z.1:=fun z hz=>by
   have h:=os1.subset hz;simp only[KG,Lw,O0] at h;rcases h with rfl|rfl|rfl|rfl
   ·exact MD C
   ·exact KZ C
   ·exact hCI
   ·exact hCJ
  have Dn:aw PW:=by
   have h:=l.D;unfold aw at h⊢;exact aa (hA j SH PW hi) h
  have lc:ax (c.still V9) ⟨h₁,V9,XQ,Tv,s.os⟩ SH (ow++PW):=
   ⟨l.B,l.X,l.T,l.hk,by show c.dp+0<recursionLimit;exact L1 [_,_,_] (.a (.a V1 W0) W1) V2 1 (.a (.a V1 V0) W1) V2 rfl hd,by have:=l.hu;show c.un+20*0<cLine;exact L1 [_,_,_] (.a (.a V1 (.m 20 W0)) W1) V2 1 (.a (.a V1 (.m 20 V0)) W1) V2 rfl this,F₁,fun z hz=>(KK.mp hz).elim (fun h=>XO z (Ky _ (os1.subset h))) fun h=>XO z (Kz _ h),od.append Dn fun z hz z' hz'=>MF (K6 (K9 (hnC j SH PW hi z' hz') (hge z hz))),⟨hb,fun _=>rfl⟩,l.O⟩
  have st:=Tr.go (turn j q ow SH PW (fun fl m' n'=>match fl with| .next=>aM (fun PP=>n'=ow++PP) (fun PP=>Inv (j+1) m' PP)| .ret v=>K (.ret v) m' n'|_=>False) V9 hq hi (fun _ PP h=>⟨PP,rfl,h⟩) (fun _ _ _ h=>h)) _ lc;refine K7 st (fun _ TD ⟨WB,Vd,RC,Sc⟩=>K7 (Sc.go TD RC) (fun f Rg ⟨WV,XA,R5,R1⟩=>?_) fun _ _ e=>e) fun _ _ e=>e
  match f,R1 with
  | .next,⟨PP,e,SY⟩=>
   subst e;exact⟨WV,PP,R5.F,fun z hz=>(KK.mp hz).elim (fun h=>R5.N z (Ky _ (om z h))) fun h=>R5.N z (Kz _ h),SY,R5.G.2 rfl,R5.O.trans l.O.symm⟩
  | .ret v,R1=>exact⟨WV,XA,⟨l.B,l.X,l.T,l.hk,l.hd,l.hu,R5.F,R5.N,R5.D,⟨R5.G.1,fun h=>BS h hk⟩,R5.O⟩,R1⟩
 ·intro R8 tk₂ d₂ TA XG n₂ Xg Xh hb hi
  rw[GX,KE] at hi;have Dn:aw n₂:=by
   have h:=l.D;unfold aw at h⊢;exact aa (hA _ XG n₂ hi) h
  exact⟨XG,n₂,⟨l.B,l.X,l.T,l.hk,l.hd,l.hu,Xg,Xh,Dn,⟨hb,fun h=>BS h hk⟩,l.O⟩,last XG n₂ hi⟩
end
def iz(k:Nat)(f:Addr)(as:Args)(n read:X4)(P:Value->X4->Prop)(Rs:Str->X4->Prop):Prop:=
 ∀ (c:Fx) E m rest (J:ad Value),k<=c.k->(∀ p∈read,p∈rest)->(∀ v n',P v n'->J v m (n'++rest))->dC c m rest Rs E->∀ s,ax c s m (n++rest)->
  codeAny MP c.A (.call (.ref f) as) (fun r s'=>match r with| .ok (.ret v)=>bG (fun m' n'=>ax c s' m' n') (fun m' n'=>J v m' n')| .ok _=>False| .error e=>E e s') s
theorem Ia{k:Nat}{f:Addr}{as:Args}{n read:X4}{P:Value->X4->Prop}{Rs:Str->X4->Prop}(d:iz k f as n read P Rs):
  eE k f as (n++read) (fun v n'=>aM (fun f'=>P v f') (fun f'=>n'=f'++read)) Rs:=fun c E m rest J hk hJ hR s l=>by
 refine d c E m (read++rest) J hk (fun _ h=>Ky _ h) (fun v n' h=>?_) (fun PO Yp hw e t h' TA Qe d' TV tw F hr=>hR PO Yp hw e t h' TA Qe d' TV tw F fun p hp=>hr p (Kz _ hp)) s (by refine ae (KQ _ _ _) ?_;exact l);exact ae (KQ _ _ _) (hJ v _ ⟨n',h,rfl⟩)
def xw(Rs:Str->X4->Prop)(c:Fx)(E:X6):Prop:=
 ∀ PO s m n e h' tw,Rs PO []->ax c s m n->Heap.MadeExc s.heap h' e "ValueError" [.str PO tw]->E (.ref e) {s with heap:=h'}
theorem HT{k:Nat}{f:Addr}{as:Args}{n read:X4}{P:Value->X4->Prop}{Rs:Str->X4->Prop}
  {name qual:Str} {params:Arguments} {body:Yb} {scope:Scope} {dV kV doc pm PV ct oc:Value} {an od:Option Addr} {RL:Array (Option Value)} {binds:List (Str×Value)}
  (ho:(am w.params).lookup f=some ⟨oc,od, .func (fnOf name qual params body scope dV kV doc pm an PV ct),RL⟩) (QZ:codeIn (am w.params) PV qual=true)
  (Qv:∀ s:Shared,(am w.params).In s.heap->BindsTo s (fnOf name qual params body scope dV kV doc pm an PV ct) as binds) (Rz:∀ y∈binds,scope.names.lookup y.1=some .local)
  (Q0:scope.isCoroutine=false) (QV:scope.isGenerator=false) (hk:scope.kind=.function) (P6:∀ x∈scope.names,x.2≠ .cell)
  (Ry:∀ PO Yp,Rs PO Yp->∀ q∈Yp,q.1∈n.map (·.1))
  (hb:∀ A₀ base dp un gd L outer h₀ os g₀,let c:Fx:=⟨A₀,base,k,dp,un,gd,qual,scope,L,f,PV,[],outer,h₀,os,g₀⟩;∀ E (K:ad Flow),jE Rs c E->PassesOwn MP c.A c.env E->(∀ fl m n' PP,PP.Sublist n'->P (cv fl) PP->K fl m n')->(∀ p∈read,c.h₀.get? p.1=some p.2)->xw Rs c E->
   Tr c E (fun y=>binds.reverse.lookup y) n (execs body c.env) K):
  iz (k+1) f as n read P Rs:=by
 intro c E m rest J Qz hrd hJ hR s l;obtain⟨Qt,mg,mb,T⟩:=l.T;have hd:=l.hd;have hu:=l.hu;refine iC l.B l.F l.X l.N T rfl rfl l.hk (fun p hp=>Ky rest hp) ho QZ (by show c.dp<recursionLimit;exact iR hd) (Qv s (l.X.keeps l.F.keep)) Rz ?_ Q0 QV hk P6;intro g L' h₁ FG F' N' B' X' T' PU hg;have QJ:∀ p∈rest,p∈n++rest/\∀ q∈n,q.1≠p.1:=fun p hp=>⟨Kz _ hp,fun q hq=>l.D.apart q hq p hp⟩;have RA:∀ p∈rest,g.get? p.1=some p.2/\p.1≠c.L:=fun p hp=>⟨hg p (QJ p hp).1 (QJ p hp).2,(l.N p (QJ p hp).1).2.1⟩;have l0:ax (⟨c.A,c.base,k,c.dp+1,c.un+3,c.gd,qual,scope,L',f,PV,[],c.env::c.outer,g,c.os,s.gens⟩:Fx) {s with heap:=h₁,toks:=s.toks+binds.length} (fun y=>binds.reverse.lookup y) n:=
  ⟨B',X',⟨_,_,_,T'⟩,hk,tV Qz hd,vw Qz hu,F',N',l.D.left,⟨l.G.1,fun _=>rfl⟩,l.O⟩
 refine K7 (Tr.go (hb c.A c.base (c.dp+1) (c.un+3) c.gd L' (c.env::c.outer) g c.os s.gens _ (fun fl _ n'=>aM (fun PP=>PP.Sublist n') (fun PP=>P (cv fl) PP)) ?_ ?pas (fun _ _ _ PP a b=>⟨PP,a,b⟩) (fun p hp=>(RA p (hrd p hp)).1) ?mk) _ l0) ?_ fun _ _ e=>e
 case pas=>passes_own
 case mk=>
  intro PO s2 m2 n2 e h' tw hw l2 hx;refine leave_raiseS (news:=[]) B' hx.of l2.F News.nil (fun Sf t R _ U=>?_) hk;have:=hR PO [] hw e t Sf g s2.gens s2.drawn s2.toks tw FG RA R U l2.G.1;rw[←(show s2.os=c.os from l2.O)] at this;exact this
 ·exact @jE.mk _ _ _ _ _ _ _ hR B' FG RA Ry (fun p hp=>(N' p hp).2.2) rfl rfl rfl
 ·rintro fl s' ⟨m',n',l',q⟩
  cases fl<;>exact Hh l hJ QJ RA l' q rfl (pE Qz) fun v m' n' a b=>⟨m',n',a,b⟩
section
variable{c:Fx}{E:X6}{m:X5}{n pre post:X4}{J:ad Value}{U:ad Unit}{K:ad Flow}{env:Env}{r:Yb}
theorem Il(h:Tr c E m n (eval e env) (kT c E (assign t env) (kS c E r env K)))
  (hs:swapsWithSole [t] e p.line env=Pure.pure false:=by rfl) (he:(assignEach [t] env).map (·.2)=[assign t env]:=by rfl) (hw:swappedStores [t] e env=Pure.pure none:=by rfl):
  Tr c E m n (execs (.Assign [t] e p::r) env) K:= .mk fun s l=>
 Lp (wpAny_Assign_stores (F0 l h fun v s' _ _ l' q=>by
  refine aa he ?_;exact F0 l' q fun _ s' _ _ l' q=>q.go s' l') hs hw)
theorem Ie(hm:(D,listOf #[x,y] k)∈n)(h:Tr c E m n (assign a env x) (kT c E (fun _=>assign b env y) U))
  (he:assignEach [a,b] env=[(false,assign a env),(false,assign b env)]:=by rfl):Tr c E m n (assign (.Tuple [a,b] kk p) env (.ref D)) U:= .mk fun s l=>by
 have ht:s.heap.IsList D #[x,y]:=⟨_,(l.N _ hm).1,rfl,k,rfl⟩;exact kun_list l.F l.N ht rfl (by refine aa he ?_;rfl) (by refine aa he ?_;rfl) fun h' F' N'=>by
  exact aa he (MR (c6 (h.go _ (l.to F' N' l.D l.G rfl)) fun _ s1 _ _ l1 q=>MR (up (q.go s1 l1) fun _ s2 q=>assignInOrder_nil q)))
theorem JH(hy:(y.length==0)=false)(hz:x.length<=100000)(hq:Txt.splitMax x y 1=[p,q])(h:∀ (D:Nat) t1 t2,J (.ref D) m ((D,listOf #[.str p t1, .str q t2] 0)::n)):Tr c E m n (call (.builtin "str.split") [.str x t, .str y u, .int 1 v]) J:= .mk fun s l=>
 splitN2A l.F l.N hy (by decide) (fun ls h' tk h1 _ _ _ F' N'=>by
  rw[hq] at h1;obtain⟨t1,t2,rfl⟩:=pT h1;exact⟨m,_,l.to F' N' (l.D.fresh fun p hp=>KO (l.N p hp).1) l.G rfl,h _ t1 t2⟩) (by refine aa Lf ?_;exact L1 [_] (.a V0 (.n 2)) (.n 16777216) 1 V0 (.n 100000) rfl hz)
theorem Je(hy:(y.length==0)=false)(hz:x.length<=100000)(hq:Txt.rsplitMax x y 1=[p,q])(h:∀ (D:Nat) t1 t2,J (.ref D) m ((D,listOf #[.str p t1, .str q t2] 0)::n)):Tr c E m n (call (.builtin "str.rsplit") [.str x t, .str y u, .int 1 v]) J:= .mk fun s l=>
 rsplitN2A l.F l.N hy (by decide) (fun ls h' tk h1 _ _ _ F' N'=>by
  rw[hq] at h1;obtain⟨t1,t2,rfl⟩:=pT h1;exact⟨m,_,l.to F' N' (l.D.fresh fun p hp=>KO (l.N p hp).1) l.G rfl,h _ t1 t2⟩) (by refine aa Lf ?_;exact L1 [_] (.a V0 (.n 2)) (.n 16777216) 1 V0 (.n 100000) rfl hz)
theorem JF(hM:xw Rs c E)(h:Tr c E m n (eval XR c.env) fun v _ _=>bG (fun(x:Str) (t:Tok)=>v=.str x t) (fun x _=>Rs x []))
  (hx:c.env.kindOf "ValueError"=some .globalImplicit:=by rfl) (he:starEach [XR] c.env=[(false,eval XR c.env)]:=by rfl):Tr c E m n (execs (.Raise (some (.Call (.Name "ValueError" np) [XR] [] cpos)) none pos::r) c.env) K:= .mk fun s l=>by
 obtain⟨_,_,_,t⟩:=l.T;refine Lp (Raise_madeB PySem.F.excCall_ValueError PySem.F.excRaise_ValueError rfl (nameX_B l.F l.X (topRead_of t) (by k_is) (by boot_fast) (by decide) ⟨rfl,Ll (F0 l h fun v s' m' n' l' ⟨x,tk,e,hw⟩=>Lz ?_) he⟩ l.hk hx) he);subst e;exact⟨by refine aa Lf ?_;exact KA rfl,fun h' e hx=>hM _ _ _ _ _ _ _ hw l' hx⟩
theorem IF(h:J (.bool (x==y)) m n):Tr c E m n (compareOp .Eq (.str x t) (.str y u)) J:= .mk fun _ l=>PyProof.Rows.eq_str ⟨m,n,l,h⟩
theorem Hv(hz:(out++x).length<=1000000)(h:Tr c E m n (joinParts (out++x) ps) J):Tr c E m n (joinParts out (eval (.Constant (.str x) k p) env::ps)) J:=G4 (Gc fun _=>⟨_,_,rfl,hz,h⟩)
theorem H1(hv:m x=some (.str y t))(hy:y.length<=10000)(hz:(out++y).length<=1000000)(h:Tr c E m n (joinParts (out++y) ps) J)(hx:c.env.kindOf x=some .local:=by rfl)(hd:(x==("__debug__":Str))=false:=by decide):
  Tr c E m n (joinParts out (eval (.FormattedValue (.Name x px) (-1) none p) c.env::ps)) J:=G4 (HX (FX hv (HQ (KF hy (by decide)) fun _=>⟨_,_,rfl,hz,h⟩) hx hd))
theorem H4(hm:c.h₀.get? t=some (bl x y k))(h:Tr c E m n (assign a env x) (kT c E (fun _=>assign b env y) U))
  (he:assignEach [a,b] env=[(false,assign a env),(false,assign b env)]:=by rfl):Tr c E m n (assign (.Tuple [a,b] kk p) env (.ref t)) U:= .mk fun s l=>by
 have ht:IsTup s.heap t #[x,y]:=⟨_,l.F.keep _ _ hm,rfl,k,rfl⟩;exact unpackN_ l.F l.N ht rfl (by refine aa he ?_;rfl) (by refine aa he ?_;rfl) fun h' F' N'=>by
  exact aa he (MR (c6 (h.go _ (l.to F' N' l.D l.G rfl)) fun _ s1 _ _ l1 q=>MR (up (q.go s1 l1) fun _ s2 q=>assignInOrder_nil q)))
theorem aZ{names:List (Str×NameKind)}{binds:List (Str×Value)}(h:(binds.all fun y=>names.lookup y.1==some .local)=true):∀ y∈binds,names.lookup y.1=some .local:=fun y hy=>by simpa using List.all_eq_true.mp h y hy
theorem o8(a:aE)(t:Nat->Tok)(Yg:Value)(seen done:Bool):iA "_iter_namespaces" (aD a t Yg seen done) 75:=⟨by k_is,by k_is,by k_is,by k_is,by k_get⟩
end
structure rE(pre nm:Str)(tk t3 t4:Tok)(m:X5):Prop where
 p:m (Yc "prefix")=some (.str pre t3)
 n:m (Yc "name")=some (.str nm t4)
 q:m (Yc "prefixed_name")=some (.str (pre++Yc ":"++nm) tk)
theorem rP(wa:aE)(t:Nat->Tok)(Yg:Value)(seen done:Bool)(n cn:Nat)(ns:ay)(pre nm:Str)(tk:Tok)(Qw:pre.length<=1000)(Qs:nm.length<=1000)(WD:∀ x∈ns,x.2.1.length<=1000)(RB:∀ p∈ns.flat,p.YA.length<=1000/\p.pre.length<=1000)(hsq:Txt.splitMax (pre++Yc ":"++nm) (Yc ":") 1=[pre,nm]):
  iz 4 82 ⟨[.ref wa.W, .str (pre++Yc ":"++nm) tk],[]⟩ [(wa.W,instObj 150 wa.D),(wa.D,dictOf (aD wa t Yg seen done) n),(wa.ns,lO ns.refs cn)] ns.read
   (fun r V8=>(aM (fun u=>ns.uriOf pre=some u) (fun u=>fe (Yc "{"++u++Yc "}"++nm) r))/\V8=[(wa.W,instObj 150 wa.D),(wa.D,dictOf (aD wa t Yg seen done) n),(wa.ns,lO ns.refs cn)])
   (fun PO Yp=>(ns.uriOf pre=none/\PO=Yc "Prefix "++pre++Yc " of QName \""++(pre++Yc ":"++nm)++Yc "\" is not declared in scope")/\Yp=[]):=by
 refine' HT (binds:=[(Yc "self", .ref wa.W),(Yc "prefixed_name", .str (pre++Yc ":"++nm) tk)]) (by k_is) (by k_is) (by exact fun s X=>LH rfl) (by exact aZ rfl) (by rfl) (by rfl) (by rfl) (by decide) ?k9 ?_
 case k9=>
  rintro PO Yp ⟨-,rfl⟩ q hq
  cases hq
 intro A₀ base dp un gd L outer h₀ os g₀ c E K hE QP hK hR hM;have Qi:(pre++Yc ":"++nm).length<=2001:=by refine aa (KB _ _) (aa (KB _ _) ?_);show _+1+_<=_;exact L2 [_,_] (.a (.a V0 W1) V1) (.n 2001) 1 V0 (.n 1000) 1 V1 (.n 1000) rfl Qw Qs
 refine Il (Ga (FX rfl (HM PySem.F.slot_str_split PySem.F.type_str_split (Gq (FZ (Gc fun t1=>FZ (F7 fun t2=>FY (JH rfl (KF Qi (by decide)) hsq fun D t3 t4=>Ie (.head _) (Go (Go (GW (Lq _ _) ?_)))))))))));show Tr _ _ _ _ _ _;generalize hm:(fun y=>if y=Yc "name" then some (Value.str nm t4) else _)=m1;have s1:m1 (Yc "self")=some (.ref wa.W):=ae hm rfl;have l1:rE pre nm tk t3 t4 m1:=ae hm ⟨rfl,rfl,rfl⟩;clear hm;generalize SB:[(wa.W,instObj 150 wa.D),(wa.D,dictOf (aD wa t Yg seen done) n),(wa.ns,lO ns.refs cn)]=P1 at hK⊢;have f1:(wa.W,instObj 150 wa.D)∈P1:=ae SB (.head _);have f2:(wa.D,dictOf (aD wa t Yg seen done) n)∈P1:=ae SB aJ;have f3:(wa.ns,lO ns.refs cn)∈P1:=ae SB co;clear SB;refine Gu (Ir (ns:=ns) (cL:=cn) (fun j m' n'=>n'=P1/\rE pre nm tk t3 t4 m'/\∀ i,i<j->∀ p,ns.flat[i]?=some p->p.pre≠pre) QP (by show 1<=3;decide) s1 f1 f2 (o8 wa t Yg seen done) (lB wa t Yg seen done) WD ?sh (fun j m' n' h=>by exact aa h.1 rfl) ⟨rfl,l1,fun i h=>absurd h (LK _)⟩ ?turn ?last)
 case sh=>
  rintro j m' n' ⟨rfl,-,-⟩ z hz;rw[HU] at hz;rcases KG.mp hz with rfl|hz
  ·exact .inl f3
  ·exact .inr (hR z (Ky _ hz))
 case turn=>
  rintro j q own m' n' K2 g hq ⟨rfl,lk,Q6⟩ hnx hrt;have hqm:q∈ns.flat:=LJ hq;have Us:=RB q hqm;refine H4 (hR q.ent (Kz _ (KU hqm))) (Go (Go ?_));show Tr _ _ _ _ _ _;generalize hm:(fun y=>if y=Yc "p" then some (Value.str q.pre q.tp) else _)=m2;have p2:m2 (Yc "p")=some (.str q.pre q.tp):=ae hm rfl;have u2:m2 (Yc "uri")=some (.str q.YA q.tu):=ae hm rfl;have l2:rE pre nm tk t3 t4 m2:=ae hm ⟨lk.p,lk.n,lk.q⟩;clear hm lk;refine Gk (Gb (FX p2 (FX l2.p (IF (F9 ?_)))))
  cases Ro:q.pre==pre
  ·exact F6 (F6 (hnx _ _ ⟨rfl,l2,fun i hi p hp=>by
    rcases NZ.mp hi with h|rfl
    ·exact Q6 i h p hp
    ·rw[hq] at hp
     cases hp;intro e;rw[e,OF] at Ro
     cases Ro⟩))
  ·refine GM (Hf (Hv ?z1 (H1 u2 (bd Us.1) ?z2 (GQ (Hv ?z3 (GQ (H1 l2.n (bd Qs) ?z4 (G0 (G7 ?z5 fun t5=>hrt _ _ _ (hK _ _ _ _ (Ly _ _) ⟨⟨q.YA,Ik hq (eq_of_beq Ro) Q6,?is⟩,rfl⟩))))))))))
   case is=>exact fe.of (by exact aa (Mc _) rfl)
   all_goals simp only[Mc,KB,uF,uG,Ah];lia
 case last=>
  rintro m' n' ⟨rfl,lk,Q6⟩;refine JF hM (Hf (Hv ?y1 (H1 lk.p (KF Qw (by decide)) ?y2 ?_)))
  case y1=>exact KA rfl
  case y2=>refine aa (KB _ _) ?_;show 7+_<=_;exact L1 [_] (.a (.n 7) V0) (.n 1000000) 1 V0 (.n 1000) rfl Qw
  refine GQ (Hv ?y3 (GQ (H1 lk.q (KF Qi (by decide)) ?y4 ?_)))
  case y3=>refine aa (KB _ _) (aa (KB _ _) ?_);show 7+_+11<=_;exact L1 [_] (.a (.a (.n 7) V0) (.n 11)) (.n 1000000) 1 V0 (.n 1000) rfl Qw
  case y4=>(refine aa (KB _ _) ?_;rw[KB];refine aa (KB _ _) ?_);show 7+_+11+_<=_;exact L2 [_,_] (.a (.a (.a (.n 7) V0) (.n 11)) V1) (.n 1000000) 1 V0 (.n 1000) 1 V1 (.n 2001) rfl Qw Qi
  refine GQ (Hv ?y5 ?_)
  case y5=>(refine aa (KB _ _) (aa (KB _ _) ?_);rw[KB];refine aa (KB _ _) ?_);show 7+_+11+_+26<=_;exact L2 [_,_] (.a (.a (.a (.a (.n 7) V0) (.n 11)) V1) (.n 26)) (.n 1000000) 1 V0 (.n 1000) 1 V1 (.n 2001) rfl Qw Qi
  refine G0 ?_
  with_reducible refine G7 ?y6 ?_
  case y6=>(refine aa (KB _ _) (aa (KB _ _) ?_);rw[KB];refine aa (KB _ _) ?_);show 7+_+11+_+26<=_;exact L2 [_,_] (.a (.a (.a (.a (.n 7) V0) (.n 11)) V1) (.n 26)) (.n 1000000) 1 V0 (.n 1000) 1 V1 (.n 2001) rfl Qw Qi
  intro t5
  with_reducible refine bG.mk _ t5 rfl ⟨⟨Ij fun i hi=>Q6 i (by rw[GX,KE] at hi;exact hi),?_⟩,rfl⟩
  rw[Mc]
section
variable{c:Fx}{E:X6}{m:X5}{n pre post:X4}{J:ad Value}{U:ad Unit}{env Yj:Env}
theorem H0(e:nsIn (am w.params) mainGlobals x=some none)(hv:bootBuiltins x=some v)(hn:x≠"__name__")(h:J v m n)(hg:Yj.globals=mainGlobals:=by rfl)(hb:Yj.builtins=builtinsNs:=by rfl)(hk:Yj.scope.kind=.function:=by rfl)(hx:Yj.kindOf x=some .globalImplicit:=by rfl)(hd:(x==("__debug__":Str))=false:=by decide):
  Tr c E m n (eval (.Name x p) Yj) J:= .mk fun _ l=>by
 obtain⟨_,_,_,t⟩:=l.T;have T:=topRead_of t;exact Name_function_global hk hx (loadGlobal_builtin (env:=Yj) (by refine aa hg ?_;exact T.g.keeps l.F.keep) (mg_none_of l.X T.g e) (by refine aa hb ?_;exact T.b.keeps l.F.keep) ((T.builtins x hn).trans hv) ⟨m,n,l,h⟩) hd
theorem HY{y:Str}{xp p:Pos}{e:X7}{id:String}(hf:∀ J:ad Value,J (.builtin id) m n->Tr c E m n (eval (.Name y xp) env) J)(h:Tr c E m n (eval e env) (kT c E (fun v=>call (.builtin id) [v]) J))
  (he:starEach [e] env=[(false,eval e env)]:=by rfl):Tr c E m n (eval (.Call (.Name y xp) [e] [] p) env) J:= .mk fun s l=>
 LB rfl (c6 ((hf (fun v m' n'=>v=.builtin id/\m'=m/\n'=n) ⟨rfl,rfl,rfl⟩).go s l) fun _ s' _ _ l' hv=>by
  obtain⟨e1,e2,e3⟩:=hv;subst e1 e2 e3;exact N7 (Ll (up (h.go s' l') fun _ s1 hv=>Lz (by obtain⟨_,_,l1,q⟩:=hv;exact q.go s1 l1)) he) he)
theorem It{y:Str}{xp p:Pos}{e:X7}{T:String}(hf:∀ J:ad Value,J (.type T) m n->Tr c E m n (eval (.Name y xp) env) J)(h:Tr c E m n (eval e env) (kT c E (fun v=>call (.type T) [v]) J))
  (he:starEach [e] env=(false,eval e env)::starEach [] env:=by rfl):Tr c E m n (eval (.Call (.Name y xp) [e] [] p) env) J:= .mk fun s l=>
 LB rfl (c6 ((hf (fun v m' n'=>v=.type T/\m'=m/\n'=n) ⟨rfl,rfl,rfl⟩).go s l) fun _ s' _ _ l' hv=>by
  obtain⟨e1,e2,e3⟩:=hv;subst e1 e2 e3;exact callWith_type1 (Ll (up (h.go s' l') fun _ s1 hv=>Lz (by obtain⟨_,_,l1,q⟩:=hv;exact q.go s1 l1)) he) he)
theorem J8(hn:n=pre++(a,o)::post)(hd:o.data=.cell X2)(h:∀ o',o'.data=.cell (some v)->U () m (pre++(a,o')::post))(hc:Yj.cells.lookup x=some a:=by rfl)(hk:Yj.scope.kind=.function:=by rfl)(hx:Yj.kindOf x=some .cell:=by rfl):
  Tr c E m n (assign (.Name x p) Yj v) U:= .mk fun s l=>by
 have Ud:=fb pre hn l.D;obtain⟨own,rest,e,hg,h1,h2⟩:=Ud.split;subst hn;have Rj:=l.N (a,o) (Kz _ (.head _));refine Op (wpAny_storeName_cell hk hx hc ⟨o,Rj.1,hd⟩ fun h' hv hs=>?_);obtain⟨o',Rr,Ue⟩:=hv;have N2:News c.h₀ c.L h' (own++(a,o')::rest):=(e▸l.N).setAt h1 h2 hs Rr;rw[←hg] at N2;exact⟨m,_,l.to ⟨l.F.ns.sameBut hs (MF Rj.2.1),fun b ob e=>(hs.2 b (fun q=>by rw[q,Rj.2.2] at e;cases e)).trans (l.F.keep b ob e),l.F.above⟩ N2 l.D.set l.G rfl,h o' Ue⟩
def df(wa:aE)(t:Nat->Tok)(Yg:Value)(seen done:Bool)(n cd:Nat)(init:ay)(al:Nat)(Yk:List Pr)(cl:Nat)(po:Obj):X4:=
 [(wa.W,instObj 150 wa.D),(wa.D,dictOf (aD wa t Yg seen done) n),(wa.decl,lO (init.refs++[Value.ref al]) cd),(al,lO (Yk.map Pr.val) cl),(wa.YB,po)]
abbrev ah(u tg:Str):Str:=Yc "{"++u++Yc "}"++tg
structure iB(u tg:Str):Prop where
 ul:u.length<=1000
 tl:tg.length<=1000
 q1:(Txt.slice (ah u tg) none (some 1)==Yc "{")=true
 q2:Txt.rsplitMax (Txt.slice (ah u tg) (some 1) none) (Yc "}") 1=[u,tg]
 q3:(Txt.slice (ah u tg) (some 1) none).length<=3000
structure zB(ns:ay)(pm:List UP):Prop where
 YC:bK pm
 dk:bj (ns.flat.map Pr.up) pm
 pl:pm.length<=60
 cap:∀ x∈ns,x.2.1.length<=1000
 len:ns.flat.length<=1000
inductive BL(wa:aE)(t:Nat->Tok)(Yg:Value)(seen done:Bool)(n cd:Nat)(init:ay)(al:Nat)(Yk:List Pr)(pm:List UP)(u tg:Str):Value->X4->Prop
 |mk (a3:Nat) (x:Str) (t1 t2 t3:Tok) (T1 new:List Pr) (YE:X4) (Sn:Nat) (Qg:Obj) (UA:List UP):aL (init.flat.map Pr.up) (Yk.map Pr.up,pm) u=(x,(T1.map Pr.up,UA))->gv Qg UA->T1=Yk++new->YE=new.map Pr.ent->
  BL wa t Yg seen done n cd init al Yk pm u tg (.ref a3) ((a3,ip (.str (x++Yc ":"++tg) t1) (.str tg t2) (.str u t3) 0)::(df wa t Yg seen done n cd init al T1 Sn Qg++YE))
theorem zB.inj(h:zB (init++[(al,Yk,cl)]) pm)(hp:p∈(init++[(al,Yk,cl)]:ay).flat)(hq:q∈(init++[(al,Yk,cl)]:ay).flat)(e:p.pre=q.pre):p.YA=q.YA:=
 h.dk.inj h.YC h.pl (KU (f:=Pr.up) hp) (KU (f:=Pr.up) hq) e
theorem pH{init:ay}{al cl:Nat}{Yk:List Pr}{pm:List UP}{u:Str}:
  aL (init.flat.map Pr.up) (Yk.map Pr.up,pm) u=match (init++[(al,Yk,cl)]:ay).preOf u with
   |some x=>(x,(Yk.map Pr.up,pm))
   |none=>match b8 pm u with
    |some x=>(x,(Yk.map Pr.up++[(u,x)],pm))
    |none=>(cG pm,(Yk.map Pr.up++[(u,cG pm)],pm++[(u,cG pm)])):=by
 exact aa (Iy _ _) (aa (cw _ _ _ _) (aa KN rfl))
variable{B:ad Bool}{K:ad (Value×X8)}
theorem Kq(h:J (.bool true) m n):Tr c E m n (compareOp .Is .none .none) J:= .mk fun _ l=>is_none ⟨m,n,l,h⟩
theorem HJ(e:b=b')(h:B b' m n):Tr c E m n (truthy (.bool b)) B:=e▸F9 h
theorem Km(e:nsIn (am w.params) mainGlobals x=some none)(hv:bootBuiltins x=some (.type "set"))(hn:x≠"__name__")(h:∀ (D:Nat) so,so.SetObjOf (PySem.strKind PR w) (fun _=>false) 0->J (.ref D) m ((D,so)::n))
  (hx:c.env.kindOf x=some .globalImplicit:=by rfl) (hd:(x==("__debug__":Str))=false:=by decide):Tr c E m n (eval (.Call (.Name x px) [] [] p) c.env) J:= .mk fun s l=>
 LB rfl (c6 ((HK (J:=fun v m' n'=>v=.type "set"/\m'=m/\n'=n) e hv hn ⟨rfl,rfl,rfl⟩ hx hd).go s l) fun _ s' _ _ l' ⟨e1,e2,e3⟩=>by
  subst e1 e2 e3;exact callWith_type0 (newSet_N l'.F l'.N fun h' led F' N'=>⟨_,_,l'.to F' N' (l'.D.fresh fun p hp=>KO (l'.N p hp).1) l'.G rfl,h _ _ (setObjOf_fresh led)⟩))
theorem JD(hm:(D,so)∈n)(hS:so.SetObjOf (PySem.strKind PR w) S k)(hz:k<=1000)(h:J (.bool (!S x)) m n):Tr c E m n (compareOp .NotIn (.str x t) (.ref D)) J:= .mk fun _ l=>
 wpAny_notInSet_of (NE _ _ _ _) rfl (hS.setOf (l.N _ hm).1 (by unfold scanBound;exact L1 [_] (.a V0 W1) (.n 4096) 1 V0 (.n 1000) rfl hz)) ⟨m,n,l.tok,h⟩
theorem JU(hm:(D,so)∈n)(hS:so.SetObjOf (PySem.strKind PR w) S k)(hz:k<=1000)(h:K (.builtin "set.add",[.ref D]) m n):Tr c E m n (getMethod (.ref D) "add" pl) K:= .mk fun _ l=>
 getMethod_set_add (hS.setOf (l.N _ hm).1 (by unfold scanBound;exact L1 [_] (.a V0 W1) (.n 4096) 1 V0 (.n 1000) rfl hz)) ⟨m,n,l,h⟩
theorem J4(hn:n=pre++(D,so)::post)(hS:so.SetObjOf (PySem.strKind PR w) S k)(hz:k<=1000)(h:∀ SL,SL.SetObjOf (PySem.strKind PR w) (fun y=>S y||decide (y=x)) (if S x then k else k+1)->J .none m (pre++(D,SL)::post)):
  Tr c E m n (call (.builtin "set.add") [.ref D, .str x t]) J:= .mk fun s l=>by
 obtain⟨own,rest,e,hg,h1,h2⟩:=(fb pre hn l.D).split;subst hn;exact add_sl1 l.F (e▸l.N) h1 h2 hS (by unfold scanBound;exact L1 [_] (.a (.a V0 W1) W1) (.n 4096) 1 V0 (.n 1000) rfl hz) (NE _ _ _ _) rfl fun _ SL F' N' S'=>⟨_,_,l.to F' (by refine aa (hg _) ?_;exact N') l.D.set l.G rfl,h SL S'⟩
theorem Jy(hm:(d,ob)∈n)(hd:ob.IsDictOf (PySem.strKind PR w) PN)(lo:(d==sysModules)=false)(hb:(valueAt PN x).isSome=b)(h:J (.bool b) m n):Tr c E m n (compareOp .In (.str x t) (.ref d)) J:= .mk fun _ l=>
 kda_in l.N hm hd lo (NE _ _ _ _) b hb ⟨m,n,l.tok,h⟩
theorem Kh(hm:(d,ob)∈n)(hd:ob.IsDictOf (PySem.strKind PR w) PN)(lo:(d==sysModules)=false)(hz:PN.length<=1000)(h:∀ t,J (.int PN.length t) m n):Tr c E m n (call (.builtin "len") [.ref d]) J:= .mk fun _ l=>
 kda_len l.N hm hd lo (bd hz) ⟨m,n,l.tok,h _⟩
theorem Jw(hi:i.natAbs.log2<1920)(h:∀ t',J (.str (Yc (toString i)) t') m n):Tr c E m n (formatField (.int i t) Str.empty) J:= .mk fun _ l=>
 PyProof.Rows.formatField_int_small hi ⟨m,n,l.tok,h _⟩
theorem Kv(hv:m x=some (.str y t))(hy:y.length<=10000)(h:Tr c E m n (joinParts y ps) J)(hx:c.env.kindOf x=some .local:=by rfl)(hd:(x==("__debug__":Str))=false:=by decide):
  Tr c E m n (joinParts Str.empty (eval (.FormattedValue (.Name x px) (-1) none p) c.env::ps)) J:=H1 hv hy (by refine aa (Mc _) ?_;exact bd hy) (by refine aa (Mc _) ?_;exact h) hx hd
theorem IC(hx:m x=some (.str a t))(hy:m y=some (.str b u))(ha:a.length<=1000)(hb:b.length<=1000)(h:∀ t,J (.str (a++Yc ":"++b) t) m n)
  (kx:c.env.kindOf x=some .local:=by rfl) (dx:(x==("__debug__":Str))=false:=by decide) (ky:c.env.kindOf y=some .local:=by rfl) (dy:(y==("__debug__":Str))=false:=by decide):
  Tr c E m n (eval (.JoinedStr [.FormattedValue (.Name x p1) (-1) none p2, .Constant (.str (Yc ":")) k p3, .FormattedValue (.Name y p4) (-1) none p5] p6) c.env) J:=by
 have h1:(a++Yc ":").length<=1001:=by refine aa (KB _ _) ?_;show a.length+1<=1001;exact AK ha
 have h2:(a++Yc ":"++b).length<=2001:=by refine aa (KB _ _) ?_;exact L2 [_,_] (.a V1 V0) (.n 2001) 1 V0 (.n 1000) 1 V1 (.n 1001) rfl hb h1
 exact Hf (Kv hx (bd ha) (Hv (bd h1) (GQ (H1 hy (bd hb) (bd h2) (G0 (G7 (bd h2) h)) ky dy))) kx dx)
end
section
variable(a:aE)(t:Nat->Tok)(Yg:Value)(seen done:Bool)
theorem AA:dR "_rewrite_prefixes" (aD a t Yg seen done) (.bool true):=⟨by k_is,by k_is,⟨_,by k_is,by k_is⟩,by k_get,by k_handed⟩
theorem ia:dR "_prefix_map" (aD a t Yg seen done) (.ref a.YB):=⟨by k_is,by k_is,⟨_,by k_is,by k_is⟩,by k_get,by k_handed⟩
end
structure j6(W S:Nat)(u tg:Str)(tu tt:Tok)(m:X5):Prop where
 self:m (Yc "self")=some (.ref W)
 seen:m (Yc "prefixes_seen")=some (.ref S)
 YA:m (Yc "uri")=some (.str u tu)
 tag:m (Yc "tag")=some (.str tg tt)
inductive zz(W S:Nat)(u tg:Str)(tu tt:Tok)(ns:ay)(P1:X4)(j:Nat):X5->X4->Prop
 |mk {m:X5} (so:Obj) (k:Nat):k<=j->so.SetObjOf (PySem.strKind PR w) (fY ns j) k->j6 W S u tg tu tt m->(∀ i,i<j->∀ p,ns.flat[i]?=some p->p.YA≠u)->zz W S u tg tu tt ns P1 j m ((S,so)::P1)
inductive zA(wa:aE)(t:Nat->Tok)(Yg:Value)(seen done:Bool)(n cd:Nat)(init:ay)(al cl:Nat)(Yk:List Pr)(pm:List UP)(S:Nat)(u tg:Str)(tu tt:Tok):Flow->X5->X4->Prop
 |mk {m:X5} (x:Str) (tx:Tok) (Qg:Obj) (UA:List UP):m (Yc "prefix")=some (.str x tx)->j6 wa.W S u tg tu tt m->x.length<=1000->gv Qg UA->aL (init.flat.map Pr.up) (Yk.map Pr.up,pm) u=(x,(Yk.map Pr.up++[(u,x)],UA))->zA wa t Yg seen done n cd init al cl Yk pm S u tg tu tt .next m (df wa t Yg seen done n cd init al Yk cl Qg)
theorem I6(p:Pr)(hn:n=pre++(D,lO (Yk.map Pr.val) k)::post)(hz:Yk.length<=1000)(h:J .none m (pre++(D,lO ((Yk++[p]).map Pr.val) (k+1))::post)):
  Tr c E m n (call (.builtin "list.append") [.ref D, .ref p.a]) J:=Gs hn (by refine aa (KE _) ?_;exact bd hz) (by rw[KN] at h;exact h)
namespace QNk
def Q(wa:aE)(t:Nat->Tok)(Yg:Value)(seen done:Bool)(n cd:Nat)(init:ay)(al cl:Nat)(Yk:List Pr)(pm:List UP)(po:Obj)(u tg:Str)(tk:Tok):Prop:=∀ (Qr:(wa.YB==sysModules)=false) (Yw:gv po pm) (hQ:zB (init++[(al,Yk,cl)]) pm) (hN:iB u tg),iz 4 90 ⟨[.ref wa.W, .str (ah u tg) tk],[]⟩ (df wa t Yg seen done n cd init al Yk cl po) (init.lists++(init++[(al,Yk,cl)]:ay).flat.map Pr.ent) (BL wa t Yg seen done n cd init al Yk pm u tg) eT
def P_(y:(((aE×(Nat->Tok))×Value×Bool)×(Bool×Nat)×Nat×ay)×((Nat×Nat)×(List Pr)×(List UP))×(Obj×Str)×Str×Tok):Prop:=Q y.1.1.1.1 y.1.1.1.2 y.1.1.2.1 y.1.1.2.2 y.1.2.1.1 y.1.2.1.2 y.1.2.2.1 y.1.2.2.2 y.2.1.1.1 y.2.1.1.2 y.2.1.2.1 y.2.1.2.2 y.2.2.1.1 y.2.2.1.2 y.2.2.2.1 y.2.2.2.2
def y_:(((aE×(Nat->Tok))×Value×Bool)×(Bool×Nat)×Nat×ay)×((Nat×Nat)×(List Pr)×(List UP))×(Obj×Str)×Str×Tok:=pk (cC (cC (cC (cC i9 inferInstance) inferInstance) inferInstance) inferInstance) P_
def wa:aE:=y_.1.1.1.1
def t:Nat->Tok:=y_.1.1.1.2
def Yg:Value:=y_.1.1.2.1
def seen:Bool:=y_.1.1.2.2
def done:Bool:=y_.1.2.1.1
def n:Nat:=y_.1.2.1.2
def cd:Nat:=y_.1.2.2.1
def init:ay:=y_.1.2.2.2
def al:Nat:=y_.2.1.1.1
def cl:Nat:=y_.2.1.1.2
def Yk:List Pr:=y_.2.1.2.1
def pm:List UP:=y_.2.1.2.2
def po:Obj:=y_.2.2.1.1
def u:Str:=y_.2.2.1.2
def tg:Str:=y_.2.2.2.1
def tk:Tok:=y_.2.2.2.2
theorem go:Q wa t Yg seen done n cd init al cl Yk pm po u tg tk:=by
 intro Qr Yw hQ hN;refine' HT (binds:=[(Yc "self", .ref wa.W),(Yc "qname", .str (ah u tg) tk),(Yc "uri", .none)]) (by k_is) (by k_is) (by exact fun s X=>binds_K X rfl (by k_is) rfl rfl rfl) (by exact aZ rfl) (by rfl) (by rfl) (by rfl) (by decide) (by exact fun _ _ h=>h.elim) ?_;intro A₀ base dp un gd L outer h₀ os g₀ c E K hE QP hK hR hM;have Us:(ah u tg).length<=100000:=by refine aa (KB _ _) (aa (KB _ _) (aa (KB _ _) ?_));show 1+_+1+_<=_;have:=hN.ul;have:=hN.tl;lia
 refine Gk (Gb (FX rfl (Gw (Kq (F9 (Il (Hb (Gb (HO (FX rfl ⟨_,_,rfl,?z1,fun t1=>Gc fun t2=>IF (HJ hN.q1 (Ga (HH (FX rfl ⟨_,_,rfl,?z2,fun t3=>HM PySem.F.slot_str_rsplit PySem.F.type_str_rsplit (Gq (FZ (Gc fun t4=>FZ (F7 fun t5=>FY (Je rfl ?z3 hN.q2 fun D tu tt=>Ie (.head _) (Go (Go (GW (Lq _ _) (F6 ?_)))))))))⟩))))⟩))))))))))
 case z1=>exact Us
 case z2=>exact Us
 case z3=>exact KF hN.q3 (by decide)
 refine Gf (Km (by k_is) (by boot_fast) (by decide) fun S so hso=>?_);show Tr _ _ _ _ _ _;generalize hm:(fun y=>if y=Yc "prefixes_seen" then some (Value.ref S) else _)=m1;revert m1;refine wrap ?_;intro m1 hm;have l1:j6 wa.W S u tg tu tt m1:=ae hm ⟨rfl,rfl,rfl,rfl⟩;clear hm;generalize SB:df wa t Yg seen done n cd init al Yk cl po=P1;revert P1;refine wrap ?_;intro P1 SB;have f1:(wa.W,instObj 150 wa.D)∈P1:=ae SB (.head _);have f2:(wa.D,dictOf (aD wa t Yg seen done) n)∈P1:=ae SB aJ;have f3:∀ p∈[(wa.decl,lO (init.refs++[Value.ref al]) cd),(al,lO (Yk.map Pr.val) cl)],p∈P1:=ae SB (fun p hp=>dj (Ky [_] hp));refine Gu (Ir (ns:=init++[(al,Yk,cl)]) (cL:=cd) (zz wa.W S u tg tu tt (init++[(al,Yk,cl)]) P1) QP (by show 1<=3;decide) l1.self (.tail _ f1) (.tail _ f2) (o8 wa t Yg seen done) (fU wa t Yg seen done) hQ.cap ?sh ?hA (.mk so 0 (KZ _) hso l1 fun i h=>absurd h (LK _)) ?turn ?last)
 case hA=>
  rintro j m' n' ⟨SL,k,hk,hS,lk,Q6⟩
  rfl
 case sh=>
  rintro j m' n' ⟨SL,k,hk,hS,lk,Q6⟩ z hz;have e:bH wa.decl cd (init++[(al,Yk,cl)]:ay).stk=(wa.decl,lO (init.refs++[Value.ref al]) cd)::(init.lists++[(al,lO (Yk.map Pr.val) cl)]):=by
   refine aa (HU _ _ _) ?_;unfold ay.refs ay.lists;exact aa KN (aa KN rfl)
  rw[e] at hz;rcases KG.mp hz with rfl|hz
  ·exact .inl (.tail _ (f3 _ (.head _)))
  ·rcases KK.mp hz with hz|hz
   ·exact .inr (hR z (Ky _ hz))
   ·exact .inl (.tail _ (f3 _ (.tail _ hz)))
 case turn=>
  rintro j q own m' n' K2 g hq ⟨SL,k,hk,hS,lk,Q6⟩ hnx hrt;have hqm:q∈(init++[(al,Yk,cl)]:ay).flat:=LJ hq;have hj:j<1000:=K9 (Lj.mp hq).1 hQ.len;obtain⟨ql1,ql2,ql3⟩:=hQ.dk.len hQ.YC hQ.pl (KU (f:=Pr.up) hqm);refine H4 (hR q.ent (Kz _ (KU hqm))) (Go (Go ?_));show Tr _ _ _ _ _ _;generalize hm:(fun y=>if y=Yc "prefix" then some (Value.str q.pre q.tp) else _)=m2;revert m2;refine wrap ?_;intro m2 hm;have p2:m2 (Yc "prefix")=some (.str q.pre q.tp):=ae hm rfl;have u2:m2 (Yc "u")=some (.str q.YA q.tu):=ae hm rfl;have l2:j6 wa.W S u tg tu tt m2:=ae hm ⟨lk.self,lk.seen,lk.YA,lk.tag⟩;clear hm lk;refine Gk (GR (Gy (Gb (FX u2 (FX l2.YA (IF ?_))))))
  by_cases hqu:q.YA=u
  ·have hb:(!fY (init++[(al,Yk,cl)]) j q.pre)=true:=by
    unfold fY
    (refine aa (Bool.not_eq_true' _) ?_;rw[List.any_eq_false])
    intro p hp he;obtain⟨i,hi,hp'⟩:=LO.mp hp;rw[Mr] at hi;rw[List.getElem_take] at hp';exact Q6 i (mL hi) p (by refine ae hp' ?_;exact KJ _) ((hQ.inj (hp'▸M5 _) hqm (eq_of_beq he)).trans hqu)
   refine HJ (Mx.mpr hqu) (Gy (Gb (FX p2 (FX l2.seen (JD (Kz _ (.head _)) hS (by exact L2 [_,_] V0 (.n 1000) 1 V0 V1 1 (.a V1 W1) (.n 1000) rfl hk hj) (HJ hb (He (GM (GA (FZ (Hb (Gn (FX p2 (HF ql3 (KF ql2 (by decide)) (IC p2 l2.tag ql2 hN.tl fun t6=>FZ (FX l2.tag (FZ (FX l2.YA (FY ⟨by show 3<=1000;decide,fun a3=>hrt _ _ _ (hK _ _ _ _ (.cons_cons _ ((Lq _ _).trans (Ly _ _))) ?fin)⟩)))))))))))))))))))
   case fin=>
    refine ae SB ?_;exact .mk a3 q.pre t6 tt tu Yk [] [] cl po pm (by exact aa (pH (al:=al) (cl:=cl)) (aa (Ii hq hqu Q6) rfl)) Yw (Lh _).symm rfl
  ·refine HJ (LL.mpr hqu) (F6 (Ge (Ga (FX l2.seen (JU (Kz _ (.head _)) hS (by exact L2 [_,_] V0 (.n 1000) 1 V0 V1 1 (.a V1 W1) (.n 1000) rfl hk hj) (Gq (FZ (FX p2 (FY (J4 (pre:=own) rfl hS (by exact L2 [_,_] V0 (.n 1000) 1 V0 V1 1 (.a V1 W1) (.n 1000) rfl hk hj) fun so2 QL=>F6 (hnx _ _ (.mk so2 (if fY (init++[(al,Yk,cl)]) j q.pre then k else k+1) ?k1 ?S2 l2 ?no))))))))))))
   case k1=>split<;>lia
   case S2=>exact(qx hq).symm▸QL
   case no=>
    intro i hi p hp;rcases NZ.mp hi with h|rfl
    ·exact Q6 i h p hp
    ·rw[hq] at hp
     cases hp;exact hqu
 case last=>
  rintro m' n' ⟨SL,k,hk,hS,lk,Q6⟩;have VD:(init++[(al,Yk,cl)]:ay).preOf u=none:=Ih fun i hi=>Q6 i (by rw[GX,KE] at hi;exact hi);clear Q6 hS;refine GW (Lq _ _) ?_;obtain⟨PN,hd,Vu⟩:=Yw;have Tj:PN.length<=60:=aa Vu.len hQ.pl;have f4:(wa.YB,po)∈P1:=ae SB iu;have QU:Yk.length<=1000:=hQ.cap _ (Kz _ (.head _));have Si:=pH (init:=init) (al:=al) (cl:=cl) (Yk:=Yk) (pm:=pm) (u:=u);rw[VD] at Si;refine Gk (Gn (Gr (AA wa t Yg seen done) lk.self f1 f2 (F9 (Gu (GH (K₁:=zA wa t Yg seen done n cd init al cl Yk pm S u tg tu tt) (fun T5 Sa=>?choice) ?rest)))))
  case choice=>
   refine GV (Gb (FX lk.YA (Gr (ia wa t Yg seen done) lk.self f1 f2 ?_)));rcases Vu.get (u:=u) with⟨hg,hv⟩|⟨x,tx,hg,hv⟩
   ·rw[hg] at Si
    have Qs:(cG pm).length<=1000:=(nP pm.length (by have:=hQ.pl;exact L1 [_] (.a V0 W1) (.n 64) 1 V0 (.n 60) rfl this)).1;have hpn:Yc "n"++Yc (toString (PN.length:Int))=cG pm:=aa Vu.len rfl;refine Jy (b:=false) f4 hd Qr (congrArg _ hv) (F9 (Ib (Hf (Hv ?z0 (GQ (G4 (HX (HY (fun J h=>HK (by k_is) (by boot_fast) (by decide) h) (Gr (ia wa t Yg seen done) lk.self f1 f2 (Kh f4 hd Qr (bd Tj) fun t1=>Jw ?log fun t2=>⟨_,_,rfl,?z1,?_⟩))))))))))
    case z0=>exact KA rfl
    case log=>exact Lv (Nat.log2_le_self _) (by refine aa (Int.natAbs_natCast _) ?_;exact L1 [_] (.a V0 W1) (.n 1920) 1 V0 (.n 60) rfl Tj)
    case z1=>refine aa (Mc _) (aa hpn ?_);exact bd Qs
    refine aa (Mc _) (aa hpn ?_);refine G0 (G7 (bd Qs) fun t3=>Go ?_);show Tr _ _ _ _ _ _;generalize hm:(fun y=>if y=Yc "prefix" then some (Value.str (cG pm) t3) else _)=m3;revert m3;refine wrap ?_;intro m3 hm;have l3:j6 wa.W S u tg tu tt m3:=ae hm ⟨lk.self,lk.seen,lk.YA,lk.tag⟩;have p3:m3 (Yc "prefix")=some (.str (cG pm) t3):=ae hm rfl;clear hm lk;refine Iv (Gr (ia wa t Yg seen done) l3.self f1 f2 (FX l3.YA (Iu (pre:=[_,_,_,_]) SB.symm hd (bd Tj) fun Qg Ue=>F6 (Sa _ _ _ (.mk (cG pm) t3 Qg _ p3 l3 Qs ⟨_,Ue,Vu.put hg⟩ Si)))))
   ·rw[hg] at Si
    have Ts:x.length<=1000:=(hQ.YC.pre hQ.pl _ (iQ hg)).1;refine Jy (b:=true) f4 hd Qr (congrArg _ hv) (F9 (Gf (Gg (Gr (ia wa t Yg seen done) lk.self f1 f2 (FX lk.YA (Hn f4 hd hv (F6 ?_)))))));exact ae SB (Sa _ _ _ (.mk x tx po _ rfl ⟨lk.self,lk.seen,lk.YA,lk.tag⟩ Ts ⟨_,hd,Vu⟩ Si))
  case rest=>
   rintro fl m4 n4 ⟨x,tx,Qg,UA,p4,l4,Ts,UE,hqs'⟩;refine Ge (Ga (Gg (Gr (fU wa t Yg seen done) l4.self (.head _) aJ (G6 fun t7=>Ho co (Gj ir Lo Lg (Gq (FZ (GA (FZ (FX l4.YA (FZ (FX p4 (FY ⟨by show 2<=1000;decide,fun a2=>FY (I6 (pre:=[_,_,_,_]) (Pr.mk a2 u x tu tx) rfl QU ?_)⟩)))))))))))));refine Gd (List.perm_append_singleton (a2,bl (.str u tu) (.str x tx) 0) (df wa t Yg seen done n cd init al (Yk++[Pr.mk a2 u x tu tx]) (cl+1) Qg)).symm ?_;refine GM (GA (FZ (IC p4 l4.tag Ts hN.tl fun t8=>FZ (FX l4.tag (FZ (FX l4.YA (FY ⟨by show 3<=1000;decide,fun a3=>hK _ _ _ _ (List.Sublist.refl _) (.mk a3 x t8 tt tu (Yk++[Pr.mk a2 u x tu tx]) [Pr.mk a2 u x tu tx] _ (cl+1) Qg UA ?fin UE rfl rfl)⟩)))))))
   case fin=>refine aa hqs' (aa KN ?_);rfl
end QNk
theorem oE(wa:aE)(t:Nat->Tok)(Yg:Value)(seen done:Bool)(n cd:Nat)(init:ay)(al cl:Nat)(Yk:List Pr)(pm:List UP)(po:Obj)(u tg:Str)(tk:Tok):QNk.Q wa t Yg seen done n cd init al cl Yk pm po u tg tk:=cT (P:=QNk.P_) QNk.go ((((wa,t),(Yg,seen)),((done,n),(cd,init))),(((al,cl),(Yk,pm)),((po,u),(tg,tk))))
section
variable{c:Fx}{E:X6}{m:X5}{n:X4}{J:ad Value}{K:ad Flow}{r:Yb}
abbrev dT(k:Nat)(f:Addr)(args:X8)(P:Value->Prop):Prop:=bD k f args [] (fun v n'=>P v/\n'=[]) eT
theorem dT.to(d:dT k f args P)(hk:k<=c.k)(h:∀ v,P v->J v m n):Tr c E m n (call (.ref f) args) J:=
 bD.to d c E m n J hk (fun v n' hv=>by refine aa hv.2 ?_;exact h v hv.1) dC.no
theorem I5(h:∀ E',Tr c E' m n (execs body c.env) (Sq c E orelse c.env K)):Tr c E m n (exec (.Try body (h₀::hs) orelse [] p) c.env) K:= .mk fun s l=>
 wpAny_Try_except (c6 ((h _).go s l) fun f s' m' n' l' q=>by cases f<;>first|exact Tr.go q s' l'|exact⟨m',n',l',q⟩)
theorem GP(hv:m x=some (.str y t))(hn:¬(!(Builtin.Str.occurrences y z 0 y.length 1).isEmpty)=true)(h:Tr c E m n (execs r c.env) K)
  (hx:c.env.kindOf x=some .local:=by rfl) (hd:(x==("__debug__":Str))=false:=by decide):Tr c E m n (execs (.If (.Compare (.Constant (.str z) k p) [.In] [.Name x p2] p3) b [] p4::r) c.env) K:=
 Gk (Gb (Gc fun _=>FX hv (.mk fun _ l=>in_str ⟨m,n,l,HJ (Bool.eq_false_iff.mpr hn) (F6 h)⟩) hx hd))
theorem tJ(x:Str)(tk:Tok)(hp:bn x):dT 2 161 [.str x tk] (fe x):=by
 refine' GG (binds:=[(Yc "text", .str x tk)]) (by k_is) (by k_is) (by exact fun s X=>LH rfl) (by exact aZ rfl) (by rfl) (by rfl) (by rfl) (by decide) (by exact fun _ _ h=>h.elim) ?_;intro A₀ base dp un gd L outer h₀ os g₀ c E K hE hK;exact Gu (I5 fun _=>GP rfl hp.c38 (GP rfl hp.c60 (GP rfl hp.c62 (GP rfl hp.c13 (GM (FX rfl (hK _ _ _ _ (Mw _) ⟨fe.of rfl,rfl⟩)))))))
theorem zI(x:Str)(tk:Tok)(hp:bn x):dT 2 168 [.str x tk] (fe x):=by
 refine' GG (binds:=[(Yc "text", .str x tk)]) (by k_is) (by k_is) (by exact fun s X=>LH rfl) (by exact aZ rfl) (by rfl) (by rfl) (by rfl) (by decide) (by exact fun _ _ h=>h.elim) ?_;intro A₀ base dp un gd L outer h₀ os g₀ c E K hE hK;exact Gu (I5 fun _=>GP rfl hp.c38 (GP rfl hp.c60 (GP rfl hp.c34 (GP rfl hp.c9 (GP rfl hp.c10 (GP rfl hp.c13 (GM (FX rfl (hK _ _ _ _ (Mw _) ⟨fe.of rfl,rfl⟩)))))))))
theorem cB{α:Type}{l:List α}{j:Nat}{x:α}(h:l[j]?=some x):l.take (j+1)=l.take j++[x]:=aa Mm (aa h rfl)
abbrev Qn:=Str×Str×Tok
def Qn.val(x:Qn):Value:= .str (ah x.1 x.2.1) x.2.2
def nN(tail:X4)(kv:Str×Value)(x:Qn)(pre:Str):Prop:=
 y7 (fun(a3:Nat) (t1 t2 t3:Tok)=>kv=(ah x.1 x.2.1, .ref a3)) (fun a3 t1 t2 t3=>(a3,ip (.str (pre++Yc ":"++x.2.1) t1) (.str x.2.1 t2) (.str x.1 t3) 0)∈tail)
theorem nN.mono(h:nN tail kv x pre)(hs:∀ p∈tail,p∈XI):nN XI kv x pre:=by obtain⟨a3,t1,t2,t3,e,m⟩:=h;exact⟨a3,t1,t2,t3,e,hs _ m⟩
structure vV(Ym:List UP)(pm:List UP)(qs:List Qn)(j:Nat)(dO:Obj)(Yk:List Pr)(po:Obj)(g:X4)(PN:List (Str×Value)):Prop where
 dict:dO.IsDictOf (PySem.strKind PR w) PN
 keys:PN.map (·.1)=(qs.take j).map fun x=>ah x.1 x.2.1
 tups:∀ (i:Nat) (kv:Str×Value) (x:Qn) (pre:Str),PN[i]?=some kv->qs[i]?=some x->(aG Ym ([],pm) ((qs.take j).map (·.1))).1[i]?=some pre->nN g kv x pre
 cur:Yk.map Pr.up=(aG Ym ([],pm) ((qs.take j).map (·.1))).2.1
 YC:gv po (aG Ym ([],pm) ((qs.take j).map (·.1))).2.2
 YE:∀ p∈Yk,p.ent∈g
variable{pre post:X4}{U:ad Unit}{Yj:Env}
theorem JR(h:Tr c E m n (eval kx Yj) (kE c E vx Yj (fun a b=>dictSet D a b) U)):Tr c E m n (gI kx vx D Yj) U:= .mk fun s l=>
 Kx (F0 l h fun _ s' _ _ l' q=>Kx (Li (F0 l' q fun _ s' _ _ l' q=>Kx (LF (Li (q.go s' l'))))))
theorem Ka(hn:n=pre++(D,ob)::post)(hd:ob.IsDictOf (PySem.strKind PR w) PN)(hz:PN.length<=1000)(h:∀ Tt,Tt.IsDictOf (PySem.strKind PR w) (PySem.stored PN x v)->U () m (pre++(D,Tt)::post)):Tr c E m n (dictSet D (.str x t) v) U:= .mk fun _ l=>
 qi l.F l.N (fb pre hn l.D) hd hz (NE _ _ _ _) fun _ o' F' N' d'=>⟨_,_,l.to F' N' (hn▸l.D).set l.G rfl,h o' d'⟩
theorem Jq(hc:Yj.cells.lookup x=some a)(hm:(a,o)∈n)(ho:o.data=.cell (some (.ref q)))(hq:(q,methodObj (.ref f) self)∈n)(hf:fnIn (am w.params) f=true)
  (h:Tr c E m n (eval e Yj) fun v m' n'=>(q,methodObj (.ref f) self)∈n'/\Tr c E m' n' (call (.ref q) [v]) J) (hk:Yj.scope.kind=.function) (hx:Yj.kindOf x=some .cell) (hd:(x==("__debug__":Str))=false) (he:starEach [e] Yj=[(false,eval e Yj)]:=by rfl):
  Tr c E m n (eval (.Call (.Name x xp) [e] [] p) Yj) J:= .mk fun s l=>
 LB rfl (qN l.N hk hx hc hm ho (callWith_M (K:=am w.params) l.X l.N hq hf (Ll (F0 l h fun _ s1 _ _ l1 ⟨q1,q2⟩=>Lz ⟨methP l1.N q1 (l1.X.keeps l1.F.keep),q2.go s1 l1⟩) he) he) hd)
theorem IA{q:Addr}{f:Addr}{self:Value}{pos:X8}{k:Nat}{rest read:X4}{P:Value->X4->Prop}(d:iz k f ⟨self::pos,[]⟩ n read P eT)(hq:(q,methodObj (.ref f) self)∈n++rest)(hk:k<=c.k)(hr:∀ p∈read,p∈rest)(hJ:∀ v n',P v n'->J v m (n'++rest)):
  Tr c E m (n++rest) (call (.ref q) pos) J:= .mk fun s l=>call_meth l.N hq (d c E m rest J hk hr hJ dC.no s l)
def xS(c:Fx)(PM kx vx:X7)(scope:Scope)(cls:List (Str×Addr))(vs:X8)(m':X5)(Inv:Nat->Nat->X4->Prop):Prop:=
 ∀ (E':X6) (D j:Nat) (v:Value) (I C:Nat) (oI oC:Obj) (mC:X5) (PW:X4) (Y:ad Unit),vs[j]?=some v->Inv D j PW->bv oC mC->(∀ Qo RJ n₂ Vd,bv Qo RJ->Inv D (j+1) n₂->Vd.Perm ((I,oI)::(C,Qo)::n₂)->Y () m' Vd)->
  Tr c E' m' ((I,oI)::(C,oC)::PW) (assign PM (compEnvC scope cls C c.env) v) (kT c E' (fun _=>gI kx vx D (compEnvC scope cls C c.env)) Y)
theorem JP
  (Rw:swapsWith (.DictComp kx vx [⟨PM,iter,[],0⟩] scope pos) (some (.Name y py)) Q9.line c.env=Pure.pure true) (Qj:closureFor scope c.env=Pure.pure cls) (P4:scope.kind=.function) (P7:∀ x∈scope.names,x.2=.local->scope.names.lookup x.1=some .local) (Vo:∀ y∈scope.names,y.2≠ .cell)
  (hy:c.env.kindOf y=some .local) (hp:(c.env.scope.kind== .class||(c.env.scope.kind== .module&&c.env.locals !=c.env.globals))=false) (RY:∀ x,foldedSetIterable iter c.env x=Pure.pure x)
  (h:Tr c E m n (eval iter c.env) fun v m' n'=>vN (fun(l cL:Nat) (vs:X8) (Inv:Nat->Nat->X4->Prop)=>v=.ref l) (fun l cL vs Inv=>∀ D j PW,Inv D j PW->(l,lO vs cL)∈PW) (fun l cL vs _=>(l,lO vs cL)∈n') (fun _ _ vs Inv=>∀ D,Inv D 0 ((D,({cls:= .type "dict",data:= .dict #[]}:Obj))::n')) (fun _ _ vs Inv=>xS c PM kx vx scope cls vs m' Inv)
   (fun _ _ vs Inv=>∀ D PW,Inv D vs.length PW->Tr c E (fun z=>if z=y then some (.ref D) else m' z) PW (execs r c.env) K)):
  Tr c E m n (execs (.Assign [.Name y py] (.DictComp kx vx [⟨PM,iter,[],0⟩] scope pos) Q9::r) c.env) K:= .mk fun s l=>by
 refine Lp (jZ (h₀:=c.h₀) Rw Qj P4 P7 Vo hy rfl hp (F0 l h fun v s' m' n' l' hv=>?_) RY);obtain⟨lL,cL,vs,Inv,rfl,hm,P5,h0,turn,last⟩:=hv;refine nc (ol:=lO vs cL) l'.F l'.N rfl rfl (.inl P5) ?_;intro I oI h1 hI hlI F1 N1 PU hst Qf;refine⟨I,_,_,_,_,fun _=>lO vs cL,oI,m',_,rfl,pO rfl I lL (K6 hlI) _,hst,F1,N1,?_⟩;intro D C TH hCe hID hLD hhD Vw;have hCI:∀ oI oC:Obj,aw ((I,oI)::(C,oC)::(D,({cls:= .type "dict",data:= .dict #[]}:Obj))::n'):=fun oI oC=>by
  have d1:aw ((D,({cls:= .type "dict",data:= .dict #[]}:Obj))::n'):=l'.D.fresh Vw;refine aw.cons.mpr ⟨fun x hx=>?_,d1.fresh fun x hx=>?_⟩
  ·rcases KG.mp hx with rfl|hx
   ·show C≠I;lia
   ·rcases KG.mp hx with rfl|hx
    ·show D≠I;lia
    ·exact K6 (PU x hx)
  ·rcases KG.mp hx with rfl|hx
   ·show D<C;exact L3 [_,_,_] (.a V0 W1) V2 3 V0 V1 3 V1 V0 1 (.a V0 W1) V2 rfl (eL TH) (eG TH) (eG hCe)
   ·have:=Vw x hx
    show x.1<C;exact Mg this (by exact L3 [_,_,_] (.a V0 W1) V2 3 V0 V1 3 V1 V0 1 (.a V0 W1) V2 rfl (eL TH) (eG TH) (eG hCe))
 refine⟨fun g _=>c.Gp g,fun j mC PW=>(∀ oI oC:Obj,aw ((I,oI)::(C,oC)::PW))/\Inv D j PW,⟨hCI,h0 D⟩,l'.G,?_,?_,?_⟩
 ·rintro j mC PW ⟨Q5,hv⟩
  refine⟨fun p Yw=>⟨(Q5 oI oI).ne (.tail _ Yw),(Q5 oI oI).tail.ne Yw⟩,fun b hb QH=> .inl ?_⟩;have:b=lL:=by simpa [QH] using hb
  subst this;exact hm D j PW hv
 ·rintro j v mC oC PW Q1 h2 g2 d2 Sm hj hv xC ⟨Q5,hiv⟩ hg F2 N2
  rw[Ot] at hv;intro E';refine c6 ((turn E' D j v I C Q1 oC mC PW (fun _ WB Vd=>WB=m'/\eg (fun Qo RJ n₂=>bv Qo RJ) (fun _ _ n₂=>Inv D (j+1) n₂) (fun Qo _ n₂=>Vd.Perm ((I,Q1)::(C,Qo)::n₂))) hv hiv xC (fun Qo RJ n₂ Vd a b d=>⟨rfl,Qo,RJ,n₂,a,b,d⟩)).go _ (l'.to F2 N2 (Q5 Q1 oC) hg rfl)) fun _ s3 m2 n2 l2 q=>?_;refine tR (kD (F0 l2 q fun _ s4 m3 n3 l3 h4=>?_));obtain⟨rfl,Qo,RJ,n₂,SP,hiv',QA⟩:=h4;have l4:=l3.perm QA;exact i7 l4.F l4.N SP ⟨fun _ _=>l4.D,hiv'⟩ l4.G (l4.O.trans l'.O.symm)
 ·rintro h2 g2 d2 Sm mC oC PW xC ⟨Q5,hiv⟩ hg F2 N2
  intro h' tk F3 N3;have hz:vs.toArray.size=vs.length:=Lu;rw[hz] at hiv;exact(last D PW hiv).go _ (l'.to F3 N3 (Q5 oI oI).tail.tail hg rfl)
theorem yC(a I C D p q l:α)(Q e g T:List α):(((a::(Q++e))++[I,C])++D::(p::q::(g++l::T))).Perm (I::C::D::(Q++p::q::((a::(e++g))++l::T))):=by
 refine aa (KQ _ _ _) ?_;refine(Ld.trans ((Ld.trans ((Ld.trans (List.Perm.cons _ ?_)).cons _)).cons _));refine aa Mb (aa (KQ _ _ _) ?_);refine Ld.symm.trans (Lr _ ?_);have e1:(a::(e++g))++l::T=(a::e)++(g++l::T):=congrArg (List.cons a) (KQ e g (l::T));exact aa e1 (Lb (a::e) [p,q] (g++l::T))
inductive BK(wa:aE)(t:Nat->Tok)(Yg:Value)(seen done:Bool)(cnt cd:Nat)(init:ay)(al:Nat)(pm:List UP)(qs:List Qn)(z1 z2:Addr×Obj)(W:X4)(D j:Nat)(PW:X4):Prop
 |mk (dO:Obj) (Yk:List Pr) (Rp:Nat) (Qg:Obj) (gr:X4) (PN:List (Str×Value)):PW.Perm ((D,dO)::(df wa t Yg seen done cnt cd init al Yk Rp Qg++z1::z2::(gr++W)))->vV (init.flat.map Pr.up) pm qs j dO Yk Qg gr PN->BK wa t Yg seen done cnt cd init al pm qs z1 z2 W D j PW
theorem JE{wa:aE}{t:Nat->Tok}{Yg:Value}{seen done:Bool}{cnt cd cl:Nat}{init:ay}{al:Nat}{pm:List UP}{po:Obj}{iter:X7}{scope:Scope}{xn xq y:Str}{p1 p2 p3 p4 p5 pos Q9 py:Pos}{qs:List Qn}
  (Rw:swapsWith (.DictComp (.Name xn p2) (.Call (.Name xq p3) [.Name xn p4] [] p5) [⟨.Name xn p1,iter,[],0⟩] scope pos) (some (.Name y py)) Q9.line c.env=Pure.pure true) {cls:List (Str×Addr)}
  (Qj:closureFor scope c.env=Pure.pure cls) (P4:scope.kind=.function) (P7:∀ x∈scope.names,x.2=.local->scope.names.lookup x.1=some .local) (Vo:∀ y∈scope.names,y.2≠ .cell)
  (hy:c.env.kindOf y=some .local) (hp:(c.env.scope.kind== .class||(c.env.scope.kind== .module&&c.env.locals !=c.env.globals))=false) (RY:∀ x,foldedSetIterable iter c.env x=Pure.pure x)
  (hk:4<=c.k) (Qr:(wa.YB==sysModules)=false)
  (hkf:∀ C,(compEnvC scope cls C c.env).scope.kind=.function) (RQ:∀ C,(compEnvC scope cls C c.env).kindOf xn=some .local) (hxq:∀ C,(compEnvC scope cls C c.env).kindOf xq=some .cell) (hcls:∀ C,((compEnvC scope cls C c.env).scope.kind== .class||((compEnvC scope cls C c.env).scope.kind== .module&&(compEnvC scope cls C c.env).locals !=(compEnvC scope cls C c.env).globals))=false) (SX:(xn==("__debug__":Str))=false) (hdq:(xq==("__debug__":Str))=false)
  (Yw:gv po pm) (ok:bK pm) (UL:bj (init.flat.map Pr.up) pm) (Qw:pm.length<=40) (Th:∀ x∈init,x.2.1.length<=1000) (Qi:init.flat.length<=900) (Us:qs.length<=10) (hq:∀ x∈qs,iB x.1 x.2.1) (hqn:(qs.map fun x=>ah x.1 x.2.1).Nodup)
  (h:Tr c E m n (eval iter c.env) fun v m' n'=>zq (fun(l cL cp q:Nat) (Sd:Obj) (Sw:X4)=>v=.ref l) (fun _ _ cp _ _ _=>cls.lookup xq=some cp) (fun _ _ _ q Sd _=>Sd.data=.cell (some (.ref q))) (fun _ _ _ _ _ Sw=>(∀ p∈init.lists++init.flat.map Pr.ent,p∈Sw)) (fun l cL cp q Sd Sw=>n'.Perm (df wa t Yg seen done cnt cd init al [] cl po++(cp,Sd)::(q,methodObj (.ref 90) (.ref wa.W))::(l,lO (qs.map Qn.val) cL)::Sw)) (fun l cL cp q Sd Sw=>∀ (D:Nat) (dO:Obj) (Yk:List Pr) (Rp:Nat) (Qg:Obj) (g:X4) (PN:List (Str×Value)),vV (init.flat.map Pr.up) pm qs qs.length dO Yk Qg g PN->
    Tr c E (fun z=>if z=y then some (.ref D) else m' z) ((D,dO)::(df wa t Yg seen done cnt cd init al Yk Rp Qg++(cp,Sd)::(q,methodObj (.ref 90) (.ref wa.W))::(g++(l,lO (qs.map Qn.val) cL)::Sw))) (execs r c.env) K)):
  Tr c E m n (execs (.Assign [.Name y py] (.DictComp (.Name xn p2) (.Call (.Name xq p3) [.Name xn p4] [] p5) [⟨.Name xn p1,iter,[],0⟩] scope pos) Q9::r) c.env) K:=by
 refine JP Rw Qj P4 P7 Vo hy hp RY (Tr.mono h fun v m' n' hv=>?_);obtain⟨l,cL,cp,q,Sd,Sw,rfl,hcq,P6,Xa,QA,k⟩:=hv;refine⟨l,cL,qs.map Qn.val,BK wa t Yg seen done cnt cd init al pm qs (cp,Sd) (q,methodObj (.ref 90) (.ref wa.W)) ((l,lO (qs.map Qn.val) cL)::Sw),rfl,?_,?_,?_,?_,?_⟩
 ·rintro D j PW ⟨dO,Yk,Rp,Qg,gr,PN,hp,-⟩
  exact hp.symm.subset (.tail _ (Kz _ (dj (Kz _ (.head _)))))
 ·exact QA.symm.subset (Kz _ co)
 ·exact fun D=> .mk _ [] cl po [] [] (QA.cons _) ⟨Internal.dict0,rfl,fun i kv x pre h=>(by simp at h),rfl,Yw,fun p hp=>(nomatch hp)⟩
 ·rintro E' D j v I C oI oC mC PW Y hv ⟨dO,Yk,Rp,Qg,gr,PN,hp,Sb⟩ xC hY
  rw[LV] at hv;obtain⟨x,hx,rfl⟩:=Ls.mp hv;have Vs:j<qs.length:=(Lj.mp hx).1;have hxm:x∈qs:=LJ hx;have RB:∀ u∈(qs.take j).map (·.1),u.length<=1000:=fun u hu=>by
   obtain⟨z,hz,rfl⟩:=KI.mp hu;exact(hq z (List.mem_of_mem_take hz)).ul
  obtain⟨r1,r2,r3,r4⟩:=jb (Ym:=init.flat.map Pr.up) ((qs.take j).map (·.1)) ([],pm) ok (by refine aa (Og _) ?_;exact UL) RB;have TR:((qs.take j).map (·.1)).length<=9:=by refine aa (KE _) (aa Mr ?_);exact mB Us Vs
  rw[←Sb.cur] at r2 r4;rw[KE] at r4;simp only[List.length_nil] at r4;dsimp only at r3;have Tj:PN.length=j:=by
   have:=congrArg List.length Sb.keys;rw[KE,KE,Mr] at this;exact mE Vs this
  have okj:zB (init++[(al,Yk,Rp)]) (aG (init.flat.map Pr.up) ([],pm) ((qs.take j).map (·.1))).2.2:=by
   refine⟨r1,by refine aa (cw _ _ _ _) (aa KN ?_);exact r2,by exact L3 [_,_,_] V1 (.n 60) 1 V0 (.n 40) 1 V1 (.a V0 V2) 1 V2 (.n 9) rfl Qw r3 TR,fun y hy=>?_,by refine aa (cw _ _ _ _) (aa KH ?_);exact L3 [_,_,_] (.a V1 V0) (.n 1000) 1 V0 (.n 900) 1 V1 (.a W0 V2) 1 V2 (.n 9) rfl Qi r4 TR⟩;rcases KK.mp hy with hy|hy
   ·exact Th y hy
   ·rw[KD] at hy
    subst hy;show Yk.length<=1000;exact L2 [_,_] V0 (.n 1000) 1 V0 (.a W0 V1) 1 V1 (.n 9) rfl r4 TR
  have est:(Yk.map Pr.up,(aG (init.flat.map Pr.up) ([],pm) ((qs.take j).map (·.1))).2.2)=(aG (init.flat.map Pr.up) ([],pm) ((qs.take j).map (·.1))).2:=by exact aa Sb.cur rfl
  have ets:(qs.take (j+1)).map (·.1)=(qs.take j).map (·.1)++[x.1]:=aa (cB hx) (aa KN rfl);have Rk:(PN.any fun kv=>decide (kv.1=ah x.1 x.2.1))=false:=by
   rw[List.any_eq_false];intro kv Vu e;have e:=Np e;have h1:kv.1∈(qs.take j).map fun x=>ah x.1 x.2.1:=ae Sb.keys (KU Vu);obtain⟨i,hi,SZ⟩:=LO.mp h1;rw[KE,Mr] at hi;rw[NY,List.getElem_take] at SZ;have h2:=(NS.mp hqn) i j (by refine aa (KE _) ?_;exact mR hi) (by refine aa (KE _) ?_;exact Vs) (mL hi);rw[NY,NY] at h2;refine h2 (SZ.trans (e.trans ?_));exact aa ((Lj.mp hx).2) rfl
  refine Gd ((hp.cons _).cons _) (GB (pre:=[_]) rfl xC (fun Q7 Qx=>JR (Gh aJ Qx (KW rfl) ?_ rfl (hkf C) (RQ C) SX)) rfl (RQ C) (hcls C));refine Jq (o:=Sd) hcq (cY (Kz _ (.head _))) P6 (cY (Kz _ (.tail _ (.head _)))) (by rfl) (Gh aJ Qx (KW rfl) ⟨cY (Kz _ (.tail _ (.head _))),?_⟩ rfl (hkf C) (RQ C) SX) (hkf C) (hxq C) hdq;refine Gd (Lb [_,_,_] (df wa t Yg seen done cnt cd init al Yk Rp Qg) _) (IA (oE wa t Yg seen done cnt cd init al Rp Yk _ Qg x.1 x.2.1 x.2.2 Qr Sb.YC okj (hq x hxm)) (Kz _ iu) hk (fun p Yw=>?rd) fun v PP hP=>?_)
  case rd=>
   refine xJ ?_;rcases KK.mp Yw with Yw|Yw
   ·exact Kz _ (.tail _ (Xa p (Ky _ Yw)))
   ·rw[cw,KN] at Yw
    rcases KK.mp Yw with Yw|Yw
    ·obtain⟨y,hy,rfl⟩:=KI.mp Yw
     exact Ky _ (Sb.YE y hy)
    ·exact Kz _ (.tail _ (Xa p (Kz _ Yw)))
  obtain⟨a3,x',t1,t2,t3,T1,new,YE,cl3,po3,pm3,Si,hpm3,hn,he⟩:=hP;rw[est] at Si;refine Ka (pre:=_++[_,_]) (KQ _ [_,_] _).symm Sb.dict (by exact L3 [_,_,_] V2 (.n 1000) 1 V0 (.n 10) 1 (.a V1 W1) V0 1 V2 V1 rfl Us Vs (eL Tj)) fun dO' Ue=>hY Q7 _ _ _ Qx ⟨dO',T1,cl3,po3,(a3,_)::(YE++gr),PN++[(ah x.1 x.2.1, .ref a3)], .refl _,?_⟩ (yC _ _ _ _ _ _ _ _ _ _ _);unfold PySem.stored at Ue;rw[Rk] at Ue;refine⟨Ue,?_,?_,?_,?_,?_⟩
  ·refine aa (cB hx) (aa KN (aa KN (aa Sb.keys ?_)));rfl
  ·intro i kv x₂ pre hi U5 QW
   rw[ets,gm] at QW;rcases M3 i j with q1|q1
   ·rw[Mt (by lia)] at hi
    rw[Mt (by refine aa (fW _ _ _) (aa (KE _) (aa Mr ?_));exact mI q1 Vs)] at QW;exact(Sb.tups i kv x₂ pre hi U5 QW).mono fun p hp=> .tail _ (Kz _ hp)
   ·rw[LS (q7 q1 Tj)] at hi
    rw[LS (by refine aa (fW _ _ _) (aa (KE _) (aa Mr ?_));exact Ei q1)] at QW;have hi0:i-PN.length=0:=by
     rcases Oh (i-PN.length) with q2|q2
     ·exact q2
     ·rw[NM (by simp;exact BR q2)] at hi;cases hi
    have hij:i=j:=aS (L3 [_,_,_,_] V2 V1 1 V0 V1 1 V3 W0 1 V2 (.a V3 V0) rfl (eL Tj) (eL hi0) (Ou.mp (KZ _))) (by exact L3 [_,_,_] V1 V2 3 V0 V1 3 V1 V0 1 V1 V2 rfl (eL Tj) (eG Tj) q1);subst hij;rw[hi0] at hi;have hl0:i-(aG (init.flat.map Pr.up) ([],pm) ((qs.take i).map (·.1))).1.length=0:=by refine aa (fW _ _ _) (aa (KE _) (aa Mr ?_));exact Ek Vs
    rw[hl0] at QW;rw[hx] at U5
    cases U5
    cases hi
    cases QW;exact aa Si ⟨a3,t1,t2,t3,rfl, .head _⟩
  ·exact aa ets (aa (gm _ _ _ _) (aa Si rfl))
  ·refine aa ets (aa (gm _ _ _ _) (aa Si ?_));exact hpm3
  ·intro p Yw
   rw[hn] at Yw;rcases KK.mp Yw with Yw|Yw
   ·exact .tail _ (Kz _ (Sb.YE p Yw))
   ·exact .tail _ (Ky _ (he▸KU Yw))
 ·rintro D PW ⟨dO,Yk,Rp,Qg,gr,PN,hp,Sb⟩
  rw[KE] at Sb;exact Gd hp (k D dO Yk Rp Qg gr PN Sb)
def j4(qual:Str)(pos:Pos)(ps:Array Value)(ex:X4):Prop:=
 ps=#[]/\ex=[]∨vM (fun c' oc vs t=>ps=#[rawInt pos.line,rawInt pos.col, .ref c']) (fun c' oc _ _=>ex=[(c',oc)]) (fun _ oc vs _=>oc.data=.fields vs) (fun _ _ vs t=>vs[1]?=some (.str qual t))
theorem Kr(hC:∀ h,(am w.params).In h->CodeHd h cc P)(QZ:c.ccd=.ref cc)(hn:n=pre++(P,tabObj ps)::(ex++post))(hx:j4 (c.env.qual++"<lambda>") pos ps ex)
  (hdef:defaultsOf params c.env=([],[])) (QU:closureFor scope c.env=Pure.pure [])
  (h:∀ (f c':Nat) oc vs t T6 pm,oc.data=.fields vs->vs[1]?=some (.str (c.env.qual++"<lambda>") t)->J (.ref f) m ((f,kla_obj "<lambda>" (c.env.qual++"<lambda>") params body scope [] pm c' T6)::(pre++(P,tabObj #[rawInt pos.line,rawInt pos.col, .ref c'])::((c',oc)::post)))):
  Tr c E m n (eval (.Lambda params body scope pos) c.env) J:= .mk fun s l=>by
 obtain⟨Qt,mg,mb,t⟩:=l.T;refine kla_eval hdef ?_;rcases hx with⟨rfl,rfl⟩|⟨c',oc,vs,t',rfl,rfl,hd,hv⟩
 ·rw[Og] at hn
  refine kla_nest l.F l.N t (hC _ l.X) QZ (fb pre hn l.D) trivial rfl QU fun f c' oc vs t T6 h' tk F' N' hd hv PU SW=>?_;have D1:aw ((c',oc)::(pre++(P,tabObj (#[]++#[rawInt pos.line,rawInt pos.col, .ref c']))::post)):=(hn▸l.D).set.fresh fun p hp=>by
   rcases KK.mp hp with hp|hp
   ·exact PU p (hn▸Ky _ hp)
   ·rcases KG.mp hp with rfl|hp
    ·exact PU (P,tabObj #[]) (hn▸Kz _ (.head _))
    ·exact PU p (hn▸Kz _ (.tail _ hp))
  have pm:=(Ld (l₁:=pre) (a:=(c',oc)) (l₂:=(P,tabObj (#[]++#[rawInt pos.line,rawInt pos.col, .ref c']))::post)).symm.trans ((List.Perm.swap (P,tabObj (#[]++#[rawInt pos.line,rawInt pos.col, .ref c'])) (c',oc) post).append_left pre);have N2:=gk N' (pm.cons _);have D2:aw ((f,kla_obj "<lambda>" (c.env.qual++"<lambda>") params body scope [] ((mg "__name__").getD .none) c' T6)::_):=(D1.perm pm).fresh fun p hp=>by
   rcases KG.mp (pm.mem_iff.mpr hp) with rfl|hp
   ·exact SW
   ·refine Mg ?_ SW
    rcases KK.mp hp with hp|hp
    ·exact PU p (hn▸Ky _ hp)
    ·rcases KG.mp hp with rfl|hp
     ·exact PU (P,tabObj #[]) (hn▸Kz _ (.head _))
     ·exact PU p (hn▸Kz _ (.tail _ hp))
  exact⟨m,_,l.to F' N2 D2 l.G rfl,h f c' oc vs t T6 _ hd hv⟩
 ·rw[List.singleton_append] at hn
  refine kla_hit (ps:=#[rawInt pos.line,rawInt pos.col, .ref c']) (c':=c') l.F l.N t (hC _ l.X) QZ (hn▸Kz _ (.head _)) trivial (by simp[codeAmong,rawInt]) QU fun f T6 h' tk F' N' PU=>?_;subst hn;exact⟨m,_,l.to F' N' (l.D.fresh PU) l.G rfl,h f c' oc vs t' T6 _ hd hv⟩
theorem wE{s:Shared}{f c':Nat}{oc:Obj}{vs:Array Value}{t:Tok}{T6 pm:Value}{qual:Str}{pa pn pt pk1 pk2 pc:Pos}{scope:Scope}{x a b:Str}{tx:Tok}{g:Array GenState}{os:OsState}{k1 k2:Nat}(l:ax c s m n)(hk:1<=c.k)
  (hf:(f,kla_obj "<lambda>" qual {posonlyargs:=[],args:=[{arg:=Yc "n",annotation:=none,pos:=pa}],vararg:=none,kwonlyargs:=[],kw_defaults:=[],kwarg:=none,defaults:=[]} (.Call (.Attribute (.Name (Yc "n") pn) (Yc "split") pt) [.Constant (.str (Yc "}")) k1 pk1, .Constant (.int 1) k2 pk2] [] pc) scope [] pm c' T6)∈n) (hc:(c',oc)∈n) (hd:oc.data=.fields vs) (hv:vs[1]?=some (.str qual t))
  (hs:scope.names.lookup (Yc "n")=some .local) (Rv:∀ x∈scope.names,x.2≠ .cell) (TQ:scope.kind=.function) (Tn:scope.isCoroutine=false) (hs5:scope.isGenerator=false) (hs6:∀ L ff cc,(envX qual scope L ff cc []).kindOf (Yc "n")=some .local)
  (he:∀ L',∃ pl,eval (.Call (.Attribute (.Name (Yc "n") pn) (Yc "split") pt) [.Constant (.str (Yc "}")) k1 pk1, .Constant (.int 1) k2 pk2] [] pc) (envX qual scope L' f (.ref c') [])=(do
   let ov←eval (.Name (Yc "n") pn) (envX qual scope L' f (.ref c') [])
   standAt pt.atName
   let (f1,first)←holding [ov] (getMethod ov (Yc "split") pl)
   callWith pc f1 first (backTo pc (starEach [.Constant (.str (Yc "}")) k1 pk1, .Constant (.int 1) k2 pk2] (envX qual scope L' f (.ref c') []))) []))
  (hx:Txt.splitMax x (Yc "}") 1=[a,b]) (hz:x.length<=100000):cP c.A.in1.in1 c.h₀ c.L m n (.ref f) (.str x tx) a b g os:=by
 intro h tk d own F N;obtain⟨_,_,_,T⟩:=l.T;have hdp:=l.hd;refine OJ (kla_code l.B F l.X N T rfl rfl l.hk (Kz _ hf) ⟨c',oc,vs,t,rfl,(N _ (Kz _ hc)).1,hd,hv⟩ (by show c.dp<recursionLimit;exact iR hdp) (binds:=[(Yc "n", .str x tx)]) rfl (fun y hy=>by refine aa (KD.mp hy) ?_;exact hs) ?_ Tn hs5 TQ Rv);intro g' L' h₁ FG F' N' B' X' T';obtain⟨pl,he⟩:=he L';refine MethodCall_ (pl:=pl) (he:=he) (nameX_L F' (v:= .str x tx) (by simp) ?_ TQ (hs6 _ _ _) (by decide));refine Pb (typeIs_str _ _ _) Pg PySem.F.slot_str_split PySem.F.type_str_split (fun a e=>by cases e) ?_;refine N7 (Ll (wpAny_Constant_str (Ll (Nd (Lz ?_)))));refine splitN2A (t:=tx) F' N' (by decide+kernel) (by decide) (fun ls h2 Sm e1 e2 e3 e4 F2 N2=>?_) (by refine aa Lf ?_;exact L1 [_] (.a V0 (.n 2)) (.n 16777216) 1 V0 (.n 100000) rfl hz);rw[hx] at e1;obtain⟨t1,u1,rfl⟩:=pT e1;refine leaveK_ F2 N2 fun F3 N3=>r7 F3 N3 fun p hp=>?_;exact K6 (KO (N' p hp).1)
def rH(x:Qn):Prop:=Txt.splitMax (ah x.1 x.2.1) (Yc "}") 1=[Yc "{"++x.1,x.2.1]
def dI(x1:Qn):Option Qn->List Qn
 |none=>[x1]
 |some x2=>if bE (Yc "{"++x2.1) x2.2.1 (Yc "{"++x1.1) x1.2.1 then[x2,x1] else[x1,x2]
def setOf(x1:Qn):Option Qn->List (Str×Value)
 |none=>[(ah x1.1 x1.2.1,x1.val)]
 |some x2=>[(ah x1.1 x1.2.1,x1.val),(ah x2.1 x2.2.1,x2.val)]
theorem o0(h:x∈dI x1 y2):x=x1∨y2=some x:=by
 cases y2 with
 |none=>exact .inl (KD.mp h)
 |some x2=>
  unfold dI at h;dsimp only at h
  split at h<;>(rcases KG.mp h with rfl|h<;>first|exact .inl rfl|exact .inr rfl|(refine aa (KD.mp h) ?_;first|exact .inl rfl|exact .inr rfl))
theorem wX:(dI x1 y2).length<=10:=by
 cases y2 with
 |none=>exact KA rfl
 |some x2=>
  unfold dI;dsimp only
  split<;>exact KA rfl
theorem ve:(dI x1 y2).length<=2:=by
 cases y2 with
 |none=>exact KA rfl
 |some x2=>
  unfold dI;dsimp only
  split<;>exact KA rfl
theorem wY:x1∈dI x1 y2:=by
 cases y2 with
 |none=>exact .head _
 |some x2=>
  unfold dI;dsimp only
  split
  ·exact aJ
  ·exact .head _
theorem lI(h:∀ x,y2=some x->ah x.1 x.2.1≠ah x1.1 x1.2.1):((dI x1 y2).map fun x=>ah x.1 x.2.1).Nodup:=by
 cases y2 with
 |none=>exact Lx.mpr ⟨Lw,MC⟩
 |some x2=>
  have:=h x2 rfl;unfold dI;dsimp only
  split
  ·exact Lx.mpr ⟨fun q=>this (KD.mp q),Lx.mpr ⟨Lw,MC⟩⟩
  ·exact Lx.mpr ⟨fun q=>this (KD.mp q).symm,Lx.mpr ⟨Lw,MC⟩⟩
theorem vc(h:iB u tg):(ah u tg).length<=100000:=by
 have:=h.ul;have:=h.tl;simp only[ah,KB,uG,Ah]
 lia
variable{env:Env}
theorem bc{α:Type}(pre:List α){x:α}{post r:List α}(h:(pre++post).Perm r):(pre++x::post).Perm (x::r):=Ld.trans (h.cons x)
theorem Jr{x kn:Str}{xp p kp:Pos}{e kv:X7}{id:String}(e0:nsIn (am w.params) mainGlobals x=some none)(hv:bootBuiltins x=some (.builtin id))(hn:x≠"__name__")
  (h:Tr c E m n (eval e c.env) (kE c E kv c.env (fun a f=>call (.builtin id) [a] [(kn,f)]) J)) (he:starEach [e] c.env=[(false,eval e c.env)]:=by rfl) (hx:c.env.kindOf x=some .globalImplicit:=by rfl) (hd:(x==("__debug__":Str))=false:=by decide):Tr c E m n (eval (.Call (.Name x xp) [e] [⟨some kn,kv,kp⟩] p) c.env) J:= .mk fun s l=>
 wpAny_Call_Name_kw (c6 ((HK (J:=fun v m' n'=>v=.builtin id/\m'=m/\n'=n) e0 hv hn ⟨rfl,rfl,rfl⟩ hx hd).go s l) fun _ s' _ _ l' ⟨e1,e2,e3⟩=>by
  subst e1 e2 e3;exact callWith_kw (Ll (F0 l' h fun a s1 _ _ l1 q=>Lz (kws_cons (F0 l1 q fun f s2 _ _ l2 q=>kws_nil (q.go s2 l2)))) he) (by refine aa he ?_;rfl) (by refine aa he ?_;rfl))
theorem Jg(hm:(D,so)∈n)(hS:ba (PySem.strKind PR w) so [(k,v)])(turn:∀ s,ax c s m n->cP c.A.in1.in1 c.h₀ c.L m n (.ref f) v x y s.gens s.os)(h:∀ (a:Nat) cL,J (.ref a) m ((a,listOf #[v] cL)::n)):Tr c E m n (call (.builtin "sorted") [.ref D] [(Yc "key", .ref f)]) J:= .mk fun s l=>
 qy rfl l.F l.N hm hS (fun x=>ksk_t1 _ _) (turn s l) fun a h' tk d cL F' N' lt=>⟨m,_,l.to F' N' (l.D.fresh lt) l.G rfl,h a cL⟩
theorem Jh(hk:1<=c.k)(hm:(D,so)∈n)(hS:ba (PySem.strKind PR w) so [(k1,v1),(k2,v2)])(YI:∀ s,ax c s m n->cP c.A.in1.in1 c.h₀ c.L m n (.ref f) v1 x1 y1 s.gens s.os)(YG:∀ s,ax c s m n->cP c.A.in1.in1 c.h₀ c.L m n (.ref f) v2 x2 y2 s.gens s.os)(P2:¬(x2=x1/\y2=y1))
  (h:∀ (a:Nat) cL,J (.ref a) m ((a,listOf (bS (bE x2 y2 x1 y1) v1 v2) cL)::n)):Tr c E m n (call (.builtin "sorted") [.ref D] [(Yc "key", .ref f)]) J:= .mk fun s l=>
 qz rfl (by show c.un+1+1<cLine;have:=l.hu;exact L2 [_,_,_] (.a (.a (.a V1 W1) W1) W1) V2 2 W1 V0 1 (.a (.a V1 (.m 20 V0)) W1) V2 rfl hk this) l.F l.N hm hS (fun x=>ksk_t1 _ _) (YI s l) (YG s l) P2 fun a h' tk d cL F' N' lt=>⟨m,_,l.to F' N' (l.D.fresh lt) l.G rfl,h a cL⟩
theorem Ji(hk:1<=c.k)(hm:(D,so)∈n)(hS:ba (PySem.strKind PR w) so (setOf x1 y2))(turn:∀ x,x=x1∨y2=some x->∀ s,ax c s m n->cP c.A.in1.in1 c.h₀ c.L m n (.ref f) x.val (Yc "{"++x.1) x.2.1 s.gens s.os)
  (P2:∀ x2,y2=some x2->¬(Yc "{"++x2.1=Yc "{"++x1.1/\x2.2.1=x1.2.1)) (h:∀ (a:Nat) cL,J (.ref a) m ((a,lO ((dI x1 y2).map Qn.val) cL)::n)):Tr c E m n (call (.builtin "sorted") [.ref D] [(Yc "key", .ref f)]) J:=by
 cases y2 with
 |none=>exact Jg hm hS (turn x1 (.inl rfl)) h
 |some x2=>
  refine Jh hk hm hS (turn x1 (.inl rfl)) (turn x2 (.inr rfl)) (P2 x2 rfl) fun a cL=>?_;have e:bS (bE (Yc "{"++x2.1) x2.2.1 (Yc "{"++x1.1) x1.2.1) x1.val x2.val=((dI x1 (some x2)).map Qn.val).toArray:=by
   show _=((if bE (Yc "{"++x2.1) x2.2.1 (Yc "{"++x1.1) x1.2.1 then[x2,x1] else[x1,x2]:List Qn).map Qn.val).toArray
   cases bE (Yc "{"++x2.1) x2.2.1 (Yc "{"++x1.1) x1.2.1<;>rfl
  exact aa e (h a cL)
theorem yw{tail:X4}{PN:List (Str×Value)}{qs:List Qn}{Yn:List Str}(hk:PN.map (·.1)=qs.map fun x=>ah x.1 x.2.1)(hl:Yn.length=qs.length)(hn:(qs.map fun x=>ah x.1 x.2.1).Nodup)
  (ht:∀ (i:Nat) (kv:Str×Value) (x:Qn) (pre:Str),PN[i]?=some kv->qs[i]?=some x->Yn[i]?=some pre->nN tail kv x pre) {x:Qn} (hx:x∈qs):
  zn (fun(i a3:Nat) (pre:Str) (t1 t2 t3:Tok)=>qs[i]?=some x) (fun i _ pre _ _ _=>Yn[i]?=some pre) (fun _ a3 _ _ _ _=>valueAt PN (ah x.1 x.2.1)=some (.ref a3)) (fun _ a3 pre t1 t2 t3=>(a3,ip (.str (pre++Yc ":"++x.2.1) t1) (.str x.2.1 t2) (.str x.1 t3) 0)∈tail):=by
 obtain⟨i,hi,he⟩:=LO.mp hx;have hlk:PN.length=qs.length:=by simpa using congrArg List.length hk
 obtain⟨a3,t1,t2,t3,e,hm⟩:=ht i _ x _ (KJ (q1 hi hlk)) (by exact aa (KJ hi) (aa he rfl)) (KJ (q1 hi hl));refine⟨i,a3,_,t1,t2,t3,by exact aa (KJ hi) (aa he rfl),KJ (q1 hi hl),valueAt_of_get (i:=i) (by refine aa hk ?_;exact hn) (by exact aa (KJ (q1 hi hlk)) (aa e rfl)),hm⟩
theorem lG:∀ (l:List Str) (st:List UP×List UP),bK st.2->bj (st.1++Ym) st.2->(∀ u∈l,u.length<=1000)->∃ more,(aG Ym st l).2.1=st.1++more
 |[],st,_,_,_=>⟨[],(Lh _).symm⟩
 |v::l,(cur,pm),h,d,hu=>by
  obtain⟨a1,a2,_,_,_,more,a6⟩:=ik h d (hu v (.head _));obtain⟨more2,b⟩:=lG l (aL Ym (cur,pm) v).2 a1 a2 fun u h=>hu u (.tail _ h);exact⟨more++more2,by show (aG Ym (aL Ym (cur,pm) v).2 l).2.1=_;exact aa b (aa a6 (aa (KQ _ _ _) rfl))⟩
theorem pG:∀ (l:List Str) (st:List UP×List UP),bK st.2->bj (st.1++Ym) st.2->(∀ u∈l,u.length<=1000)->∀ (i:Nat) (u pre:Str),l[i]?=some u->(aG Ym st l).1[i]?=some pre->(u,pre)∈(aG Ym st l).2.1++Ym
 |[],_,_,_,_,i,_,_,h,_=>by simp at h
 |v::l,(cur,pm),h,d,hu,0,u,pre,e1,e2=>by
  obtain⟨a1,a2,_,_,a5,_⟩:=ik h d (hu v (.head _));obtain⟨more,b⟩:=lG l (aL Ym (cur,pm) v).2 a1 a2 fun u h=>hu u (.tail _ h);have e1':v=u:=by simpa using e1
  have e2':(aL Ym (cur,pm) v).1=pre:=by simpa [aG] using e2
  subst e1' e2';show _∈(aG Ym (aL Ym (cur,pm) v).2 l).2.1++Ym;refine aa b ?_;rcases KK.mp a5 with q|q
  ·exact Ky _ (Ky _ q)
  ·exact Kz _ q
 |v::l,(cur,pm),h,d,hu,i+1,u,pre,e1,e2=>by
  obtain⟨a1,a2,_,_,_,_⟩:=ik h d (hu v (.head _));exact pG l (aL Ym (cur,pm) v).2 a1 a2 (fun u h=>hu u (.tail _ h)) i u pre (by simpa using e1) (by simpa [aG] using e2)
variable{α:Type}
end
theorem AJ:∀ {l g:List α},l.Nodup->(∀ p∈l,p∈g)->∃ r,g.Perm (l++r)
 |[],g,_,_=>⟨g, .refl _⟩
 |p::l,g,hn,hs=>by
  obtain⟨s,t,rfl⟩:=List.append_of_mem (hs p (.head _));obtain⟨h1,h2⟩:=Lx.mp hn;obtain⟨r,hr⟩:=AJ (g:=s++t) h2 fun q hq=>by
   rcases KK.mp (hs q (.tail _ hq)) with h|h
   ·exact Ky _ h
   ·rcases KG.mp h with rfl|h
    ·exact absurd hq h1
    ·exact Kz _ h
  exact⟨r,Ld.trans (hr.cons p)⟩
theorem kH:∀ {Yk:List Pr},((Yk.map Pr.up).map (·.1)).Nodup->(Yk.map Pr.ent).Nodup
 |[],_=>MC
 |p::r,h=>by
  obtain⟨h1,h2⟩:=Lx.mp h;refine Lx.mpr ⟨fun hm=>h1 ?_,kH h2⟩;obtain⟨q,hq,e⟩:=KI.mp hm;have e1:q.YA=p.YA:=by
   have e2:=congrArg (fun x=>x.2.data) e;injection e2 with e3 _
   have e4:=congrArg (fun a:Array Value=>a[0]?) e3;injection (Mq e4)
  exact KI.mpr ⟨q.up,KU hq,e1⟩
theorem bn.Yt(h:bn x)(h':bn y):bn (x++y):=fun c hc=>by
 have e:(x++y).cps.toList=x.cps.toList++y.cps.toList:=by show (x.cps++y.cps).toList=_;simp
 rw[e] at hc;exact(KK.mp hc).elim (h c) (h' c)
theorem yv:∀ i,i<64->∀ c∈(Yc "n"++Yc (toString ((i:Nat):Int))).cps.toList,c≠38/\c≠60/\c≠62/\c≠34/\c≠9/\c≠10/\c≠13:=by decide+kernel
theorem qh:∀ c∈(Yc ":").cps.toList,c≠38/\c≠60/\c≠62/\c≠34/\c≠9/\c≠10/\c≠13:=by decide+kernel
theorem vF:∀ c∈(Yc "xml").cps.toList,c≠38/\c≠60/\c≠62/\c≠34/\c≠9/\c≠10/\c≠13:=by decide+kernel
theorem bj.plain(d:bj l pm)(h:bK pm)(hz:pm.length<=60)(hx:x∈l):bn x.2:=by
 rcases d x hx with q|rfl
 ·obtain⟨i,hi,rfl⟩:=LO.mp q
  refine aa (h.nm i _ (KJ hi)) ?_;exact yv i (by exact L2 [_,_] (.a V1 W1) (.n 64) 1 V0 (.n 60) 1 (.a V1 W1) V0 rfl hz hi)
 ·exact vF
theorem qE{k:Str}{v:Value}:valueAt [(k,v)] k=some v:=by
 unfold valueAt;exact aa (List.find?_cons_of_pos (by simp)) rfl
def dS(u tg:Str)(xn:Str):Option Str->List Str
 |none=>[u]
 |some u2=>if bE (Yc "{"++u2) xn (Yc "{"++u) tg then[u2,u] else[u,u2]
theorem vz{u tg xn u2:Str}{tk t2:Tok}:(dI (u,tg,tk) (some (u2,xn,t2))).map (·.1)=dS u tg xn (some u2):=by
 unfold dI dS;dsimp only
 split<;>rfl
def aW(QK tg:Str)(as:List (Str×Str))(Qu:Option Str)(xn:Str):List Str:=
 (Yc "<"++(QK++Yc ":"++tg))::((if as=[] then[] else[fL as])++(Yc ">"::match Qu with|none=>[]|some p=>[p++Yc ":"++xn]))
section
variable(a:aE)(t:Nat->Tok)(Yg:Value)(seen done:Bool)(cnt:Nat)(t0:Tok)
theorem wW:(putL "_root_seen" (PyData.keyHash w.params "_root_seen") (.str "_root_seen" t0) (.bool true) (aD a t Yg seen done),putN "_root_seen" (aD a t Yg seen done) cnt)=(aD a t Yg true done,cnt):=by kernel_rfl
theorem wV(b:Bool):(putL "_root_done" (PyData.keyHash w.params "_root_done") (.str "_root_done" t0) (.bool b) (aD a t Yg seen done),putN "_root_done" (aD a t Yg seen done) cnt)=(aD a t Yg seen b,cnt):=by kernel_rfl
theorem pD(v:Value):(putL "_pending_start" (PyData.keyHash w.params "_pending_start") (.str "_pending_start" t0) v (aD a t Yg seen done),putN "_pending_start" (aD a t Yg seen done) cnt)=(aD a t v seen done,cnt):=by kernel_rfl
end
section
variable{A:Around}{E:X6}{s:Shared}
theorem wb{id:String}{b:Builtin}{q:Addr}{self:Value}{args:X8}{Q:X6}{S:PySem.Spec}(hq:s.heap.get? q=some (be id self))(hp:plainId id=true)(hb:entryFor table id=some b)
  (hc:∀ (Q':Unit->Shared->Prop) (E':X6),Q' () s->wpAny MP A.in1 (checkBoundCall id ⟨self::args,[]⟩) Q' E' s)
  (g:Meets (b ⟨self::args,[]⟩) S) (h:S A (wants Q E) s):wpAny MP A (call (.ref q) args) Q E s:=by
 refine OJ (NN ?_);show wpAny _ _ (callAny (.ref q) _) _ _ _;refine Kx (wpAny_load hq ?_);show wpAny _ A.in1 (checkBoundCall id ⟨self::args,[]⟩>>=fun _=>again (.builtin id ⟨self::args,[]⟩)>>=fun x=>pure x) _ _ _;refine Kx (hc _ _ (Kx (KC (KC ⟨M4 hp _,NN ?_⟩))));show wpAny _ _ (match entryFor table id with|some b=>b ⟨self::args,[]⟩|none=>unsupported ((withoutEnding? id "#data").getD id)) _ _ s;exact aa hb (aa (LM hp _) (g _ _ A (wants Q E) s h))
theorem rM(D:Addr)(its:Array Value)(n:Nat)(x:Str)(t:Tok)(S:Setting):∃ k,ie (fun _=>some (listOf its n)) S (checkBoundCall "str.join" ⟨[.str x t, .ref D],[]⟩)=some (List.replicate k D,()):=by
 first
 |exact⟨0,by kernel_rfl!⟩
 |exact⟨1,by kernel_rfl!⟩
 |exact⟨2,by kernel_rfl!⟩
 |exact⟨3,by kernel_rfl!⟩
theorem yg(hl:s.heap.get? D=some (listOf #[x,y] k))(hs:s.heap.IsSliceOf sl .none .none .none)
  (h:∀ f:Array Value->Array Value,f #[x,y]=#[]->Q () {s with heap:=s.heap.update D (Obj.mapSeq f)}):wpAny MP A (delItem (.ref D) (.ref sl)) Q E s:=by
 obtain⟨os,Rt,Uc,hds⟩:=id hs;have hT:s.TypeIs (.ref D) "list":=⟨_,hl,rfl⟩;have hTs:s.TypeIs (.ref sl) "slice":=⟨os,Rt,Uc⟩;refine wpAny_delItem_slot hT (by decide) PySem.F.slot_list_delitem (LQ PySem.F.slot_list_delitem hT PySem.F.entry_list_delitem ?_ (PySem.F.args_list_delitem_2 _ _));show wpAny _ _ (Builtin.List.listSubscript? (.ref sl)>>=_) _ _ s;refine Kx ?_;unfold Builtin.List.listSubscript?;refine Kx (wpAny_specialOf hTs slice_no_index ?_);refine aa (KW rfl) ?_;refine KC ?_;show wpAny _ _ (typeOf (.ref sl)>>=_) _ _ s;refine Kx (Oz hTs ?_);refine aa (KM (by decide)) ?_;refine aa (listSliceParts_eq _) ?_;refine Kx (Kx (Mf Rt hds (x:= .none) rfl (Kx (wpAny_listPart .none ?_))));refine aa (KM (show¬((rawPart none==rawInt 0)=true) from KP)) ?_;refine Kx (Mf Rt hds (x:= .none) rfl (Kx (wpAny_listPart .none ?_)));refine Kx (Mf Rt hds (x:= .none) rfl (Kx (wpAny_listPart .none (KC ?_))));refine Kx (m:=Builtin.List.listItems (.ref D)) ?_;unfold Builtin.List.listItems;refine Kx (NX hl rfl (KC ?_));refine Kx (Nf (sliceIndices_raw none none none 2 (by decide)) ?_);refine Kx (My ?_);refine Kx (Oc hl rfl ?_ (by refine aa Lf ?_;show 2<=16777216;decide) (KF (Md (congrArg Array.size (show _=(#[]:Array Value) by kernel_rfl))) (K0 _)));refine Kx (wpAny_letGo ?_);exact KC ⟨_,rfl,h _ (by kernel_rfl)⟩
variable{c:Fx}{m:X5}{n pre post:X4}{J:ad Value}{K:ad Flow}{U:ad Unit}{B:ad Bool}{env:Env}{r:Yb}
theorem aw.split(h:aw (pre++(D,o)::post)):(∀ p∈pre,p.1≠D)/\∀ p∈post,p.1≠D:=⟨fun p hp=>h.apart p hp (D,o) (.head _),fun _ hp=>h.right.ne hp⟩
theorem Kb(h:Tr c E m n (eval o env) fun v m n=>vQ (fun D x y pre post k=>v=.ref D) (fun D x y pre post k=>n=pre++(D,listOf #[x,y] k)::post) (fun D _ _ pre post k=>Tr c E m (pre++(D,listOf #[] (k+1))::post) (execs r env) K)):
  Tr c E m n (execs (.Delete [.Subscript o (.Slice none none none ps) pp] pd::r) env) K:= .mk fun s l=>
 Lp (wpAny_Delete (wpAny_deleteEach_cons (wpAny_delete_Subscript (F0 l h fun v s' m' n' l' ⟨D,x,y,pre,post,k,e1,e2,q⟩=>by
  subst e1 e2;refine wpAny_Slice (KC (KC (KC ?_)));have l2:=l'.push (⟨.type "slice",none, .fields #[.none, .none, .none],#[]⟩:Obj);have hm:=l2.N (D,listOf #[x,y] k) (.tail _ (Kz _ (.head _)));refine yg hm.1 (Heap.IsSliceOf.new ..) fun f hf=>wpAny_deleteEach_nil ?_;have hD:=aw.split (pre:=_::pre) l2.D;have N2:=kl_turn f (pre:=(_::pre:X4)) l2.N hD.1 hD.2 hf (by show (0:Nat)≠2;decide);have D2:aw ((_,_)::(pre++(D,listOf #[] (k+1))::post)):=aw.set (pre:=_::pre) l2.D;have F2:=l2.F.change (Lm _ D (Obj.mapSeq f)) hm.2.1 hm.2.2;exact q.go _ ((ax.to (s':=⟨(s'.heap.push (⟨.type "slice",none, .fields #[.none, .none, .none],#[]⟩:Obj)).update D (Obj.mapSeq f),s'.gens,s'.drawn,s'.toks,s'.os⟩) l2 F2 N2 D2 l2.G rfl).sub (Lq _ _))))))
theorem Jm(h:Tr c E m n (eval oe env) (kT c E (fun x=>PySem.setAttr x y v) U)):Tr c E m n (assign (.Attribute oe y p) env v) U:= .mk fun s l=>by
 refine aa (assign_Attribute _ _ _ _) ?_;refine Kx (Li (F0 l h fun _ s' _ _ l' q=>Kx (LF (Kx (Li (up (q.go s' l') fun _ s' q=>wpAny_release q))))))
theorem JB{o:X7}{name:Str}{ap p:Pos}{args:List X7}(h:Tr c E m n (eval o env) (kT c E (fun ov=>getAttr ov name true) (kT c E (fun f=>callWith p f [] (backTo p (starEach args env)) []) J)))
  (he:eval (.Call (.Attribute o name ap) args [] p) env=(do
   let ov←eval o env
   standAt ap.atName
   let (f,first)←holding [ov] (do Pure.pure (←getAttr ov name true,[]))
   callWith p f first (backTo p (starEach args env)) []):=by rfl):Tr c E m n (eval (.Call (.Attribute o name ap) args [] p) env) J:= .mk fun s l=>by
 refine aa he ?_;refine Kx (F0 l h fun _ s' _ _ l' q=>Kx (LF (Kx (Li (Kx (F0 l' q fun _ s1 _ _ l1 q1=>KC ?_))))));exact q1.go s1 l1
theorem Jo(o:xx y es f)(h1:(W,instObj 150 D)∈n)(h2:(D,dictOf es k)∈n)(h:∀ q:Nat,J (.ref q) m ((q,methodObj (.ref f) (.ref W))::n)):Tr c E m n (getAttr (.ref W) y true) J:= .mk fun _ l=>
 kbm_bound l.F l.X l.N (MU l.N h1 h2) o.hg o.hh o.ha o.hf o.hgf o.ht o.hc o.hl fun q _ F' N' lt=>⟨m,_,l.to F' N' (l.D.fresh lt) l.G rfl,h q⟩
theorem Ja(_hq:(q,methodObj (.ref f) self)∈n)(hf:fnIn (am w.params) f=true)
  (h:Tr c E m n (eval e env) fun v m n=>gR (fun T its k=>v=.ref T) (fun T its k=>(T,(⟨.type "tuple",none, .seq its k,#[]⟩:Obj))∈n) (fun _ its _=>its.size<=1000) (fun _ its _=>Tr c E m n (eval e2 env) fun u m n=>(q,methodObj (.ref f) self)∈n/\Tr c E m n (call (.ref q) (its.toList++[u])) J))
  (he:starEach [.Starred e p2,e2] env=[(true,eval e env),(false,eval e2 env)]:=by rfl):Tr c E m n (callWith p (.ref q) [] (backTo p (starEach [.Starred e p2,e2] env)) []) J:= .mk fun s l=>by
 refine aa he ?_;refine ks_call (P:=fun h=>MethP (am w.params) q f self h) rfl (keeps_M hf) ?_;unfold evalArgs;show wpAny _ _ (spliced ((true,_)::backTo p [(false,eval e2 env)])>>=_) _ _ s;refine Kx (ks_spliced (F0 l h fun v s1 _ _ l1 ⟨T,its,k,e1,hm,hz,q⟩=>?_));subst e1;refine star_seq l1.F l1.N hm rfl rfl (.inr rfl) rfl (by refine aa Lf ?_;exact bd hz) fun h' F' N'=>?_;refine Calls.spliced_cons (c6 (q.go _ (l1.to F' N' l1.D l1.G rfl)) fun u s2 _ _ l2 ⟨TP,q2⟩=>Calls.spliced_nil ?_);refine Li ?_;exact Kx (KC (Kx (KC (KC ⟨methP l2.N TP (l2.X.keeps l2.F.keep),q2.go _ l2⟩))))
theorem IM(d:bD k f (self::pos) n P Rs)(hq:(q,methodObj (.ref f) self)∈n++rest)(hk:k<=c.k)(hJ:∀ v n',P v n'->J v m (n'++rest))(hR:dC c m rest Rs E):
  Tr c E m (n++rest) (call (.ref q) pos) J:= .mk fun s l=>call_meth l.N hq (d c E m rest J hk hJ hR s l)
theorem Js(hf:∀ J:ad Value,J (.ref 52) m n->Tr c E m n (eval (.Name x xp) env) J)(hx:j9 y b)
  (h:Tr c E m n (eval e env) fun v m n=>v=.str y tk/\(b=true->∀ (a:Nat) vs,J (.ref a) m ((a,nS vs)::n))/\(b=false->J .none m n))
  (he:starEach [e] env=[(false,eval e env)]:=by rfl):Tr c E m n (eval (.Call (.Name x xp) [e] [] p) env) J:= .mk fun s l=>
 LB rfl (c6 ((hf (fun v m' n'=>v=.ref 52/\m'=m/\n'=n) ⟨rfl,rfl,rfl⟩).go s l) fun _ s' _ _ l' ⟨e1,e2,e3⟩=>by
  subst e1 e2 e3;refine qf l'.X (Ll (F0 l' h fun v s1 _ _ l1 ⟨e4,q1,q2⟩=>Lz ⟨l1.X.keeps l1.F.keep,?_⟩) he) he;subst e4;exact yd l1.F l1.X l1.N hx (fun hb a h' vs F' N' lt=>⟨_,_,l1.to F' N' (l1.D.fresh lt) l1.G rfl,q1 hb a vs⟩) fun hb=>⟨_,_,l1,q2 hb⟩)
theorem J6(hm:(a,nS vs)∈n)(h:B true m n):Tr c E m n (truthy (.ref a)) B:= .mk fun _ l=>vu l.N hm ⟨m,n,l,h⟩
theorem IL(hv:m x=some (.ref 98))(h:Tr c E m n (eval e c.env) fun v m n=>y8 (fun(D:Addr) (its:Array Value) (ys:List Str) (k:Nat)=>v=.ref D) (fun D its _ k=>(D,listOf its k)∈n) (fun _ its ys _=>StrsAre its.toList ys) (fun _ _ ys _=>(ys.map (·.length)).sum+ys.length<=1048576) (fun _ _ ys _=>∀ t',J (.str (Txt.join (Yc "") ys) t') m n))
  (he:starEach [e] c.env=[(false,eval e c.env)]:=by rfl) (hx:c.env.kindOf x=some .local:=by rfl) (hd:(x==("__debug__":Str))=false:=by decide):Tr c E m n (eval (.Call (.Name x xp) [e] [] p) c.env) J:= .mk fun s l=>
 LB rfl (nameX_L l.F hv (by
  have z:wpAny MP c.A (spliced (backTo p (starEach [e] c.env))) (fun vs PZ=>(am w.params).In PZ.heap/\wpAny MP c.A (call (.ref 98) vs) (fun v s'=>bG (fun m' n'=>ax c s' m' n') (fun m' n'=>J v m' n')) E PZ) E s:=Ll (F0 l h fun v s1 _ _ l1 ⟨D,its,ys,k,e1,hm,hi,hw,q⟩=>Lz ⟨l1.X.keeps l1.F.keep,(by
   subst e1;obtain⟨ll,hv2,ht⟩:=strsAre_values hi;have e2:its=(strValues ll).toArray:=by exact ae hv2 rfl
   subst e2 ht;have Qc:=joinOk_of (sep:=Yc "") (ys:=ll.map (·.1)) (by refine aa (show (Yc "").length=0 from rfl) ?_;exact L1 [_,_] (.a V0 (.w V1 0)) (.n 16777216) 1 (.a V0 V1) (.n 1048576) rfl hw);unfold JoinOk at Qc;rw[Bool.not_eq_true'] at Qc;have hl:=(l1.N _ hm).1;refine wb (id:="str.join") (args:=[.ref D]) (self:= .str (Yc "") 437) ((l1.X.keeps l1.F.keep) 98 Ay (by k_is)) (by decide+kernel) PySem.F.entry_str_join (fun Q' E' hQ=>?_) (meets_str_join_list _ _ D ll Qc) ⟨⟨_,hl,rfl,k,rfl⟩,post_join ll ⟨joinFit_length Qc,fun t' _=>⟨_,_,l1.tok,q t'⟩⟩⟩;obtain⟨kk,e⟩:=rM D (strValues ll).toArray k (Yc "") 437 ⟨PR,w.params⟩;exact gE e (fun a ha=>by refine aa (OT ha) ?_;exact hl) hQ)⟩) he
  rw[he] at z⊢;exact callWith_of (P:=fun h=>(am w.params).In h) rfl (fun h hq=>⟨.machine, .inr (.inl rfl),(Looks.ld (part:=none) (hq 98 Ay (by k_is))).andThen .now⟩) (evalArgs_plain z)) l.hk hx hd)
theorem su{a b c:Str}(h:a++b=a++c):b=c:=by
 have h2:(a++b).cps.toList=(a++c).cps.toList:=by exact aa h rfl
 have e:∀ x y:Str,(x++y).cps.toList=x.cps.toList++y.cps.toList:=fun x y=>by show (x.cps++y.cps).toList=_;simp
 rw[e,e] at h2;have h3:=List.append_cancel_left h2
 cases b;cases c;exact congrArg Str.mk (Array.toList_inj.mp h3)
theorem uV{l:List UP}(h:(l.map (·.1)).Nodup)(k:∀ x∈l,∀ y∈l,x.2=y.2->x.1=y.1):(l.map (·.2)).Nodup:=List.pairwise_map.mpr ((List.pairwise_map.mp h).imp_of_mem fun hx hy P2 e=>P2 (k _ hx _ hy e))
theorem Ht{B:ad Bool}{n:X4}{a:Addr}{vs:X8}{k:Nat}{b:Bool}(hm:(a,lO vs k)∈n)(hz:vs.length<=100000)(e:vs.isEmpty= !b)(h:B b m n):Tr c E m n (truthy (.ref a)) B:=HE hm (by refine aa Lu ?_;exact bd hz) (by refine aa (List.isEmpty_toArray _) (aa e (aa (Bool.not_not _) ?_));exact h)
theorem J0{D cD:Nat}{PL:X8}{l:List UP}{g:X4}(hP:bU g PL (l.map aU))(hg:∀ p∈g,p∈post)(P2:l≠[])(hl:l.length<=2)(RP:(l.map (·.2)).Nodup)(h:∀ SS k',bU g SS (aX l)->J .none m ((D,lO SS k')::post)):
  Tr c E m ((D,lO PL cD)::post) (call (.builtin "list.sort") [.ref D]) J:=by
 rcases l with _|⟨x,_|⟨y,l⟩⟩
 ·exact absurd rfl P2
 ·cases hP with|cons h1 h2=>cases h2;exact JY (pre:=[]) rfl fun k'=>h _ k' (.cons h1 .nil)
 ·cases l with
  |cons z l=>simp only[Lc] at hl;exact BZ hl
  |nil=>
   cases hP with
   |cons h1 h2=>
    cases h2 with
    |cons h2 h3=>
     cases h3;have a1:=h1;have a2:=h2;obtain⟨A,_,t1,u1,m1⟩:=h1;obtain⟨B,_,t2,u2,m2⟩:=h2;have hxy:(aU x).1≠(aU y).1:=fun e=>(Lx.mp RP).1 (KD.mpr (su e));refine JZ (pre:=[]) rfl (hg _ m1) (hg _ m2) hxy fun k'=>?_;have e:aX [x,y]=if (aU y).1.cps.toList<(aU x).1.cps.toList then[aU y,aU x] else[aU x,aU y]:=rfl
     rw[e] at h
     by_cases q:(aU y).1.cps.toList<(aU x).1.cps.toList
     ·refine aa (KV q) ?_
      rw[KW q] at h;exact h [.ref B, .ref A] k' (.cons a2 (.cons a1 .nil))
     ·refine aa (KY q) ?_
      rw[KM q] at h;exact h [.ref A, .ref B] k' (.cons a1 (.cons a2 .nil))
theorem qd(h:l.length<=2):(aX l).length<=2:=by
 rcases l with _|⟨x,_|⟨y,_|⟨z,l⟩⟩⟩
 ·exact h
 ·exact h
 ·show (if _ then _ else _:List (Str×Str)).length<=2
  split<;>exact h
 ·simp only[Lc] at h;exact BZ h
inductive dv where
 |list (l:Nat) (vs:X8) (k:Nat)
 |YH (l:Nat) (vs:X8) (k:Nat)
 |range (r N:Nat) (t u z:Tok)
end
noncomputable def dv.v:dv->Value
 | .list l _ _=> .ref l
 | .YH l _ _=> .ref l
 | .range r _ _ _ _=> .ref r
noncomputable def dv.N:dv->Nat
 | .list _ vs _=>vs.length
 | .YH _ vs _=>vs.length
 | .range _ N _ _ _=>N
def dv.P:dv->Nat->Value->Prop
 | .list _ vs _=>fun i x=>vs[i]?=some x
 | .YH _ vs _=>fun i x=>vs[i]?=some x
 | .range _ _ _ _ _=>fun i x=>∃ t,x=.int (i:Nat) t
noncomputable def dv.ent:dv->Addr×Obj
 | .list l vs k=>(l,lO vs k)
 | .YH l vs k=>(l,⟨.type "tuple",none, .seq vs.toArray k,#[]⟩)
 | .range r N t u z=>(r,bk N t u z)
section
variable{c:Fx}{E:X6}{m:X5}{n:X4}
def eS(c:Fx)(n:X4)(e:Addr×Obj):Prop:=e∈n∨c.h₀.get? e.1=some e.2
theorem dv.iter(S:dv)(l:ax c s m n)(hm:eS c n S.ent)(hz:S.N<=1000)
  (k:∀ (I:Nat) (oI:Obj) (h':Heap) (fp:List Addr) (St:Nat->Heap->Prop) (src:Addr->Obj),I=s.heap.objs.size->(∀ p∈n,p.1<I)->ax c {s with heap:=h'} m ((I,oI)::n)->fc c.A I S.N S.P fp St->St 0 h'->h'.objs.size=I+1->(∀ b∈fp,b≠I->(b,src b)=S.ent)->Q (.ref I) {s with heap:=h'}):
  wpAny MP c.A (pyIter S.v) Q E s:=by
 have le:∀ {I:Nat} {oI h'},Fr c.h₀ c.L h' m->News c.h₀ c.L h' ((I,oI)::n)->(∀ p∈n,p.1<I)->ax c {s with heap:=h'} m ((I,oI)::n):=fun F N PU=>l.to F N (l.D.fresh PU) l.G rfl;have e2:∀ {I a:Nat},∀ b∈[I,a],b≠I->b=a:=fun b hb QH=>by simpa [QH] using hb
 cases S with
 |list a vs kk=>
  refine nc (ol:=lO vs kk) l.F l.N rfl rfl hm fun I oI h1 hI hlI F1 N1 PU hst Qf=>?_;have hs:fc c.A I vs.length (fun i x=>vs[i]?=some x) [I,a] (fun i h=>h.IsListIter I a i/\h.IsList a vs.toArray):=by have:=pO (A:=c.A) rfl I a (K6 hlI) vs.toArray;simpa only[Lu,Ot] using this
  exact k I oI h1 _ _ (fun _=>lO vs kk) hI PU (le F1 N1 PU) hs hst Qf fun b hb QH=>aa (e2 b hb QH) rfl
 |YH a vs kk=>
  refine r0 (ol:=⟨.type "tuple",none, .seq vs.toArray kk,#[]⟩) l.F l.N rfl rfl hm fun I oI h1 hI hlI F1 N1 PU hst Qf=>?_;have hs:fc c.A I vs.length (fun i x=>vs[i]?=some x) [I,a] (fun i h=>h.IsTupleIter I a i/\h.IsTuple a vs.toArray):=by have:=vp (A:=c.A) rfl I a (K6 hlI) vs.toArray;simpa only[Lu,Ot] using this
  exact k I oI h1 _ _ (fun _=>⟨.type "tuple",none, .seq vs.toArray kk,#[]⟩) hI PU (le F1 N1 PU) hs hst Qf fun b hb QH=>aa (e2 b hb QH) rfl
 |range r N t u z=>
  have hz:N<=1000:=hz;have hr:s.heap.get? r=some (bk N t u z):=hm.elim (fun q=>(l.N _ q).1) fun q=>l.F.keep _ _ q;refine kQ (n:=N) l.F l.N hr (small_one (by decide) (by decide) (iW) (tK hz)) (by refine aa (PyProof.Rows.rangeSize_nat _ _) ?_;exact BY) fun I oI h1 hI F1 N1 PU hst Qf=>?_;have hs:=nE (A:=c.A) rfl I 0 1 N;have hP:(fun(i:Nat) (v:Value)=>∃ t,v=.int ((0:Int)+(i:Nat)*1) t)=dv.P (.range r N t u z):=by
   funext i v
   exact aa (show (0:Int)+(i:Nat)*1=(i:Nat) from B7) rfl
  rw[hP] at hs;exact k I oI h1 _ _ (fun _=>oI) hI PU (le F1 N1 PU) hs hst Qf fun b hb QH=>absurd (by simpa using hb) QH
def xU(c:Fx)(E:X6)(PM:X7)(body:Yb)(S:dv)(Inv:Nat->X5->X4->Prop)(K:ad Flow):Prop:=
 ∀ j x I oI m n,∀ T5:ad Flow,j<S.N->S.P j x->Inv j m n->(∀ fl m n,ry I oI (Inv (j+1)) K fl m n->T5 fl m n)->Tr c E m ((I,oI)::n) (assign PM c.env x) (kS c E body c.env T5)
theorem Hw{K:ad Flow}{PM iter:X7}{body orelse:Yb}{pos:Pos}(Inv:dv->Nat->X5->X4->Prop)(hE:PassesOwn MP c.A c.env E)
  (h:Tr c E m n (eval iter c.env) fun v m' n'=>yY (fun(S:dv)=>v=S.v) (fun S=>S.N<=1000) (fun S=>Inv S 0 m' n') (fun S=>(∀ j m n,Inv S j m n->eS c n S.ent)) (fun S=>xU c E PM body S (Inv S) K) (fun S=>∀ m n,Inv S S.N m n->Tr c E m n (execs orelse c.env) K))
  (hs:∀ x,foldedSetIterable iter c.env x=Pure.pure x:=by intro _;rfl):Tr c E m n (exec (.For PM iter body orelse pos) c.env) K:=
 IG (fun s l=>F0 l h fun v PZ m' n' l' hv=>by
  obtain⟨S,e,hz,h0,hm,turn,last⟩:=hv;subst e;refine S.iter l' (hm 0 _ _ h0) hz fun I oI h1 fp St src hI PU l1 Tp hst Qf Uj=>?_;refine qU (Inv:=Inv S) (src:=src) Tp l1 hst (fun j m n hi b hb QH=>?_) h0 (fun j v m n oI hj hv hi=>turn j v I oI m n _ hj hv hi fun _ _ _ h=>h) last;have e:=Uj b hb QH;have:=hm j m n hi;rw[←e] at this;exact this) hs hE
variable{m':X5}{n':X4}{J:ad Value}{K:ad Flow}{r:Yb}{env:Env}
noncomputable abbrev db (I:Nat) (oI:Obj) (C:Nat) (oC:Obj) (D:Nat) (PL:X8) (cD:Nat) (n:X4):X4:=(I,oI)::(C,oC)::(D,lO PL cD)::n
def nW(I:Nat)(oI:Obj)(C D:Nat)(PL:X8)(cD:Nat)(n':X4)(m':X5)(P:X5->X4->Prop)(m:X5)(n:X4):Prop:=
 m=m'/\eg (fun oC mC g=>bv oC mC) (fun oC _ g=>n.Perm (db I oI C oC D PL cD (g++n'))) (fun _ mC g=>P mC g)
abbrev kP(c:Fx)(E:X6)(e:X7)(env:Env)(Y:ad Value)(N:X5->X4->Prop):ad Bool:=fun b m n=>Br b (Tr c E m n (eval e env) Y) (N m n)
def j0(c:Fx)(PM:X7)(P8:List X7)(P0:X7)(scope:Scope)(cls:List (Str×Addr))(env:Env)(S:dv)(m':X5)(n':X4)(P:Nat->X5->X8->X4->Prop):Prop:=
 ∀ (E':X6) (j:Nat) (x:Value) (PL:X8) (g:X4) (I D C:Nat) (oI oC:Obj) (mC:X5) (cD:Nat) (Y:ad Value) (N:X5->X4->Prop),j<S.N->S.P j x->P j mC PL g->bv oC mC->
  (∀ y m4 n4,nW I oI C D PL cD n' m' (fun RJ g'=>P (j+1) RJ (PL++[y]) g') m4 n4->Y y m4 n4)->(∀ m3 n3,nW I oI C D PL cD n' m' (fun RJ g'=>P (j+1) RJ PL g') m3 n3->N m3 n3)->
  Tr c E' m' (db I oI C oC D PL cD (g++n')) (assign PM (compEnvC scope cls C env) x) (kT c E' (fun _=>dL P8 (compEnvC scope cls C env)) (kP c E' P0 (compEnvC scope cls C env) Y N))
theorem Kd{P0:X7}{Yj:Env}{I C D:Nat}{oI:Obj}{PL:X8}{cD:Nat}{P:Value->X5->X4->Prop}{U:ad Unit}(hz:PL.length<=100000)(h:Tr c E m n (eval P0 Yj) fun y m4 n4=>nW I oI C D PL cD n' m' (P y) m4 n4)
  (k:∀ y oC mC g,bv oC mC->P y mC g->U () m' (db I oI C oC D (PL++[y]) (cD+1) (g++n'))):Tr c E m n (dK P0 (.ref D) Yj) U:=by
 refine IU (Tr.mono h fun y m4 n4 q=>?_);obtain⟨rfl,oC,mC,g,hx,hp,q⟩:=q;exact Gd hp (IU (Gs (pre:=[_,_]) rfl hz (Kl (k y oC mC g hx q))))
theorem GI(h:B true m n):Tr c E m n (dL [] env) B:= .mk fun _ l=>tR ⟨m,n,l,h⟩
theorem HR(h:Tr c E m n (isTrue e env (eval e env)) B):Tr c E m n (dL [e] env) B:= .mk fun s l=>zP (h.go s l)
def fH(I:Nat)(oI:Obj)(C D:Nat)(n':X4)(m':X5)(P:X5->X8->X4->Prop)(m:X5)(n:X4):Prop:=
 m=m'/\l9 (fun oC mC PL cD g=>bv oC mC) (fun oC _ PL cD g=>n.Perm (db I oI C oC D PL cD (g++n'))) (fun _ mC PL _ g=>P mC PL g)
def lW(c:Fx)(PM:X7)(P8:List X7)(B:Addr->Env->Sem Unit)(scope:Scope)(cls:List (Str×Addr))(env:Env)(S:dv)(m':X5)(n':X4)(P:Nat->X5->X8->X4->Prop):Prop:=
 ∀ (E':X6) (j:Nat) (x:Value) (PL:X8) (g:X4) (I D C:Nat) (oI oC:Obj) (mC:X5) (cD:Nat),j<S.N->S.P j x->P j mC PL g->bv oC mC->
  Tr c E' m' (db I oI C oC D PL cD (g++n')) (assign PM (compEnvC scope cls C env) x) fun _ m2 n2=>Tr c E' m2 n2 (dL P8 (compEnvC scope cls C env)) fun b m3 n3=>Br b (Tr c E' m3 n3 (B D (compEnvC scope cls C env)) fun _ m4 n4=>fH I oI C D n' m' (P (j+1)) m4 n4)
   (fH I oI C D n' m' (P (j+1)) m3 n3)
theorem HB(S:dv)(P:Nat->X5->X8->X4->Prop)(l':ax c s' m' n')(hm:eS c n' S.ent)(Sz:P 0 (fun _=>none) [] [])(hz:S.N<=1000)
  (turn:lW c PM P8 B scope cls env S m' n' P)
  (last:∀ (D C:Nat) (mC:X5) (PL:X8) (g:X4) (cD:Nat) (s2:Shared),P S.N mC PL g->ax c s2 m' ((D,lO PL cD)::(g++n'))->s2.os=s'.os->Fi m' D C ((D,lO PL cD)::(g++n')) s2):
  wpAny MP c.A (pyIter S.v) (ix c.A c.h₀ c.L env scope cls PM P8 B (listOf #[] 0) Fi) E s':=by
 refine S.iter l' hm hz fun I oI h1 fp St src hI PU l1 Tp hst Qf Uj=>?_;refine⟨I,_,_,fp,St,src,oI,m',n',rfl,Tp,hst,l1.F,l1.N,?_⟩;intro D C TH hCe hID hLD hhD Vw;refine⟨fun g _=>c.Gp g,fun j mC PW=>eg (fun PL g cD=>PW=(D,lO PL cD)::(g++n')) (fun PL g _=>P j mC PL g) (fun _ _ _=>∀ oI oC:Obj,aw ((I,oI)::(C,oC)::PW)),?_,l'.G,?_,?_,?_⟩
 ·refine⟨[],[],0,rfl,Sz,fun oI oC=>?_⟩
  have d1:aw ((D,listOf (#[]:Array Value) 0)::n'):=l'.D.fresh Vw;refine aw.cons.mpr ⟨fun x hx=>?_,d1.fresh fun x hx=>?_⟩
  ·rcases KG.mp hx with rfl|hx
   ·show C≠I;lia
   ·rcases KG.mp hx with rfl|hx
    ·show D≠I;lia
    ·exact K6 (PU x hx)
  ·rcases KG.mp hx with rfl|hx
   ·show D<C;exact L3 [_,_,_] (.a V0 W1) V2 3 V0 V1 3 V1 V0 1 (.a V0 W1) V2 rfl (eL TH) (eG TH) (eG hCe)
   ·have:=Vw x hx
    show x.1<C;exact Mg this (by exact L3 [_,_,_] (.a V0 W1) V2 3 V0 V1 3 V1 V0 1 (.a V0 W1) V2 rfl (eL TH) (eG TH) (eG hCe))
 ·rintro j mC PW ⟨PL,g,cD,rfl,hp,Q5⟩
  refine⟨fun p Yw=>⟨(Q5 oI oI).ne (.tail _ Yw),(Q5 oI oI).tail.ne Yw⟩,fun b hb QH=>?_⟩;have e:=Uj b hb QH;have h2:eS c ((D,lO PL cD)::(g++n')) S.ent:=hm.imp (fun q=> .tail _ (Kz _ q)) id;rw[←e] at h2;exact h2
 ·rintro j v mC oC PW Q1 h2 g2 d2 Sm hj hv xC ⟨PL,g,cD,rfl,hp,Q5⟩ hg F2 N2
  intro E';have l2:ax c ⟨h2,g2,d2,Sm,s'.os⟩ m' (db I Q1 C oC D PL cD (g++n')):=l'.to F2 N2 (Q5 Q1 oC) hg rfl;have Tu:∀ {s4:Shared} {m4 n4},ax c s4 m4 n4->fH I Q1 C D n' m' (P (j+1)) m4 n4->
    fG c.h₀ c.L I C m' Q1 (fun mC PW=>eg (fun PL g cD=>PW=(D,lO PL cD)::(g++n')) (fun PL g _=>P (j+1) mC PL g) (fun _ _ _=>∀ oI oC:Obj,aw ((I,oI)::(C,oC)::PW))) s'.os (fun g _=>c.Gp g) s4:=by
   rintro s4 m4 n4 l4 ⟨rfl,Qo,RJ,SS,cD',g',SP,QA,TI⟩;have l5:=l4.perm QA;exact i7 l5.F l5.N SP ⟨_,_,_,rfl,TI,fun _ _=>l5.D⟩ l5.G (l5.O.trans l'.O.symm)
  refine c6 ((turn E' j v PL g I D C Q1 oC mC cD hj hv hp xC).go _ l2) fun _ s3 m2 n2 l3 q=>?_;refine F0 l3 q fun b s4 m3 n3 l4 q4=>?_
  cases b with
  |false=>exact rU (Tu l4 q4)
  |true=>
   refine kD (F0 l4 q4 fun _ s5 m5 n5 l5 q5=>?_);exact Tu l5 q5
 ·rintro h2 g2 d2 Sm mC oC PW xC ⟨PL,g,cD,rfl,hp,Q5⟩ hg F2 N2
  exact last D C mC PL g cD _ hp (l'.to F2 (iM N2) (Q5 oI oI).tail.tail hg rfl) rfl
theorem j0.toB(hb:b+S.N<=100000)(h:j0 c PM P8 P0 scope cls env S m' n' P):
  lW c PM P8 (fun D Yj=>dK P0 (.ref D) Yj) scope cls env S m' n' fun j mC PL g=>P j mC PL g/\PL.length<=b+j:=by
 intro E' j x PL g I D C oI oC mC cD hj hx hP xC;refine Tr.mono (h E' j x PL g I D C oI oC mC cD _ _ hj hx hP.1 xC (fun _ _ _ q=>q) fun _ _ q=>q) fun _ m2 n2 h2=>Tr.mono h2 fun t m3 n3 h3=>?_;have ho:=hP.2
 cases t with
 |false=>
  obtain⟨rfl,Qo,RJ,g',hx,hp,hq⟩:=h3;exact⟨rfl,Qo,RJ,PL,cD,g',hx,hp,hq,by exact L1 [_,_,_] V0 (.a V1 (.a V2 W1)) 1 V0 (.a V1 V2) rfl hP.2⟩
 |true=>exact Kd (by exact L3 [_,_,_,_] V3 (.n 100000) 1 (.a V0 V1) (.n 100000) 1 (.a V2 W1) V1 1 V3 (.a V0 V2) rfl hb hj hP.2) h3 fun y Qo RJ g' hx hq=>⟨rfl,Qo,RJ,_,_,g',hx, .refl _,hq,by refine aa KH ?_;show PL.length+1<=_;exact L1 [_,_,_] (.a V0 W1) (.a V1 (.a V2 W1)) 1 V0 (.a V1 V2) rfl hP.2⟩
def rq(c:Fx)(PM:X7)(P8:List X7)(P0:X7)(scope:Scope)(cls:List (Str×Addr))(env:Env)(Z:Nat->X8->X5->X4->Prop):ad Value:=fun v m' n'=>
 nY (fun(S:dv) (P:Nat->X5->X8->X4->Prop)=>v=S.v) (fun S _=>eS c n' S.ent) (fun S _=>S.N<=1000) (fun _ P=>P 0 (fun _=>none) [] []) (fun S P=>j0 c PM P8 P0 scope cls env S m' n' P) (fun S P=>∀ (D:Nat) (mC:X5) (PL:X8) (g:X4) (cD:Nat),PL.length<=S.N->P S.N mC PL g->Z D PL m' ((D,lO PL cD)::(g++n')))
theorem GU
  (h:Tr c E m n (eval iter env) (rq c PM P8 P0 scope cls env fun D _ m' n'=>J (.ref D) m' n'))
  (Qj:closureFor scope env=Pure.pure cls:=by rfl) (P4:scope.kind=.function:=by rfl) (P7:∀ x∈scope.names,x.2=.local->scope.names.lookup x.1=some .local:=by decide) (P6:∀ y∈scope.names,y.2≠ .cell:=by decide)
  (RY:∀ x,foldedSetIterable iter env x=Pure.pure x:=by intro _;rfl):
  Tr c E m n (eval (.ListComp P0 [⟨PM,iter,P8,0⟩] scope pos) env) J:= .mk fun s l=>by
 refine nI (h₀:=c.h₀) (L:=c.L) Qj P4 P7 P6 (F0 l h fun v s' m' n' l' hv=>?_) RY;obtain⟨S,P,rfl,hm,hz,Sz,turn,last⟩:=hv;exact HB S _ l' hm ⟨Sz,KZ 0⟩ hz (turn.toB (by exact L1 [_] (.a W0 V0) (.n 100000) 1 V0 (.n 1000) rfl hz)) fun D C mC PL g cD s2 hp l2 Rt=>fun h' F3 N3=>⟨m',_,l2.to F3 N3 l2.D l2.G rfl,last D mC PL g cD (by have:=hp.2;exact L1 [_,_] V0 V1 1 V0 (.a W0 V1) rfl hp.2) hp.1⟩
theorem ID
  (h:Tr c E m n (eval iter c.env) (rq c PM P8 P0 scope cls c.env fun D _ m' n'=>Tr c E (fun z=>if z=y then some (.ref D) else m' z) n' (execs r c.env) K))
  (Rw:swapsWith (.ListComp P0 [⟨PM,iter,P8,0⟩] scope pos) (some (.Name y py)) Q9.line c.env=Pure.pure true:=by rfl)
  (Qj:closureFor scope c.env=Pure.pure cls:=by rfl) (P4:scope.kind=.function:=by rfl) (P7:∀ x∈scope.names,x.2=.local->scope.names.lookup x.1=some .local:=by decide) (P6:∀ y∈scope.names,y.2≠ .cell:=by decide)
  (hy:c.env.kindOf y=some .local:=by rfl) (hp:(c.env.scope.kind== .class||(c.env.scope.kind== .module&&c.env.locals !=c.env.globals))=false:=by rfl) (RY:∀ x,foldedSetIterable iter c.env x=Pure.pure x:=by intro _;rfl):
  Tr c E m n (execs (.Assign [.Name y py] (.ListComp P0 [⟨PM,iter,P8,0⟩] scope pos) Q9::r) c.env) K:= .mk fun s l=>by
 refine Lp (fF (h₀:=c.h₀) Rw Qj P4 P7 P6 hy rfl hp (F0 l h fun v s' m' n' l' hv=>?_) RY);obtain⟨S,P,rfl,hm,hz,Sz,turn,last⟩:=hv;exact HB S _ l' hm ⟨Sz,KZ 0⟩ hz (turn.toB (by exact L1 [_] (.a W0 V0) (.n 100000) 1 V0 (.n 1000) rfl hz)) fun D C mC PL g cD s2 hp l2 Rt=>fun h' tk F3 N3=>(last D mC PL g cD (by have:=hp.2;exact L1 [_,_] V0 V1 1 V0 (.a W0 V1) rfl hp.2) hp.1).go _ (l2.to F3 N3 l2.D l2.G rfl)
theorem JV
  (h:Tr c E m n (eval i2 (compEnvC sc cls C env)) fun v m3 n3=>m3=m'/\zr (fun(S:dv) (Q:Nat->X5->X8->X4->Prop) (oC:Obj) (mC:X5) (PL:X8) (cD:Nat) (g:X4)=>v=S.v) (fun _ _ oC mC _ _ _=>bv oC mC) (fun _ _ oC _ PL cD g=>n3.Perm (db I oI C oC D PL cD (g++n'))) (fun S _ _ _ _ _ _=>eS c n' S.ent) (fun S _ _ _ _ _ _=>S.N<=1000) (fun _ _ _ _ PL _ _=>PL.length<=b) (fun _ Q _ mC PL _ g=>Q 0 mC PL g) (fun S Q _ _ _ _ _=>j0 c t2 f2 P0 sc cls env S m' ((I,oI)::n') Q) (fun S Q _ mC PL _ g=>∀ mC PL g,PL.length<=b+S.N->Q S.N mC PL g->P mC PL g)) (hb:b<=99000)
  (hs:∀ x,foldedSetIterable i2 (compEnvC sc cls C env) x=Pure.pure x:=by intro _;rfl):
  Tr c E m n (dq (.ListComp P0 [⟨t1,i1,f1,0⟩,⟨t2,i2,f2,0⟩] scope pos) i2 (.ref D) (compEnvC sc cls C env)) fun _ m4 n4=>fH I oI C D n' m' P m4 n4:= .mk fun s l=>by
 refine we (h₀:=c.h₀) (L:=c.L) (m:=m') (C:=C) (D:=D) (K:=fun _ s'=>bG (fun m4 n4=>ax c s' m4 n4) (fun m4 n4=>fH I oI C D n' m' P m4 n4)) (F0 l h fun v s1 m3 n3 l1 hv=>?_) hs;obtain⟨rfl,S,Q,oC,mC,PL,cD,g,rfl,xC,QA,hm,hz,hob,hQ0,turn,last⟩:=hv;have l2:=l1.perm QA;have Tk:eS c (db I oI C oC D PL cD (g++n')) S.ent:=hm.imp (fun q=>cY (Kz _ q)) id;refine S.iter l2 Tk hz fun I2 SI h1 fp St src hI PU l3 Tp hst Qf Uj=>?_;have pm:∀ {o1 o2:Obj} {PL:X8} {cD:Nat} {g:X4},(db I oI C o2 D PL cD (g++n')).Perm ((C,o2)::(D,lO PL cD)::(g++((I,oI)::n'))):=by
  intro o1 o2 PL cD g;refine(List.Perm.swap _ _ _).trans (List.Perm.cons _ ?_);exact(List.Perm.swap _ _ _).trans ((Ld (l₁:=g)).symm.cons _)
 have l4:ax c {s1 with heap:=h1} m3 (db I2 SI C oC D PL cD (g++((I,oI)::n'))):=l3.perm ((pm (o1:=oI)).cons _);refine⟨I2,S.N,S.P,fp,St,src,SI,oC,mC,(D,lO PL cD)::(g++((I,oI)::n')),rfl,Tp,hst,l4.F,l4.N,xC,l4.D.ne (.head _),?_⟩;have turnB:=turn.toB (b:=b) (by exact L2 [_,_] (.a V0 V1) (.n 100000) 1 V0 (.n 99000) 1 V1 (.n 1000) rfl hb hz);refine⟨fun g _=>c.Gp g,fun j mC PW=>eg (fun PL g cD=>PW=(D,lO PL cD)::(g++((I,oI)::n'))) (fun PL g _=>(Q j mC PL g/\PL.length<=b+j)) (fun _ _ _=>∀ oI oC:Obj,aw ((I2,oI)::(C,oC)::PW)),⟨PL,g,cD,rfl,⟨hQ0,hob⟩,fun _ _=>l4.D⟩,l4.G,?_,?_,?_⟩
 ·rintro j mC PW ⟨PL,g,cD,rfl,hp,Q5⟩
  refine⟨fun p Yw=>(Q5 oI oI).ne (.tail _ Yw),fun b hb QH=>?_⟩;have e:=Uj b hb QH;have h2:eS c ((D,lO PL cD)::(g++((I,oI)::n'))) S.ent:=hm.imp (fun q=> .tail _ (Kz _ (.tail _ q))) id;rw[←e] at h2;exact h2
 ·rintro j v mC oC PW Q1 h2 g2 d2 Sm hj hv xC ⟨PL,g,cD,rfl,hp,Q5⟩ hg F2 N2
  intro E';have l5:ax c ⟨h2,g2,d2,Sm,s1.os⟩ m3 (db I2 Q1 C oC D PL cD (g++((I,oI)::n'))):=l4.to F2 N2 (Q5 Q1 oC) hg rfl;have Tu:∀ {s4:Shared} {m4 n4},ax c s4 m4 n4->fH I2 Q1 C D ((I,oI)::n') m3 (fun mC PL g=>Q (j+1) mC PL g/\PL.length<=b+(j+1)) m4 n4->
    fG c.h₀ c.L I2 C m3 Q1 (fun mC PW=>eg (fun PL g cD=>PW=(D,lO PL cD)::(g++((I,oI)::n'))) (fun PL g _=>(Q (j+1) mC PL g/\PL.length<=b+(j+1))) (fun _ _ _=>∀ oI oC:Obj,aw ((I2,oI)::(C,oC)::PW))) s1.os (fun g _=>c.Gp g) s4:=by
   rintro s4 m4 n4 lx ⟨rfl,Qo,RJ,SS,cD',g',SP,QA,TI⟩;have l5:=lx.perm QA;exact i7 l5.F l5.N SP ⟨_,_,_,rfl,TI,fun _ _=>l5.D⟩ l5.G (l5.O.trans l1.O.symm)
  refine c6 ((turnB E' j v PL g I2 D C Q1 oC mC cD hj hv hp xC).go _ l5) fun _ s3 m2 n2 l7 q=>?_;refine F0 l7 q fun t s4 m6 n6 l6 q4=>?_
  cases t with
  |false=>exact rU (Tu l6 q4)
  |true=>
   refine kD (F0 l6 q4 fun _ s5 m5 n5 l5 q5=>?_);exact Tu l5 q5
 ·rintro h2 g2 d2 Sm mC oC PW xC ⟨PL,g,cD,rfl,hp,Q5⟩ hg F2 N2
  have l5:ax c ⟨h2,g2,d2,Sm,s1.os⟩ m3 ((C,oC)::(D,lO PL cD)::(g++((I,oI)::n'))):=l4.to F2 N2 (Q5 oI oC).tail hg rfl;exact⟨m3,_,l5,rfl,oC,mC,PL,cD,g,xC,(pm (o1:=oI)).symm,last mC PL g hp.2 hp.1⟩
def lV(c:Fx)(t1 i2 t2:X7)(f2:List X7)(P0:X7)(scope:Scope)(cls:List (Str×Addr))(env:Env)(S:dv)(m':X5)(n':X4)(P:Nat->X5->X8->X4->Prop):Prop:=
 ∀ (E':X6) (j:Nat) (x:Value) (PL:X8) (g:X4) (I D C:Nat) (oI oC:Obj) (mC:X5) (cD:Nat),j<S.N->S.P j x->P j mC PL g->bv oC mC->
  Tr c E' m' (db I oI C oC D PL cD (g++n')) (assign t1 (compEnvC scope cls C env) x) fun _ m2 n2=>Tr c E' m2 n2 (eval i2 (compEnvC scope cls C env)) fun v m3 n3=>m3=m'/\vO (fun(S2:dv) (Q:Nat->X5->X8->X4->Prop) (Rx:Obj) (RK:X5) (g2:X4)=>v=S2.v) (fun _ _ Rx RK _=>bv Rx RK) (fun _ _ Rx _ g2=>n3.Perm (db I oI C Rx D PL cD (g2++n'))) (fun S2 _ _ _ _=>eS c n' S2.ent) (fun S2 _ _ _ _=>S2.N<=1000) (fun _ Q _ RK g2=>Q 0 RK PL g2) (fun S2 Q _ _ _=>j0 c t2 f2 P0 scope cls env S2 m' ((I,oI)::n') Q) (fun S2 Q _ _ _=>∀ mC PL g,Q S2.N mC PL g->P (j+1) mC PL g)
theorem lV.toB(hz:S.N<=90)(h:lV c t1 i2 t2 f2 P0 sc cls env S m' n' P)
  (hs:∀ C x,foldedSetIterable i2 (compEnvC sc cls C env) x=Pure.pure x):
  lW c t1 [] (fun D Yj=>dq (.ListComp P0 [⟨t1,i1,[],0⟩,⟨t2,i2,f2,0⟩] scope pos) i2 (.ref D) Yj) sc cls env S m' n' fun j mC PL g=>P j mC PL g/\PL.length<=1000*j:=by
 intro E' j x PL g I D C oI oC mC cD hj hx hP xC;refine Tr.mono (h E' j x PL g I D C oI oC mC cD hj hx hP.1 xC) fun _ m2 n2 h2=>GI (JV (b:=1000*j) (Tr.mono h2 fun v m3 n3 h3=>?_) (by exact L2 [_,_] (.m 1000 V1) (.n 99000) 1000 V0 (.n 90) 1000 (.a V1 W1) V0 rfl hz hj) (hs C));obtain⟨rfl,S2,Q,Rx,RK,g2,rfl,xC2,QA,hm,hz2,hQ,turn,last⟩:=h3;exact⟨rfl,S2,Q,Rx,RK,PL,cD,g2,rfl,xC2,QA,hm,hz2,hP.2,hQ,turn,fun mC PL g hl hq=>⟨last mC PL g hq,by exact L2 [_,_,_] V1 (.m 1000 (.a V2 W1)) 1 V0 (.n 1000) 1 V1 (.a (.m 1000 V2) V0) rfl hz2 hl⟩⟩
def sX(c:Fx)(t1 i2 t2:X7)(f2:List X7)(P0:X7)(scope:Scope)(cls:List (Str×Addr))(env:Env)(Z:Nat->X8->X5->X4->Prop):ad Value:=fun v m' n'=>
 nY (fun(S:dv) (P:Nat->X5->X8->X4->Prop)=>v=S.v) (fun S _=>eS c n' S.ent) (fun S _=>S.N<=90) (fun _ P=>P 0 (fun _=>none) [] []) (fun S P=>lV c t1 i2 t2 f2 P0 scope cls env S m' n' P) (fun S P=>∀ (D:Nat) (mC:X5) (PL:X8) (g:X4) (cD:Nat),P S.N mC PL g->Z D PL m' ((D,lO PL cD)::(g++n')))
theorem Jv
  (h:Tr c E m n (eval i1 env) (sX c t1 i2 t2 f2 P0 scope cls env fun D _ m' n'=>J (.ref D) m' n'))
  (Qj:closureFor scope env=Pure.pure cls:=by rfl) (P4:scope.kind=.function:=by rfl) (P7:∀ x∈scope.names,x.2=.local->scope.names.lookup x.1=some .local:=by decide) (P6:∀ y∈scope.names,y.2≠ .cell:=by decide)
  (RY:∀ x,foldedSetIterable i1 env x=Pure.pure x:=by intro _;rfl) (Vr:∀ C x,foldedSetIterable i2 (compEnvC scope cls C env) x=Pure.pure x:=by intro _ _;rfl):
  Tr c E m n (eval (.ListComp P0 [⟨t1,i1,[],0⟩,⟨t2,i2,f2,0⟩] scope pos) env) J:= .mk fun s l=>by
 refine nJ (h₀:=c.h₀) (L:=c.L) Qj P4 P7 P6 (F0 l h fun v s' m' n' l' hv=>?_) RY;obtain⟨S,P,rfl,hm,hz,Sz,turn,last⟩:=hv;exact HB S _ l' hm ⟨Sz,KZ 0⟩ (bd hz) (turn.toB hz Vr) fun D C mC PL g cD s2 hp l2 Rt=>fun h' F3 N3=>⟨m',_,l2.to F3 N3 l2.D l2.G rfl,last D mC PL g cD hp.1⟩
theorem jD
  (Rw:swapsWith (.ListComp P0 [⟨t1,i1,f1,0⟩,⟨t2,i2,f2,0⟩] scope pos) (some (.Name y py)) Q9.line env=pure true)
  (Qj:closureFor scope env=pure cl) (P4:scope.kind=.function) (P7:∀ x∈scope.names,x.2=.local->scope.names.lookup x.1=some .local) (P6:∀ y∈scope.names,y.2≠ .cell)
  (hy:env.kindOf y=some .local) (hL:env.locals=L) (hp:(env.scope.kind== .class||(env.scope.kind== .module&&env.locals !=env.globals))=false)
  (h:wpAny MP A (eval i1 env) (fun xv PZ=>wpAny MP A (pyIter xv) (ix A h₀ L env scope cl t1 f1 (fun D Yj=>dq (.ListComp P0 [⟨t1,i1,f1,0⟩,⟨t2,i2,f2,0⟩] scope pos) i2 (.ref D) Yj) (listOf #[] 0) (rW h₀ L y Q)) E PZ) E s)
  (hs:∀ x,foldedSetIterable i1 env x=pure x:=by intro _;rfl):
  wpAny MP A (exec (.Assign [.Name y py] (.ListComp P0 [⟨t1,i1,f1,0⟩,⟨t2,i2,f2,0⟩] scope pos) Q9) env) Q E s:=by
 refine aa (Oy _ _ _ _ Rw) ?_;refine Kx (LF (Kx ?_));show wpAny _ A (do let _←comprehension (.ListComp P0 [⟨t1,i1,f1,0⟩,⟨t2,i2,f2,0⟩] scope pos) scope env _ (newList []) false (eval i1 env) (some (assign (.Name y py) env))) _ _ s;refine Kx (K7 (fO (Q:=fun _ s'=>Q .next s') (gi hy hL hp) (YJ:=i1.pos) (B:=fun D Yj=>dq (.ListComp P0 [⟨t1,i1,f1,0⟩,⟨t2,i2,f2,0⟩] scope pos) i2 (.ref D) Yj) rfl hs Qj P4 P7 P6 (fun s Q q=>LW q) rfl (fun _ _ _=>rfl) (fun _ _ _=>rfl) (fun _ _ _=>rfl) (fun it D Yj=>jX ..) (fun _ _ _=>rfl) (fun _ _ _=>rfl) (fun _ _ _=>rfl) h) (fun _ s' hq=>KC (KC hq)) fun _ _ e=>e)
theorem Jt
  (h:Tr c E m n (eval i1 c.env) (sX c t1 i2 t2 f2 P0 scope cls c.env fun D _ m' n'=>Tr c E (fun z=>if z=y then some (.ref D) else m' z) n' (execs r c.env) K))
  (Rw:swapsWith (.ListComp P0 [⟨t1,i1,[],0⟩,⟨t2,i2,f2,0⟩] scope pos) (some (.Name y py)) Q9.line c.env=Pure.pure true:=by rfl)
  (Qj:closureFor scope c.env=Pure.pure cls:=by rfl) (P4:scope.kind=.function:=by rfl) (P7:∀ x∈scope.names,x.2=.local->scope.names.lookup x.1=some .local:=by decide) (P6:∀ y∈scope.names,y.2≠ .cell:=by decide)
  (hy:c.env.kindOf y=some .local:=by rfl) (hp:(c.env.scope.kind== .class||(c.env.scope.kind== .module&&c.env.locals !=c.env.globals))=false:=by rfl) (RY:∀ x,foldedSetIterable i1 c.env x=Pure.pure x:=by intro _;rfl) (Vr:∀ C x,foldedSetIterable i2 (compEnvC scope cls C c.env) x=Pure.pure x:=by intro _ _;rfl):
  Tr c E m n (execs (.Assign [.Name y py] (.ListComp P0 [⟨t1,i1,[],0⟩,⟨t2,i2,f2,0⟩] scope pos) Q9::r) c.env) K:= .mk fun s l=>by
 refine Lp (jD (h₀:=c.h₀) Rw Qj P4 P7 P6 hy rfl hp (F0 l h fun v s' m' n' l' hv=>?_) RY);obtain⟨S,P,rfl,hm,hz,Sz,turn,last⟩:=hv;exact HB S _ l' hm ⟨Sz,KZ 0⟩ (bd hz) (turn.toB hz Vr) fun D C mC PL g cD s2 hp l2 Rt=>fun h' tk F3 N3=>(last D mC PL g cD hp.1).go _ (l2.to F3 N3 l2.D l2.G rfl)
abbrev kU:Pos:={line:=139,col:=71,endLine:=139,endCol:=96}
theorem dictE(ca:Nat):(dictOf [] ca).IsDictOf (PySem.strKind PR w) ([]:List (Str×Value)):=⟨#[],ca,⟨rfl,rfl,rfl⟩,rfl,fun e he=>by simp at he, .nil,MC⟩
def vU:Str:=Yc "C14NWriterTarget._start"++".<locals>."++"<lambda>"
def mO(wa:aE)(Yg:Value)(done:Bool)(cnt cd:Nat)(init Yq:ay)(al ak ca:Nat)(pm:List UP)(u tg xp xn:Str)(t:Nat->Tok)(pg ps:X8)(R:X4)(qt:Value)(v:Value)(n':X4):Prop:=
 v=.none/\xo (fun(yu:Option Str) (Rp cg' cs' cn' A:Nat) (Yk:List Pr) (Qg:Obj) (PY:X8) (QK:Str) (Qu:Option Str) (UH:Array Value) (ex':X4)=>(qt=.none/\yu=none∨(∃ tq,qt=.str (xp++Yc ":"++xn) tq)/\yu=Yq.uriOf xp/\yu≠none)) (fun yu _ _ _ _ _ Yk _ _ _ _ _ _=>Yk.map Pr.up=(aG (init.flat.map Pr.up) ([],pm) (dS u tg xn yu)).2.1) (fun yu _ _ _ _ _ _ Qg _ _ _ _ _=>gv Qg (aG (init.flat.map Pr.up) ([],pm) (dS u tg xn yu)).2.2) (fun yu _ _ _ _ _ _ _ _ QK _ _ _=>(u,QK)∈(aG (init.flat.map Pr.up) ([],pm) (dS u tg xn yu)).2.1++init.flat.map Pr.up) (fun yu _ _ _ _ _ _ _ _ _ Qu _ _=>(yu=none/\Qu=none∨bV (fun u2 p2=>yu=some u2) (fun _ p2=>Qu=some p2) (fun u2 p2=>(u2,p2)∈(aG (init.flat.map Pr.up) ([],pm) (dS u tg xn yu)).2.1++init.flat.map Pr.up))) (fun _ _ _ _ _ _ Yk _ PY QK Qu _ _=>StrsAre PY (aW QK tg (aX (Yk.map Pr.up)) Qu xn)) (fun _ _ _ _ _ _ _ _ _ _ _ UH ex'=>j4 vU kU UH ex') (fun _ Rp cg' cs' cn' A Yk Qg PY _ _ UH ex'=>n'=(A,lO (([]:List Pr).map Pr.val) 0)::(df wa t Yg true done cnt cd init al Yk Rp Qg++((wa.Yh,lO (pg++PY) cg')::(wa.Yt,be "list.append" (.ref wa.Yh))::(wa.Yn,lO (ps++[Value.bool false]++[Value.bool false]) cs')::(wa.ns,lO (Yq.refs++[Value.ref A]) cn')::(ak,dictOf [] ca)::(123,tabObj UH)::(ex'++(Yk.map Pr.ent++(Yq.read++R))))))
structure gb(u tg:Str)(tk:Tok)(ak al:Nat)(qt:Value)(m:X5):Prop where
 tg:m (Yc "tag")=some (.str (ah u tg) tk)
 at':m (Yc "attrs")=some (.ref ak)
 nn:m (Yc "new_namespaces")=some (.ref al)
 qt:m (Yc "qname_text")=some qt
structure zx(Ym pm:List UP)(qs:List Qn)(st:List Str×List UP×List UP)(dO:Obj)(Yk:List Pr)(Qg:Obj)(g:X4)(PN:List (Str×Value)):Prop where
 hst:st=aG Ym ([],pm) (qs.map (·.1))
 dict:dO.IsDictOf (PySem.strKind PR w) PN
 YE:∀ p∈Yk,p.ent∈g
 cur:Yk.map Pr.up=st.2.1
 YC:gv Qg st.2.2
 i1:bK st.2.2
 i2:bj (Yk.map Pr.up++Ym) st.2.2
 i3:st.2.2.length<=60
 i4:Yk.length<=2
 i5:((Yk.map Pr.up).map (·.1)).Nodup
 pl:∀ p∈Yk,bn p.YA
 name:∀ x∈qs,l9 (fun(a3:Nat) (pre:Str) (t1 t2 t3:Tok)=>valueAt PN (ah x.1 x.2.1)=some (.ref a3)) (fun a3 pre t1 t2 t3=>(a3,ip (.str (pre++Yc ":"++x.2.1) t1) (.str x.2.1 t2) (.str x.1 t3) 0)∈g) (fun _ pre _ _ _=>(x.1,pre)∈Yk.map Pr.up++Ym)
theorem uY(h:vV Ym pm qs qs.length dO Yk Qg g PN)(ok:bK pm)(UL:bj Ym pm)(Qw:pm.length<=40)(hq:∀ x∈qs,iB x.1 x.2.1/\bn x.1)(hn:(qs.map fun x=>ah x.1 x.2.1).Nodup)(hl:qs.length<=2):
  ∃ st,zx Ym pm qs st dO Yk Qg g PN:=by
 have RB:∀ v∈qs.map (·.1),v.length<=1000:=fun v hv=>by
  obtain⟨x,hx,rfl⟩:=KI.mp hv;exact(hq x hx).1.ul
 obtain⟨r1,r2,r3,r4⟩:=jb (Ym:=Ym) (qs.map (·.1)) ([],pm) ok (by refine aa (Og _) ?_;exact UL) RB;have r5:=lH (Ym:=Ym) (qs.map (·.1)) ([],pm) MC;have QN:=h.cur;have hpmo:=h.YC;have hk:=h.keys;have ht:=h.tups;rw[Lk] at QN hpmo hk ht;rw[KE] at r3 r4;dsimp only at r3;simp only[List.length_nil] at r4;refine⟨_,rfl,h.dict,h.YE,QN,hpmo,r1,by refine aa QN ?_;exact r2,by exact L3 [_,_,_] V2 (.n 60) 1 V0 (.n 40) 1 V1 (.n 2) 1 V2 (.a V0 V1) rfl Qw hl r3,by rw[←QN,KE] at r4;exact L2 [_,_] V1 (.n 2) 1 V0 (.n 2) 1 V1 (.a W0 V0) rfl hl r4,by refine aa QN ?_;exact r5,fun p hp=>?_,fun x hx=>?_⟩
 ·have h1:p.up∈(aG Ym ([],pm) (qs.map (·.1))).2.1:=ae QN (KU hp)
  rcases nA _ _ _ h1 with h|h
  ·exact(nomatch h)
  ·obtain⟨x,hx,e⟩:=KI.mp h
   show bn p.up.1;exact ae e ((hq x hx).2)
 ·obtain⟨i,a3,pre,t1,t2,t3,hi,hp,hv,hm⟩:=yw hk (by exact aa (fW _ _ _) (aa (KE _) rfl)) hn ht hx
  exact⟨a3,pre,t1,t2,t3,hv,hm,by refine aa QN ?_;exact pG _ ([],pm) ok (by refine aa (Og _) ?_;exact UL) RB i x.1 pre (by refine aa LV (aa hi ?_);rfl) hp⟩
structure zD{α:Type}(Dp W D de al pm o1 q a f rd Dq tab c Yh Yn ns:α)(g YE G3 Z:List α):Prop where
 p:(Dp::([W,D,de,al,pm]++o1::q::(g++a::(f::rd::Dq::tab::c::(Yh::Yn::ns::G3))))).Perm (Yh::Yn::D::ns::Z)
 mDp:Dp∈Z
 mW:W∈Z
 Ys:al∈Z
 mrd:rd∈Z
 mG:∀ x∈G3,x∈Z
 mg:∀ x∈g,x∈Z
 s:∀ S:List α,S.Sublist G3->(W::de::al::pm::(YE++(tab::c::S))).Sublist Z
theorem vo(Dp W D de al pm o1 q a f rd Dq tab c Yh Yn ns:α)(G3:List α)(h:g.Perm (YE++g')):∃ Z,zD Dp W D de al pm o1 q a f rd Dq tab c Yh Yn ns g YE G3 Z:=by
 refine⟨Dp::W::de::al::pm::o1::q::((YE++g')++a::f::rd::Dq::tab::c::G3),?_,by simp,by simp,by simp,by simp,fun x hx=>by simp[hx],fun x hx=>?_,fun S hS=>?_⟩
 ·have h1:(g++a::(f::rd::Dq::tab::c::(Yh::Yn::ns::G3))).Perm ([Yh,Yn,ns]++((YE++g')++a::f::rd::Dq::tab::c::G3)):=
   (h.append (bc [_,_,_,_,_,_] (bc [_,_,_,_,_,_] (bc [_,_,_,_,_,_] (.refl _))))).trans (Lb (YE++g') [_,_,_] _)
  refine(h1.append_left [Dp,W,D,de,al,pm,o1,q]).trans ?_;exact bc [_,_,_,_,_,_,_,_] (bc [_,_,_,_,_,_,_,_] (bc [_,_] (bc [_,_,_,_,_,_,_] (.refl _))))
 ·have:=h.mem_iff.mp hx
  simp only[KK] at this;simp only[KG,KK];rcases this with h|h<;>simp[h]
 ·refine .cons _ (.cons_cons _ (.cons_cons _ (.cons_cons _ (.cons_cons _ (.cons _ (.cons _ ?_))))))
  refine aa (KQ _ _ _) ?_;refine List.Sublist.append (List.Sublist.refl _) ?_;exact List.Sublist.trans (.cons _ (.cons _ (.cons _ (.cons _ (.cons_cons _ (.cons_cons _ hS)))))) (Ly g' _)
theorem m4{α:Type}{p x y a b:α}{Z:List α}(h:p∈Z):p∈x::y::a::b::Z:=cS h
end
theorem JL(h1:∀ J:ad Value,J (.str y ty) m n->Tr c E m n (eval e1 env) J)(hy:y.length<=1006)(h2:∀ J:ad Value,(∀ t,J (.str z t) m n)->Tr c E m n (eval e2 env) J)(hz:z.length<=1000)
  (h:∀ t,J (.str (Yc " "++y++Yc "=\""++z++Yc "\"") t) m n):
  Tr c E m n (eval (.JoinedStr [.Constant (.str (Yc " ")) k1 p1, .FormattedValue e1 (-1) none p2, .Constant (.str (Yc "=\"")) k2 p3, .FormattedValue e2 (-1) none p4, .Constant (.str (Yc "\"")) k3 p5] p6) env) J:=by
 have l1:(Yc " "++y).length<=1007:=by refine aa (KB _ _) (aa wG ?_);exact L1 [_] (.a W1 V0) (.n 1007) 1 V0 (.n 1006) rfl hy
 have l2:(Yc " "++y++Yc "=\"").length<=1009:=by refine aa (KB _ _) (aa Af ?_);exact L1 [_] (.a V0 (.n 2)) (.n 1009) 1 V0 (.n 1007) rfl l1
 have l3:(Yc " "++y++Yc "=\""++z).length<=2009:=by refine aa (KB _ _) ?_;exact L2 [_,_] (.a V1 V0) (.n 2009) 1 V0 (.n 1000) 1 V1 (.n 1009) rfl hz l2
 have l4:(Yc " "++y++Yc "=\""++z++Yc "\"").length<=2010:=by refine aa (KB _ _) (aa Ag ?_);exact AK l3
 refine Hf (G4 (Gc fun _=>⟨_,_,rfl,by refine aa (Mc _) (aa wG ?_);decide,?_⟩));refine aa (Mc _) ?_;exact G4 (HX (h1 _ (HQ (bd hy) fun _=>⟨_,_,rfl,bd l1,GQ (Hv (bd l2) (GQ (G4 (HX (h2 _ fun _=>HQ (bd hz) fun _=>⟨_,_,rfl,bd l3,GQ (Hv (bd l4) (G0 (G7 (bd l4) h)))⟩)))))⟩)))
theorem sg{α:Type}{A Yh Yn D ns W de al pm tab c Yt ak:α}(e X:List α):
  (A::Yh::Yn::D::ns::W::de::al::pm::(e++(tab::c::Yt::ak::X))).Perm (A::([W,D,de,al,pm]++(Yh::Yt::Yn::ns::ak::tab::([c]++(e++X))))):=by
 refine(((Lb e [tab,c,Yt,ak] X).append_left [Yh,Yn,D,ns,W,de,al,pm]).trans ?_).cons A;exact bc [_,_,_,_] (bc [_,_] (bc [_,_,_] (bc [_,_,_] (bc [_,_,_] (bc [] (bc [_,_,_,_] (bc [] (bc [] (bc [_,_] (.refl _))))))))))
inductive xz(u tg:Str)(tk:Tok)(ak al:Nat)(qt:Value)(rd Dp:Nat)(Yk:List Pr)(V:X4):Flow->X5->X4->Prop
 |mk {m:X5} (A:Nat) (PL:X8) (cA:Nat) (g2:X4):bU g2 PL (aX (Yk.map Pr.up))->gb u tg tk ak al qt m->m (Yc "resolved_names")=some (.ref rd)->m (Yc "parsed_qnames")=some (.ref Dp)->m (Yc "attr_list")=some (.ref A)->
  xz u tg tk ak al qt rd Dp Yk V .next m ((A,lO PL cA)::(g2++V))
inductive xA(u tg:Str)(tk:Tok)(ak al:Nat)(qt:Value)(rd Dp Yt Yh:Nat)(QK:Str)(Yk:List Pr)(pg:X8)(v1 v2 v3:Addr×Obj)(Z:X4):Flow->X5->X4->Prop
 |mk {m:X5} (PY:X8) (cg3:Nat) (Z3:X4):Z.Sublist Z3->PY.length<=2->StrsAre PY ((Yc "<"++(QK++Yc ":"++tg))::(if aX (Yk.map Pr.up)=[] then[] else[fL (aX (Yk.map Pr.up))]))->
  gb u tg tk ak al qt m->m (Yc "resolved_names")=some (.ref rd)->m (Yc "parsed_qnames")=some (.ref Dp)->m (Yc "write")=some (.ref Yt)->xA u tg tk ak al qt rd Dp Yt Yh QK Yk pg v1 v2 v3 Z .next m ((Yh,lO (pg++PY) cg3)::v1::v2::v3::Z3)
inductive xB(u tg xp xn QK:Str)(qt:Value)(Yh:Nat)(init Yq:ay)(Yk:List Pr)(pm:List UP)(st:List Str×List UP×List UP)(pg:X8)(v1 v2 v3:Addr×Obj)(Z3:X4):Flow->X5->X4->Prop
 |mk {m:X5} (yu Qu:Option Str) (cg5:Nat) (Ww:X8):(qt=.none/\yu=none∨(∃ tq,qt=.str (xp++Yc ":"++xn) tq)/\yu=Yq.uriOf xp/\yu≠none)->st=aG (init.flat.map Pr.up) ([],pm) (dS u tg xn yu)->
  (yu=none/\Qu=none∨bV (fun u2 p2=>yu=some u2) (fun _ p2=>Qu=some p2) (fun u2 p2=>(u2,p2)∈st.2.1++init.flat.map Pr.up))->StrsAre Ww (aW QK tg (aX (Yk.map Pr.up)) Qu xn)->
  xB u tg xp xn QK qt Yh init Yq Yk pm st pg v1 v2 v3 Z3 .next m ((Yh,lO (pg++Ww) cg5)::v1::v2::v3::Z3)
inductive j8(u tg:Str)(tk:Tok)(xp xn:Str)(Yq:ay)(qt:Value)(so Sl:Obj):Option Qn->Prop
 |none:qt=.none->Sl.IsDictOf (PySem.strKind PR w) []->ba (PySem.strKind PR w) so [(ah u tg, .str (ah u tg) tk)]->j8 u tg tk xp xn Yq qt so Sl .none
 |some (u2:Str) (t2 tq:Tok):qt=.str (xp++Yc ":"++xn) tq->Yq.uriOf xp=.some u2->Sl.IsDictOf (PySem.strKind PR w) [(xp++Yc ":"++xn, .str (ah u2 xn) t2)]->
  ba (PySem.strKind PR w) so [(ah u tg, .str (ah u tg) tk),(ah u2 xn, .str (ah u2 xn) t2)]->j8 u tg tk xp xn Yq qt so Sl (.some (u2,xn,t2))
theorem j8.facts(h:j8 u tg tk xp xn Yq qt so Sl y2):
  (qt=.none/\y2=.none)∨gR (fun(u2:Str) (t2 tq:Tok)=>qt=.str (xp++Yc ":"++xn) tq) (fun u2 _ _=>Yq.uriOf xp=.some u2) (fun u2 t2 _=>y2=.some (u2,xn,t2)) (fun u2 t2 _=>Sl.IsDictOf (PySem.strKind PR w) [(xp++Yc ":"++xn, .str (ah u2 xn) t2)]):=by
 cases h with
 |none a _ _=>exact .inl ⟨a,rfl⟩
 |some u2 t2 tq a b c _=>exact .inr ⟨u2,t2,tq,a,b,rfl,c⟩
inductive xy(u tg:Str)(tk:Tok)(ak al:Nat)(xp xn:Str)(Yq:ay)(qt:Value)(rd Dq:Nat)(X:X4):Flow->X5->X4->Prop
 |mk {m:X5} (so Sl:Obj) (y2:Option Qn):gb u tg tk ak al qt m->m (Yc "qnames")=some (.ref Dq)->m (Yc "resolved_names")=some (.ref rd)->j8 u tg tk xp xn Yq qt so Sl y2->xy u tg tk ak al xp xn Yq qt rd Dq X .next m ((rd,Sl)::(Dq,so)::X)
structure A7{α:Type}(o1 o2 W D de al pm Yh Yt Yn ns ak tab:α)(ex rd R Y G3 G1:List α):Prop where
 p0:(o1::o2::([W,D,de,al,pm]++(Yh::Yt::Yn::ns::ak::tab::(ex++(rd++R))))).Perm (o1::tab::(ex++Y))
 p1:Y.Perm (([W,D,ns]++rd)++G1)
 p2:Y.Perm ([W,D,de,al,pm]++(Yh::Yn::ns::G3))
 m1:Yh∈G1
 y2:o2∈Y
 yW:W∈Y
 yD:D∈Y
 ya:ak∈Y
 g2:o2∈G3
 ga:ak∈G3
 gp:Yt∈G3
 sl:(Yt::ak::(rd++R)).Sublist G3
theorem xd(o1 o2 W D de al pm Yh Yt Yn ns ak tab:α)(ex rd R:List α):∃ Y G3 G1,A7 o1 o2 W D de al pm Yh Yt Yn ns ak tab ex rd R Y G3 G1:=
 ⟨o2::W::D::de::al::pm::Yh::Yt::Yn::ns::ak::(rd++R),o2::Yt::ak::(rd++R),o2::de::al::pm::Yh::Yt::Yn::ak::R,
 (bc [_,_,_,_,_,_,_,_,_,_,_] (Lb [_,_,_,_,_,_,_,_,_,_,_] ex (rd++R))).cons _,bc [_] (bc [_] (bc [_,_,_,_,_,_,_] (Lb [_,_,_,_,_,_,_,_] rd R))),bc [_] (bc [_] (bc [_] (bc [_] (bc [_] (bc [_] (bc [_,_] (bc [_,_] (.refl _)))))))),
 by simp,by simp,by simp,by simp,by simp,by simp,by simp,by simp,Lq _ _⟩
namespace STk
def Q(wa:aE)(t:Nat->Tok)(Yg:Value)(seen done:Bool)(cnt cd cl cg cs cn ca:Nat)(init Yq:ay)(al ak:Nat)(pm:List UP)(po:Obj)(u tg:Str)(tk:Tok)(pg ps:X8)(YD:Array Value)(ex R:X4)(xp xn:Str):Prop:=∀ (args:X8) (qt:Value) (hsa:(ak==sysModules)=false) (Ve:args=[.ref wa.W, .str (ah u tg) tk, .ref ak, .ref al]/\qt=.none∨args=[.ref wa.W, .str (ah u tg) tk, .ref ak, .ref al,qt]) (UY:qt=.none∨∃ tq,qt=.str (xp++Yc ":"++xn) tq) (hlam:j4 (Yc "C14NWriterTarget._start"++".<locals>."++"<lambda>") kU YD ex) (Qr:(wa.YB==sysModules)=false) (Yw:gv po pm) (ok:bK pm) (UL:bj (init.flat.map Pr.up) pm) (Qw:pm.length<=40) (Th:∀ x∈init,x.2.1.length<=1000) (Qi:init.flat.length<=900) (hR:∀ p∈init.lists++init.flat.map Pr.ent,p∈R) (hpu:bn u) (Ru:∀ u2,Yq.uriOf xp=some u2->bn u2) (hpx:bn xn) (Qs:Yq.length<=100000) (S6:ps.length<=50000) (Qm:pg.length<=50000) (Ur:iB u tg) (VF:rH (u,tg,tk)) (hxp:xp.length<=1000) (RQ:xn.length<=1000) (hnc:∀ x∈Yq,x.2.1.length<=1000) (hnu:∀ p∈Yq.flat,p.YA.length<=1000/\p.pre.length<=1000) (hsq:Txt.splitMax (xp++Yc ":"++xn) (Yc ":") 1=[xp,xn]) (RP:[wa.W,wa.D,wa.ns].Nodup) (TP:∀ u2,Yq.uriOf xp=some u2->iB u2 xn/\(∀ t2,rH (u2,xn,t2))/\ah u2 xn≠ah u tg/\¬(Yc "{"++u2=Yc "{"++u/\xn=tg)),bD 6 126 args
   (df wa t Yg seen done cnt cd init al [] cl po++((wa.Yh,lO pg cg)::(wa.Yt,be "list.append" (.ref wa.Yh))::(wa.Yn,lO (ps++[Value.bool false]) cs)::(wa.ns,lO Yq.refs cn)::(ak,dictOf [] ca)::(123,tabObj YD)::(ex++(Yq.read++R))))
   (mO wa Yg done cnt cd init Yq al ak ca pm u tg xp xn t pg ps R qt) (fun PO Yp=>(∃ tq,qt=.str (xp++Yc ":"++xn) tq)/\Yq.uriOf xp=none/\PO=Yc "Prefix "++xp++Yc " of QName \""++(xp++Yc ":"++xn)++Yc "\" is not declared in scope"/\Yp=[(wa.Yh,lO pg cg),(123,tabObj YD)])
def P_(y:((((aE×(Nat->Tok))×Value×Bool)×(Bool×Nat)×Nat)×((Nat×Nat)×Nat×Nat)×(Nat×ay)×ay)×(((Nat×Nat)×(List UP)×Obj)×(Str×Str)×Tok)×((X8×X8)×(Array Value)×X4)×(X4×Str)×Str):Prop:=Q y.1.1.1.1.1 y.1.1.1.1.2 y.1.1.1.2.1 y.1.1.1.2.2 y.1.1.2.1.1 y.1.1.2.1.2 y.1.1.2.2 y.1.2.1.1.1 y.1.2.1.1.2 y.1.2.1.2.1 y.1.2.1.2.2 y.1.2.2.1.1 y.1.2.2.1.2 y.1.2.2.2 y.2.1.1.1.1 y.2.1.1.1.2 y.2.1.1.2.1 y.2.1.1.2.2 y.2.1.2.1.1 y.2.1.2.1.2 y.2.1.2.2 y.2.2.1.1.1 y.2.2.1.1.2 y.2.2.1.2.1 y.2.2.1.2.2 y.2.2.2.1.1 y.2.2.2.1.2 y.2.2.2.2
def y_:((((aE×(Nat->Tok))×Value×Bool)×(Bool×Nat)×Nat)×((Nat×Nat)×Nat×Nat)×(Nat×ay)×ay)×(((Nat×Nat)×(List UP)×Obj)×(Str×Str)×Tok)×((X8×X8)×(Array Value)×X4)×(X4×Str)×Str:=pk (cC (cC (cC (cC (cC i9 inferInstance) inferInstance) inferInstance) inferInstance) inferInstance) P_
def wa:aE:=y_.1.1.1.1.1
def t:Nat->Tok:=y_.1.1.1.1.2
def Yg:Value:=y_.1.1.1.2.1
def seen:Bool:=y_.1.1.1.2.2
def done:Bool:=y_.1.1.2.1.1
def cnt:Nat:=y_.1.1.2.1.2
def cd:Nat:=y_.1.1.2.2
def cl:Nat:=y_.1.2.1.1.1
def cg:Nat:=y_.1.2.1.1.2
def cs:Nat:=y_.1.2.1.2.1
def cn:Nat:=y_.1.2.1.2.2
def ca:Nat:=y_.1.2.2.1.1
def init:ay:=y_.1.2.2.1.2
def Yq:ay:=y_.1.2.2.2
def al:Nat:=y_.2.1.1.1.1
def ak:Nat:=y_.2.1.1.1.2
def pm:List UP:=y_.2.1.1.2.1
def po:Obj:=y_.2.1.1.2.2
def u:Str:=y_.2.1.2.1.1
def tg:Str:=y_.2.1.2.1.2
def tk:Tok:=y_.2.1.2.2
def pg:X8:=y_.2.2.1.1.1
def ps:X8:=y_.2.2.1.1.2
def YD:Array Value:=y_.2.2.1.2.1
def ex:X4:=y_.2.2.1.2.2
def R:X4:=y_.2.2.2.1.1
def xp:Str:=y_.2.2.2.1.2
def xn:Str:=y_.2.2.2.2
theorem go:Q wa t Yg seen done cnt cd cl cg cs cn ca init Yq al ak pm po u tg tk pg ps YD ex R xp xn:=by
 intro args qt hsa Ve UY hlam Qr Yw ok UL Qw Th Qi hR hpu Ru hpx Qs S6 Qm Ur VF hxp RQ hnc hnu hsq RP TP;refine' Ix (binds:=[(Yc "self", .ref wa.W),(Yc "tag", .str (ah u tg) tk),(Yc "attrs", .ref ak),(Yc "new_namespaces", .ref al),(Yc "qname_text",qt)]) (by k_is) (by k_is) ?k9 (by rfl) (by decide+kernel) (by rfl) (by rfl) (by rfl) ?k15 ?k16 ?_
 case k9=>
  intro s X;rcases Ve with⟨rfl,rfl⟩|rfl
  ·exact binds_K X rfl (by k_is) rfl rfl rfl
  ·exact binds_K X rfl (by k_is) rfl rfl rfl
 case k15=>
  intro L cells Y;obtain⟨o1,o2,rfl,-,-⟩:=CellsAre.two Y;refine⟨aw.cons.mpr ⟨fun q hq=>?_,aw.cons.mpr ⟨fun q hq=>(nomatch hq),aw.nil⟩⟩,fun p hp=>?_⟩
  ·refine aa (KD.mp hq) ?_;exact(Nat.succ_ne_self (L+1)).symm
  ·rcases KG.mp hp with rfl|hp
   ·exact LG (LP L)
   ·refine aa (KD.mp hp) ?_;exact LP L
 case k16=>
  rintro PO Yp ⟨-,-,-,rfl⟩ q hq;rcases KG.mp hq with rfl|hq
  ·simp[df]
  ·refine aa (KD.mp hq) ?_
   simp[df]
 intro A₀ base dp un gd L outer h₀ os g₀ c E K cells hE hK Y;obtain⟨o1,o2,rfl,d1,d2⟩:=CellsAre.two Y;clear Y;change o1.data=.cell none at d1;change o2.data=.cell (some (.ref wa.W)) at d2;have RH:∀ {m n p} {J:ad Value},(L+1,o2)∈n->J (.ref wa.W) m n->Tr c E m n (eval (.Name (Yc "self") p) c.env) J:=fun hm h=>GJ rfl hm d2 h;change Tr _ _ (fun y=>if y=Yc "qname_text" then some qt else if y=Yc "new_namespaces" then some (.ref al) else if y=Yc "attrs" then some (.ref ak) else if y=Yc "tag" then some (.str (ah u tg) tk) else none) _ _ _;generalize P5:(fun y=>if y=Yc "qname_text" then some qt else _:X5)=m0;revert m0;refine wrap ?_;intro m0 P5;have lk:gb u tg tk ak al qt m0:=ae P5 ⟨rfl,rfl,rfl,rfl⟩;clear P5;obtain⟨Y,G3,G1,sp⟩:=xd (L+1+1,o1) (L+1,o2) (wa.W,instObj 150 wa.D) (wa.D,dictOf (aD wa t Yg seen done) cnt) (wa.decl,lO (init.refs++[Value.ref al]) cd) (al,lO (([]:List Pr).map Pr.val) cl) (wa.YB,po) (wa.Yh,lO pg cg) (wa.Yt,be "list.append" (.ref wa.Yh)) (wa.Yn,lO (ps++[Value.bool false]) cs) (wa.ns,lO Yq.refs cn) (ak,dictOf [] ca) (123,tabObj YD) ex Yq.read R;refine Gd sp.p0 ?_;have up:∀ {p:Addr×Obj},p∈Y->p∈(L+1+1,o1)::(123,tabObj YD)::(ex++Y):=fun h=>dj (Kz _ h);have hX1:=((sp.p1.append_left ex).cons (123,tabObj YD)).cons (L+1+1,o1);generalize hX:(L+1+1,o1)::(123,tabObj YD)::(ex++Y)=X at up hX1⊢;revert X;refine wrap ?_;intro X hX up hX1;refine Gk (GR (Gy (Gb (Hy (sf wa t Yg seen done) (fun J h=>RH (up sp.y2) h) (up sp.yW) (up sp.yD) (Gw (Hl (F9 (F6 ?_))))))));refine Gf (Jf (by exact rfl) (by exact rfl) fun Dq ob hS0=>FX lk.tg (JG (pre:=[]) rfl hS0 (by decide) Lw fun so hS=>FX lk.at' (J1 (.head _) hS (KZ 1) (.tail _ (up sp.ya)) hsa (Gf (IE fun rd Sl hr hrs=>?_)))));show Tr _ _ _ _ _ _;generalize P5:(fun y=>if y=Yc "resolved_names" then some (Value.ref rd) else _)=m1;revert m1;refine wrap ?_;intro m1 P5;have QO:gb u tg tk ak al qt m1:=ae P5 ⟨lk.tg,lk.at',lk.nn,lk.qt⟩;have kq:m1 (Yc "qnames")=some (.ref Dq):=ae P5 rfl;have kr:m1 (Yc "resolved_names")=some (.ref rd):=ae P5 rfl;clear P5 lk;refine Gu (GH (K₁:=xy u tg tk ak al xp xn Yq qt rd Dq X) (fun T5 Sa=>?s4) ?rest)
 case s4=>
  rcases UY with hq|⟨tq,hq⟩
  ·exact GV (Gb (FX (hq▸QO.qt) (Gw (Hc (F9 (F6 (Sa _ _ _ (.mk so Sl none QO kq kr (.none hq hr hS)))))))))
  ·have kt1:m1 (Yc "qname_text")=some (.str (xp++Yc ":"++xn) tq):=hq▸QO.qt
   refine GV (Gb (FX kt1 (Gw (H8 (F9 (Ib (Ga (RH (dj (up sp.y2)) (GZ (jw wa t Yg seen done) (dj (up sp.yW)) (dj (up sp.yD)) (Ha (jw wa t Yg seen done).hk (FZ (FX kt1 (FY ?_)))))))))))));have hp:((rd,Sl)::(Dq,so)::X).Perm (([(wa.W,instObj 150 wa.D),(wa.D,dictOf (aD wa t Yg seen done) cnt),(wa.ns,lO Yq.refs cn)]++Yq.read)++((rd,Sl)::(Dq,so)::(L+1+1,o1)::(123,tabObj YD)::(ex++G1))):=
    ((hX1.trans (Lb ((L+1+1,o1)::(123,tabObj YD)::ex) ([(wa.W,instObj 150 wa.D),(wa.D,dictOf (aD wa t Yg seen done) cnt),(wa.ns,lO Yq.refs cn)]++Yq.read) G1)).append_left [_,_]).trans (Lb [_,_] _ _)
   refine Gd hp (bD.to (Ia (rP wa t Yg seen done cnt cn Yq xp xn tq hxp RQ hnc hnu hsq)) c E _ _ _ ?k ?J ?R)
   case k=>show 4<=5;decide
   case R=>exact hE _ _ fun PO Vj ⟨⟨h1,h2⟩,h3⟩=>⟨_,⟨⟨tq,hq⟩,h1,h2,rfl⟩,fun q hq=> .inr (by rcases KG.mp hq with rfl|hq;(· exact cS (Kz _ sp.m1));(· refine aa (KD.mp hq) ?_;exact ir))⟩
   case J=>
    rintro v n' ⟨f',⟨⟨u2,VK,t2,rfl⟩,rfl⟩,rfl⟩;obtain⟨_,_,P2,_⟩:=TP u2 VK;refine Gd hp.symm (Go ?_);show Tr _ _ _ _ _ _;generalize P5:(fun y=>if y=Yc "qname" then some (Value.str _ t2) else _)=m2;revert m2;refine wrap ?_;intro m2 P5;have Rb:gb u tg tk ak al qt m2:=ae P5 ⟨QO.tg,QO.at',QO.nn,QO.qt⟩;have kt2:m2 (Yc "qname_text")=some (.str (xp++Yc ":"++xn) tq):=hq▸Rb.qt;have kq2:m2 (Yc "qnames")=some (.ref Dq):=ae P5 kq;have kr2:m2 (Yc "resolved_names")=some (.ref rd):=ae P5 kr;have kn2:m2 (Yc "qname")=some (.str (ah u2 xn) t2):=ae P5 rfl;clear P5;exact Iv (FX kr2 (FX kt2 (Iu (pre:=[]) rfl hr (by decide) fun obr' hr'=>Ge (Ga (FX kq2 (Ke aJ hS (Gq (FZ (FX kn2 (FY (J3 (pre:=[_]) rfl hS (by show 1<=2;decide) (fun h=>P2 (KD.mp h)) fun SL RW=>F6 (Sa _ _ _ (.mk SL obr' (some (u2,xn,t2)) Rb kq2 kr2 (.some u2 t2 tq hq VK hr' RW))))))))))))))
 case rest=>
  rintro f m n ⟨so,Sl,y2,Rb,kq2,kr2,Wc⟩;clear hS hr;refine Gk (GR (Gy (Gb (Hy (wQ wa t Yg seen done) (fun J h=>RH (dj (up sp.y2)) h) (dj (up sp.yW)) (dj (up sp.yD)) (Gw (Hc (F9 (Gf (Gw (F6 ?_))))))))));refine G8 (JO (uL wa t Yg seen done) (fun J h=>RH (dj (up sp.y2)) h) (dj (up sp.yW)) (dj (up sp.yD)) fun q=>Hg (pre:=[_,_,_]) rfl (by rw[←hX];rfl) d1 (fun U9 d1'=>?_) rfl);have hSq:ba (PySem.strKind PR w) so (setOf (u,tg,tk) y2):=by cases Wc<;>assumption
  have U7:∀ x,y2=some x->iB x.1 x.2.1/\rH x/\ah x.1 x.2.1≠ah u tg/\¬(Yc "{"++x.1=Yc "{"++u/\x.2.1=tg)/\bn x.1:=by
   intro x e
   cases Wc with
   |none=>cases e
   |some u2 t2 _ _ VK=>cases e;obtain⟨a1,a2,a3,a4⟩:=TP u2 VK;exact⟨a1,a2 t2,a3,a4,Ru u2 VK⟩
  clear hX1 up hX X;refine JE (wa:=wa) (t:=t) (Yg:=Yg) (seen:=seen) (done:=done) (cnt:=cnt) (cd:=cd) (cl:=cl) (init:=init) (al:=al) (pm:=pm) (po:=po) (qs:=dI (u,tg,tk) y2) (by exact rfl) (by exact rfl) (by exact rfl) (by decide) (by decide) (by rfl) (by rfl) (by intro _;rfl) (by show 4<=5;decide) Qr (fun _=>rfl) (fun _=>rfl) (fun _=>rfl) (fun _=>rfl) (by decide) (by decide) Yw ok UL Qw Th Qi wX ?hq (lI fun x e=>(U7 x e).2.2.1) ?_
  case hq=>
   intro x hx;rcases o0 hx with rfl|e
   ·exact Ur
   ·exact(U7 x e).1
  refine Jr (by k_is) (by boot_fast) (by decide) (FX kq2 (Kr (pre:=[_,_,_,_]) ?hC rfl rfl hlam rfl rfl fun f c' oc vs tv T6 pmv hd hv=>?_))
  case hC=>exact fun h X=>⟨_,_,_,_,_,_,_,_,_,X 125 _ (by k_is),rfl,rfl,by rfl,by rfl,by rfl,by rfl,by rfl,by rfl,by decide⟩
  refine Ji (x1:=(u,tg,tk)) (y2:=y2) (by show 1<=5;decide) ir hSq ?turn (fun x2 e=>(U7 x2 e).2.2.2.1) fun a cL=>?_
  case turn=>
   intro x hx s l;refine wE l (by show 1<=5;decide) (.head _) uQ hd hv (by rfl) (by decide) (by rfl) (by rfl) (by rfl) (fun _ _ _=>by rfl) (fun _=>⟨_,by rfl⟩) ?_ ?_
   ·rcases hx with rfl|e
    ·exact VF
    ·exact(U7 x e).2.1
   ·rcases hx with rfl|e
    ·exact vc Ur
    ·exact vc (U7 x e).1
  refine⟨a,cL,L+1+1,q,U9,_,rfl,by exact rfl,d1',fun p hp=>uR (sp.sl.subset (.tail _ (.tail _ (Kz _ (hR p hp))))),(sp.p2.append_left [_,_,_,_,_,_,_,_]).trans ((Lb [_,_,_,_,_,_,_,_] (df wa t Yg seen done cnt cd init al [] cl po) _).trans (Lr _ (bc [_,_,_,_,_] (bc [_,_] (.refl _))))),?_⟩;intro Dp dO Yk Rp Qg g PN Sb;obtain⟨st,pa⟩:=uY Sb ok UL Qw (fun x hx=>by
   rcases o0 hx with rfl|e
   ·exact⟨Ur,hpu⟩
   ·exact⟨(U7 x e).1,(U7 x e).2.2.2.2⟩) (lI fun x e=>(U7 x e).2.2.1) ve
  clear Sb hSq;have TN:∀ p∈Yk,p.YA.length<=1000/\p.pre.length<=1000/\0<p.pre.length:=fun p hp=>pa.i2.len pa.i1 pa.i3 (Ky _ (KU hp));have hlx:j4 vU kU #[rawInt kU.line,rawInt kU.col, .ref c'] [(c',oc)]:= .inr ⟨c',oc,_,tv,rfl,rfl,hd,hv⟩;obtain⟨g',hg'⟩:=AJ (kH pa.i5) (fun q hq=>by obtain⟨p,hp,rfl⟩:=KI.mp hq;exact pa.YE p hp:∀ q∈Yk.map Pr.ent,q∈g);obtain⟨Z,sz⟩:=vo (Dp,dO) (wa.W,instObj 150 wa.D) (wa.D,dictOf (aD wa t Yg seen done) cnt) (wa.decl,lO (init.refs++[Value.ref al]) cd) (al,lO (Yk.map Pr.val) Rp) (wa.YB,Qg) (L+1+1,U9) (q,methodObj (.ref 90) (.ref wa.W)) (a,lO ((dI (u,tg,tk) y2).map Qn.val) cL) (f,_) (rd,Sl) (Dq,so) (123,tabObj #[rawInt kU.line,rawInt kU.col, .ref c']) (c',oc) (wa.Yh,lO pg cg) (wa.Yn,lO (ps++[Value.bool false]) cs) (wa.ns,lO Yq.refs cn) G3 hg';refine Gd sz.p ?_;have hZs:=sz.s _ sp.sl;have zm:=sz.mG;clear hd hv hg';show Tr _ _ _ _ _ _;generalize P5:(fun z=>if z=Yc "parsed_qnames" then some (Value.ref Dp) else _)=m3;revert m3;refine wrap ?_;intro m3 P5;have Qd:gb u tg tk ak al qt m3:=ae P5 ⟨Rb.tg,Rb.at',Rb.nn,Rb.qt⟩;have kr3:m3 (Yc "resolved_names")=some (.ref rd):=ae P5 kr2;have kp3:m3 (Yc "parsed_qnames")=some (.ref Dp):=ae P5 rfl;clear P5 Rb kr2 kq2;refine Gu (GH (K₁:=xz u tg tk ak al qt rd Dp Yk ((wa.Yh,lO pg cg)::(wa.Yn,lO (ps++[Value.bool false]) cs)::(wa.D,dictOf (aD wa t Yg seen done) cnt)::(wa.ns,lO Yq.refs cn)::Z)) (fun T5 Sa=>?s8) ?rest8)
  case s8=>
   have hV:∀ {p:Addr×Obj},p∈Z->p∈(wa.Yh,lO pg cg)::(wa.Yn,lO (ps++[Value.bool false]) cs)::(wa.D,dictOf (aD wa t Yg seen done) cnt)::(wa.ns,lO Yq.refs cn)::Z:=fun h=>cS h;generalize (wa.Yh,lO pg cg)::(wa.Yn,lO (ps++[Value.bool false]) cs)::(wa.D,dictOf (aD wa t Yg seen done) cnt)::(wa.ns,lO Yq.refs cn)::Z=V at hV Sa⊢;revert V;refine wrap ?_;intro V hV Sa
   cases Wn:Yk.isEmpty with
   |true=>
    have he:Yk=[]:=List.isEmpty_iff.mp Wn;exact GV (Gn (FX Qd.nn (Ht (b:=false) (hV sz.Ys) (by refine aa he ?_;exact K0 _) (by refine aa he ?_;rfl) (Gf (Gx (FY ⟨K0 _,fun A=>F6 (Sa _ _ _ (.mk A [] 0 [] (by refine aa he ?_;exact .nil) ⟨Qd.tg,Qd.at',Qd.nn,Qd.qt⟩ kr3 kp3 rfl))⟩))))))
   |false=>
    refine GV (Gn (FX Qd.nn (Ht (b:=true) (hV sz.Ys) (by have:=pa.i4;refine aa (KE _) ?_;exact bd this) (by refine aa List.isEmpty_map (aa Wn ?_);rfl) ?_)));refine ID (FX Qd.nn ⟨.list al (Yk.map Pr.val) Rp,fun j _ PL g2=>bU g2 PL ((Yk.take j).map fun p=>aU p.up),rfl, .inl (hV sz.Ys),by have:=pa.i4;show (Yk.map Pr.val).length<=1000;refine aa (KE _) ?_;exact bd this, .nil,?turn,?last⟩)
    case turn=>
     intro E' j v PL g2 I D C oI oC mC cD Y' N hj hv hP xC hY hN;change (Yk.map Pr.val)[j]?=some v at hv;rw[LV] at hv;obtain⟨p,hp,rfl⟩:=Ls.mp hv;obtain⟨S3,Uo,hl3⟩:=TN p (LJ hp);refine HS (k:=0) (x:= .str p.YA p.tu) (y:= .str p.pre p.tp) (Kz (_::_::_::g2) (hV (sz.mg _ (pa.YE p (LJ hp))))) (GB (pre:=[_]) rfl xC fun Q7 x1=>GB (pre:=[_]) rfl x1 fun Rx x2=>GI ?_);refine GA (FZ (Hb (Gn (Gh aJ x2 rfl (HF hl3 (bd Uo) (F8 (Gc fun t1=>Gh aJ x2 rfl (Gm (by refine aa wH ?_;exact L0 [] (.n 6) (.n 1000000) rfl) (bd Uo) fun t2=>FZ (Gh aJ x2 rfl (FY ⟨by show 2<=1000;decide,fun B=>hY _ _ _ ⟨rfl,Rx,_,(B,_)::g2,x2,bc [_] (bc [_] (bc [_] (.refl _))),?_⟩⟩))))))))));show bU _ (PL++[.ref B]) ((Yk.take (j+1)).map fun p=>aU p.up);exact aa (cB hp) (aa KN (bU.snoc (t:=t2) (u:=p.tu) (a:=aU p.up) (.head _) (bU.mono (fun q hq=> .tail _ hq) hP)))
    case last=>
     intro D _ PL g2 cD ho hP;have hP:bU g2 PL ((Yk.map Pr.up).map aU):=by
      have h:bU g2 PL ((Yk.take (Yk.map Pr.val).length).map fun p=>aU p.up):=hP;rw[KE,Lk] at h;exact aa M1 h
     refine Ge (Ga (FX rfl (Gj (.head _) PySem.F.slot_list_sort PySem.F.type_list_sort (Hk (J0 hP (fun q hq=>Ky _ hq) ?e1 (by refine aa (KE _) ?_;exact pa.i4) (uV pa.i5 fun x hx y hy e=>pa.i2.inj pa.i1 pa.i3 (Ky _ hx) (Ky _ hy) e) fun SS k' hA=>F6 (Sa _ _ _ (.mk D SS k' g2 hA ⟨Qd.tg,Qd.at',Qd.nn,Qd.qt⟩ kr3 kp3 rfl)))))))
     case e1=>intro e;rw[List.map_eq_nil_iff.mp e] at Wn;cases Wn
  case rest8=>
   rintro fl m n ⟨A,PL,cA,g2,hAt,S9,kr4,kp4,ka4⟩;clear Qd kr3 kp3;refine Gd (Lb (_::g2) [_,_,_,_] Z) ?_;have hZZ:Z.Sublist ((A,lO PL cA)::g2++Z):=Ly _ _;have hAm:(A,lO PL cA)∈(A,lO PL cA)::g2++Z:= .head _;have hAg:∀ p∈g2,p∈(A,lO PL cA)::g2++Z:=fun p hp=>Ky _ (.tail _ hp);generalize (A,lO PL cA)::g2++Z=Z2 at hZZ hAm hAg⊢;revert Z2;refine wrap ?_;intro Z2 hZZ hAm hAg;have z2:=hZZ.subset;have zo:=z2 (zm _ sp.g2);have zW:=z2 sz.mW;have za:=z2 (zm _ sp.ga);have zp:=z2 (zm _ sp.gp);refine Gk (Gn (FX S9.at' (Jn (m4 za) (dictE ca) hsa (by decide) (F6 (Gf (Ga (FX S9.at' (Kg (m4 za) (dictE ca) (Gq (FZ (Gc fun ts=>FY (Kc (m4 za) (dictE ca) hsa ?_))))))))))));have mW:∀ {x},(wa.W,instObj 150 wa.D)∈x::(wa.Yn,lO (ps++[Value.bool false]) cs)::(wa.D,dictOf (aD wa t Yg seen done) cnt)::(wa.ns,lO Yq.refs cn)::Z2:=m4 zW;refine Ge (Ga (Hy (ib wa t Yg seen done) (fun J h=>RH (m4 zo) h) mW co (Gj aJ Lo Lg (Gq (FZ (Hb (Gn (FX rfl (Hq (Gg (Hy (ib wa t Yg seen done) (fun J h=>RH (m4 zo) h) mW co (G6 fun t1=>Ho aJ (FY (Gs (pre:=[_]) rfl (by refine aa KH ?_;show ps.length+1<=100000;exact L1 [_] (.a V0 W1) (.n 100000) 1 V0 (.n 50000) rfl S6) ?_))))))))))))));refine Gf (Hy (iO wa t Yg seen done) (fun J h=>RH (m4 zo) h) (m4 zW) co ?_);show Tr _ _ _ _ _ _;generalize P5:(fun z=>if z=Yc "write" then some (Value.ref wa.Yt) else _)=m5;revert m5;refine wrap ?_;intro m5 P5;have VM:gb u tg tk ak al qt m5:=ae P5 ⟨S9.tg,S9.at',S9.nn,S9.qt⟩;have kr5:m5 (Yc "resolved_names")=some (.ref rd):=ae P5 kr4;have kp5:m5 (Yc "parsed_qnames")=some (.ref Dp):=ae P5 kp4;have ka5:m5 (Yc "attr_list")=some (.ref A):=ae P5 ka4;have kw5:m5 (Yc "write")=some (.ref wa.Yt):=ae P5 rfl;clear P5 S9 kr4 kp4 ka4 mW za zW;obtain⟨_,QK,tt1,tt2,tt3,hval1,hmt1,hin1⟩:=pa.name (u,tg,tk) wY;have hpl1:QK.length<=1000:=(pa.i2.len pa.i1 pa.i3 hin1).2.1;have htl1:=Ur.tl;refine Ge (HG kw5 (m4 zp) (F8 (Gc fun t2=>Gg (Gg (FX kp5 (FX VM.tg (Hn (m4 (z2 sz.mDp)) pa.dict hval1 (F7 fun t3=>Hj (j:=0) (xs:=[.str (QK++Yc ":"++tg) tt1, .str tg tt2, .str u tt3]) (m4 (z2 (sz.mg _ hmt1))) rfl rfl (by show 3<=1000;decide) (Gm (by refine aa Ci ?_;exact L0 [] W1 (.n 1000000) rfl) (by simp only[KB,uF];exact L2 [_,_] (.a (.a V0 W1) V1) (.n 1000000) 1 V0 (.n 1000) 1 V1 (.n 1000) rfl hpl1 htl1) fun t4=>⟨m4 zp,Hs (pre:=[]) (m4 zp) rfl (bd Qm) ?_⟩)))))))));have Tc:=hAt.len;have Wb:(aX (Yk.map Pr.up)).length<=2:=qd (by refine aa (KE _) ?_;exact pa.i4);refine Gu (GH (K₁:=xA u tg tk ak al qt rd Dp wa.Yt wa.Yh QK Yk pg (wa.Yn,lO (ps++[Value.bool false]++[Value.bool false]) (cs+1)) (wa.D,dictOf (aD wa t Yg seen done) cnt) (wa.ns,lO Yq.refs cn) Z) (fun T5 Sa=>?s14) ?rest14)
   case s14=>
    cases hoe:PL.isEmpty with
    |true=>
     have he:PL=[]:=List.isEmpty_iff.mp hoe;have hAz:aX (Yk.map Pr.up)=[]:=Me (by refine ae Tc (aa he ?_);rfl);exact GV (Gn (FX ka5 (Ht (b:=false) (m4 hAm) (by exact L3 [_,_] V0 (.n 100000) 3 V0 V1 2 V1 V0 1 V1 (.n 2) rfl (eL Tc) (eG Tc) Wb) hoe (F6 (Sa _ _ _ (.mk [_] _ Z2 hZZ (by show 1<=2;decide) (by refine aa (KW hAz) ?_;exact .cons _ _ .nil) VM kr5 kp5 kw5))))))
    |false=>
     refine GV (Gn (FX ka5 (Ht (b:=true) (m4 hAm) (by exact L3 [_,_] V0 (.n 100000) 3 V0 V1 2 V1 V0 1 V1 (.n 2) rfl (eL Tc) (eG Tc) Wb) hoe (Ge (HG kw5 (m4 zp) (Ga (Gc fun t5=>HM Ow Ox (Gq (FZ (GU (FX ka5 ⟨.list A PL cA,fun j _ sv gg=>gg=[]/\StrsAre sv (((aX (Yk.map Pr.up)).take j).map fun a=>Yc " "++a.1++Yc "=\""++a.2++Yc "\""),rfl, .inl (m4 hAm),by show PL.length<=1000;exact L3 [_,_] V0 (.n 1000) 3 V0 V1 2 V1 V0 1 V1 (.n 2) rfl (eL Tc) (eG Tc) Wb,⟨rfl, .nil⟩,?turn,?last⟩)))))))))))
     case turn=>
      rintro E' j v sv g I D C oI oC mC cD Y N hj hv ⟨rfl,hS⟩ xC hY hN;obtain⟨a2,Aj,ta,ua,ha,rfl,UU⟩:=hAt.get hv;obtain⟨x,hx,rfl⟩:=jv (LJ ha);obtain⟨p,hp,rfl⟩:=KI.mp hx;obtain⟨S3,Uo,hl3⟩:=TN p hp;have UU:=hAg _ UU;dsimp only at UU;have Ts:(Yc "xmlns:"++p.pre).length<=1006:=by refine aa (KB _ _) (aa wH ?_);exact L1 [_] (.a (.n 6) V0) (.n 1006) 1 V0 (.n 1000) rfl Uo
      refine HS (cY (m4 UU)) (GB (pre:=[_]) rfl xC fun Q7 x1=>GB (pre:=[_]) rfl x1 fun Rx x2=>GI ?_);refine JL (y:=aU p.up|>.1) (z:=p.YA) (fun J h=>Gh aJ x2 rfl h) Ts (fun J h=>GE (f:=168) (fun J h=>H7 (by k_is) h) (by k_is) (Gh aJ x2 rfl (dT.to (zI _ _ (pa.pl p hp)) (by show 2<=5;decide) fun v hv=>by obtain⟨tr,rfl⟩:=hv;exact h tr))) S3 fun s6=>hY _ _ _ ⟨rfl,Rx,_,[],x2, .refl _,rfl,?fin⟩
      case fin=>
       exact aa (cB ha) (aa KN (MZ hS (.cons _ _ .nil)))
     case last=>
      rintro D _ sv gg cD ho ⟨rfl,hS⟩;rw[show dv.N (.list A PL cA)=PL.length from rfl,Tc,Lk] at hS;refine Gd (Lb [_] [_,_,_,_] Z2) (FY (Io (its:=sv.toArray) (m4 (.head _)) hS (by decide+kernel) (qc Wb fun a ha=>?hw) fun t6=>⟨m4 (.tail _ zp),Hs (pre:=[]) (m4 (.tail _ zp)) rfl (by refine aa KH ?_;show pg.length+1<=100000;exact L1 [_] (.a V0 W1) (.n 100000) 1 V0 (.n 50000) rfl Qm) (F6 ?fin)⟩))
      case hw=>
       obtain⟨x,hx,rfl⟩:=jv ha;obtain⟨p,hp,rfl⟩:=KI.mp hx;obtain⟨S3,Uo,hl3⟩:=TN p hp;exact⟨by show (Yc "xmlns:"++p.pre).length<=2000;refine aa (KB _ _) (aa wH ?_);exact L1 [_] (.a (.n 6) V0) (.n 2000) 1 V0 (.n 1000) rfl Uo,S3⟩
      case fin=>
       refine aa (KQ _ _ _) ?_;refine Sa _ _ _ (.mk [_,_] _ (_::Z2) (hZZ.cons _) (by show 2<=2;decide) ?_ VM kr5 kp5 kw5);rw[KM fun e=>?_]
       ·exact .cons _ _ (.cons _ _ .nil)
       ·rw[e] at Tc
        rw[Me Tc] at hoe
        cases hoe
   case rest14=>
    rintro fl m n ⟨VQ,cg3,Z3,hZ3,hl3,hst3,RI,kr6,kp6,kw6⟩;clear VM kr5 kp5 ka5 kw5 zo zp z2 hZZ hAm hAg hAt Tc;have z3:=hZ3.subset;have zo:=z3 (zm _ sp.g2);have zp:=z3 (zm _ sp.gp);have hlp:(pg++VQ).length<=60000:=by refine aa KH ?_;exact L2 [_,_] (.a V0 V1) (.n 60000) 1 V0 (.n 50000) 1 V1 (.n 2) rfl Qm hl3
    refine Ge (HG kw6 (m4 zp) (Gc fun t7=>⟨m4 zp,Hs (pre:=[]) (m4 zp) rfl (bd hlp) ?_⟩));have Wp:=MZ hst3 (.cons (Yc ">") t7 .nil);have hl4:(VQ++[Value.str (Yc ">") t7]).length<=3:=by refine aa KH ?_;show VQ.length+1<=3;exact AK hl3
    refine aa (KQ pg VQ _) ?_;generalize VQ++[Value.str (Yc ">") t7]=WX at Wp hl4⊢;revert WX;refine wrap ?_;intro WX Wp hl4;refine Gu (GH (K₁:=xB u tg xp xn QK qt wa.Yh init Yq Yk pm st pg (wa.Yn,lO (ps++[Value.bool false]++[Value.bool false]) (cs+1)) (wa.D,dictOf (aD wa t Yg seen done) cnt) (wa.ns,lO Yq.refs cn) Z3) (fun T5 Sa=>?s16) ?rest16)
    case s16=>
     rcases Wc.facts with⟨hq,hy⟩|⟨u2,t2,tq,hq,VK,hy,hr2⟩
     ·exact GV (Gb (FX (hq▸RI.qt) (Gw (Hc (F9 (F6 (Sa _ _ _ (.mk none none _ _ (.inl ⟨hq,rfl⟩) (by refine aa pa.hst (aa hy ?_);rfl) (.inl ⟨rfl,rfl⟩) Wp))))))))
     ·have kt6:_=some (Value.str (xp++Yc ":"++xn) tq):=hq▸RI.qt
      obtain⟨_,Qu,ta,tb,tc,hval2,hmt2,US⟩:=pa.name (u2,xn,t2) (by refine aa hy ?_;unfold dI;dsimp only;split<;>simp);have Uo:Qu.length<=1000:=(pa.i2.len pa.i1 pa.i3 US).2.1;refine GV (Gb (FX kt6 (Gw (H8 (F9 (Ge (HG kw6 (m4 zp) (GE (f:=161) (fun J h=>Gz (by k_is) h) (by k_is) (Gg (Gg (FX kp6 (Gg (FX kr6 (FX kt6 (Hn (m4 (z3 sz.mrd)) hr2 qE (Hn (m4 (z3 sz.mDp)) pa.dict hval2 (F7 fun t8=>Hj (j:=0) (xs:=[.str (Qu++Yc ":"++xn) ta, .str xn tb, .str u2 tc]) (m4 (z3 (sz.mg _ hmt2))) rfl rfl (by show 3<=1000;decide) (dT.to (tJ _ _ (((pa.i2.plain pa.i1 pa.i3 US).Yt qh).Yt hpx)) (by show 2<=5;decide) fun v hv=>?esc))))))))))))))))))
      case esc=>
       obtain⟨tr,rfl⟩:=hv;refine⟨m4 zp,Hs (pre:=[]) (m4 zp) rfl (by refine aa KH ?_;exact L2 [_,_] (.a V0 V1) (.n 100000) 1 V0 (.n 50000) 1 V1 (.n 3) rfl Qm hl4) (F6 ?_)⟩;refine aa (KQ pg WX _) ?_;refine Sa _ _ _ (.mk (some u2) (some Qu) _ _ (.inr ⟨⟨tq,hq⟩,VK.symm,fun e=>(nomatch e)⟩) ?_ (.inr ⟨u2,Qu,rfl,rfl,pa.cur▸US⟩) ?_)
       ·exact aa pa.hst (aa hy (aa vz rfl))
       ·have:=MZ Wp (.cons (Qu++Yc ":"++xn) tr .nil)
        rw[KQ] at this;exact this
    case rest16=>
     rintro fl m n ⟨yu,Qu,cg5,Ww,TU,Wq,Tx,hst5⟩;refine Gv (HA (RH (m4 zo) (Gl (es':=fun _=>aD wa t Yg true done) (k':=cnt) (vm wa t Yg seen done) (m4 (z3 sz.mW)) (pre:=[_,_]) rfl (fun t0=>⟨t0,wW wa t Yg seen done cnt t0⟩) (fun _=>by show 17<=1000;decide) fun t9=>?_)));refine Ge (Ga (Hy (lB wa t Yg true done) (fun J h=>RH (m4 zo) h) (m4 (z3 sz.mW)) co (Gj ir Lo Lg (Gq (FZ (Gx (FY ⟨by decide,fun A2=>FY (Gs (pre:=[_,_,_,_]) rfl (by unfold ay.refs;refine aa (KE _) ?_;exact Qs) (GW (.cons_cons _ (.cons_cons _ (.cons_cons _ (.cons_cons _ (.cons_cons _ (hZs.trans hZ3)))))) (Gd (sg (Yk.map Pr.ent) (Yq.read++R)) (F6 (hK _ _ _ _ (List.Sublist.refl _) ⟨rfl,yu,Rp,cg5,cs+1,cn+1,A2,Yk,Qg,Ww,QK,Qu,_,[(c',oc)],TU,by refine ae Wq ?_;exact pa.cur,by refine ae Wq ?_;exact pa.YC,by refine ae Wq (ae pa.cur ?_);exact hin1,by refine ae Wq ?_;exact Tx,hst5,hlx,rfl⟩)))))⟩)))))))
end STk
theorem yc(wa:aE)(t:Nat->Tok)(Yg:Value)(seen done:Bool)(cnt cd cl cg cs cn ca:Nat)(init Yq:ay)(al ak:Nat)(pm:List UP)(po:Obj)(u tg:Str)(tk:Tok)(pg ps:X8)(YD:Array Value)(ex R:X4)(xp xn:Str):STk.Q wa t Yg seen done cnt cd cl cg cs cn ca init Yq al ak pm po u tg tk pg ps YD ex R xp xn:=cT (P:=STk.P_) STk.go (((((wa,t),(Yg,seen)),((done,cnt),cd)),(((cl,cg),(cs,cn)),((ca,init),Yq))),((((al,ak),(pm,po)),((u,tg),tk)),(((pg,ps),(YD,ex)),((R,xp),xn))))
noncomputable def aB (l:List (List UP)):List UP:=l.reverse.flatten
noncomputable def cW (ns:List (List UP)) (x:Str):Option Str:=((aB ns).find? fun p=>p.2==x).map (·.1)
def preOf(pm:List UP)(u:Str):Str:=(b8 pm u).getD ⟨#[]⟩
structure AW where
 decl:List (List UP)
 ns:List (List UP)
 pm:List UP
 Yh:List Str
 Yg:Option (Str×Str)
 data:Option (Str×Str)
 seen:Bool
def cq(a:AW)(Ym:List (List UP))(u tg:Str)(yu:Option Str)(xn:Str):AW:=
 let st:=aG (aB Ym) ([],a.pm) (dS u tg xn yu)
 {a with seen:=true,decl:=Ym++[st.2.1],pm:=st.2.2,ns:=a.ns++[[]],Yh:=a.Yh++aW (preOf st.2.2 u) tg (aX st.2.1) (yu.map (preOf st.2.2)) xn}
noncomputable def eX(y:Str):Bool:=[98,99,100,108,112,115].contains (y.cps.getD 3 0)&&(y.cps.toList.drop 5).all (· !=45)
def dH(p:Str):Str:=⟨p.cps.extract 0 4⟩
def lw(xp xn:Str):Str:=Yc "Prefix "++xp++Yc " of QName \""++(xp++Yc ":"++xn)++Yc "\" is not declared in scope"
def aq(a:AW):Except Str AW:=match a.data with
 |none=> .ok a
 |some (p,q)=>match a.Yg with
  |none=> .ok {a with data:=none,Yh:=a.Yh++[p++q]}
  |some (u,tg)=>if eX (p++q) then match cW a.ns (dH p) with
    |none=> .error (lw (dH p) q)
    |some u2=> .ok (cq {a with data:=none,Yg:=none} a.decl.dropLast u tg (some u2) q)
   else let b:=cq {a with data:=none,Yg:=none} a.decl.dropLast u tg none q; .ok {b with Yh:=b.Yh++[p++q]}
structure Wr where
 t:Nat->Tok
 Yg:Value
 seen:Bool
 done:Bool
 cnt:Nat
 decl:ay
 cd:Nat
 po:Obj
 Yh:X8
 cg:Nat
 Yn:X8
 cs:Nat
 ns:ay
 cn:Nat
 data:X8
 YK:Nat
 YD:Array Value
 ex:X4
 pl:X4
theorem sb:Nonempty Wr:=⟨⟨fun _=>0, .none,false,false,0,[],0,default,[],0,[],0,[],0,[],0,#[],[],[]⟩⟩
theorem r9:Nonempty AW:=⟨⟨[],[],[],[],none,none,false⟩⟩
section
variable(wa:aE)(x:Wr)
def Wr.led:X4:=
 (wa.W,instObj 150 wa.D)::(wa.D,dictOf (aD wa x.t x.Yg x.seen x.done) x.cnt)::(wa.decl,lO x.decl.refs x.cd)::(wa.YB,x.po)::(wa.Yh,lO x.Yh x.cg)::(wa.Yt,be "list.append" (.ref wa.Yh))::
 (wa.Yn,lO x.Yn x.cs)::(wa.ns,lO x.ns.refs x.cn)::(wa.data,lO x.data x.YK)::(123,tabObj x.YD)::(x.pl++(x.ex++(x.decl.read++x.ns.read)))
theorem Wr.mW:(wa.W,instObj 150 wa.D)∈x.led wa:= .head _
theorem Wr.mD:(wa.D,dictOf (aD wa x.t x.Yg x.seen x.done) x.cnt)∈x.led wa:=aJ
theorem Wr.mDecl:(wa.decl,lO x.decl.refs x.cd)∈x.led wa:=co
theorem Wr.mPage:(wa.Yh,lO x.Yh x.cg)∈x.led wa:=iu
theorem Wr.mTab:(123,tabObj x.YD)∈x.led wa:=El
theorem Wr.mApp:(wa.Yt,be "list.append" (.ref wa.Yh))∈x.led wa:=qZ
theorem Wr.mPres:(wa.Yn,lO x.Yn x.cs)∈x.led wa:=uQ
theorem Wr.mNs:(wa.ns,lO x.ns.refs x.cn)∈x.led wa:=q6
theorem Wr.mData:(wa.data,lO x.data x.YK)∈x.led wa:=Am
end
noncomputable def ay.ab (s:ay):List (List UP):=s.map fun x=>x.2.1.map Pr.up
theorem ay.flat_ab(s:ay):s.flat.map Pr.up=aB s.ab:=by
 unfold ay.flat aB ay.ab;exact ae List.map_reverse (aa Pi (aa List.flatMap_def rfl))
theorem Hi(s:ay)(x:Str):s.uriOf x=cW s.ab x:=by
 unfold ay.uriOf cW;exact ae s.flat_ab (aa Nw (aa (O2 _ _ _) rfl))
theorem GK(init:ay)(a:Nat)(Yk:List Pr)(k:Nat):(init++[(a,Yk,k)]:ay).read.Perm ((a,lO (Yk.map Pr.val) k)::(Yk.map Pr.ent++init.read)):=by
 unfold ay.read;refine aa (cw _ _ _ _) (aa KN ?_);unfold ay.lists;exact aa KN (aa (KQ _ _ _) ((Ld (l₁:=init.map _) (l₂:=Yk.map Pr.ent++init.flat.map Pr.ent)).trans (List.Perm.cons _ (Lb _ _ _))))
theorem GL(init:ay)(a:Nat)(Yk:List Pr)(k:Nat):(init++[(a,Yk,k)]:ay).refs=init.refs++[Value.ref a]:=by unfold ay.refs;refine aa KN ?_;rfl
theorem GC(init:ay)(a:Nat)(Yk:List Pr)(k:Nat):(init++[(a,Yk,k)]:ay).ab=init.ab++[Yk.map Pr.up]:=by unfold ay.ab;refine aa KN ?_;rfl
theorem HI{wa:aE}{x:Wr}{init:ay}{al k:Nat}{Yk:List Pr}(h:x.decl=init++[(al,Yk,k)]):x.led wa=
 (wa.W,instObj 150 wa.D)::(wa.D,dictOf (aD wa x.t x.Yg x.seen x.done) x.cnt)::(wa.decl,lO (init.refs++[Value.ref al]) x.cd)::(wa.YB,x.po)::(wa.Yh,lO x.Yh x.cg)::(wa.Yt,be "list.append" (.ref wa.Yh))::
 (wa.Yn,lO x.Yn x.cs)::(wa.ns,lO x.ns.refs x.cn)::(wa.data,lO x.data x.YK)::(123,tabObj x.YD)::(x.pl++(x.ex++(x.decl.read++x.ns.read))):=by
 unfold Wr.led;exact aa h (aa (GL _ _ _ _) rfl)
theorem Jk{wa:aE}{x:Wr}{init Yq:ay}{al k A kA:Nat}{Yk qs:List Pr}(h:x.decl=init++[(al,Yk,k)])(h2:x.ns=Yq++[(A,qs,kA)]):x.led wa=
 (wa.W,instObj 150 wa.D)::(wa.D,dictOf (aD wa x.t x.Yg x.seen x.done) x.cnt)::(wa.decl,lO (init.refs++[Value.ref al]) x.cd)::(wa.YB,x.po)::(wa.Yh,lO x.Yh x.cg)::(wa.Yt,be "list.append" (.ref wa.Yh))::
 (wa.Yn,lO x.Yn x.cs)::(wa.ns,lO (Yq.refs++[Value.ref A]) x.cn)::(wa.data,lO x.data x.YK)::(123,tabObj x.YD)::(x.pl++(x.ex++(x.decl.read++x.ns.read))):=by
 exact aa (HI h) (aa h2 (aa (GL _ _ _ _) rfl))
theorem kK(l:List (List UP))(x:List UP):aB (l++[x])=x++aB l:=by unfold aB;refine aa Nu ?_;rfl
theorem HP{s:ay}{l:List (List UP)}(e:s.ab=l)(h:∀ x∈l,x.length<=1000):∀ x∈s,x.2.1.length<=1000:=fun x hx=>by
 have:=h (x.2.1.map Pr.up) (e▸KU hx);rwa [KE] at this
def yT(data:Option (Str×Str))(d:X8):Prop:=match data with
 |none=>d=[]
 |some (p,q)=>lY (fun t1 t2=>d=[.str p t1, .str q t2])
def zy(Yg:Option (Str×Str))(v:Value)(pl:X4)(decl:ay):Prop:=match Yg with
 |none=>v=.none/\pl=[]
 |some (u,tg)=>zu (fun(tk:Tok) (pt ak al kp ca cl:Nat) (init:ay)=>v=.ref pt) (fun _ _ ak _ _ _ _ _=>(ak==sysModules)=false) (fun _ _ _ al _ _ cl init=>decl=init++[(al,[],cl)]) (fun tk pt ak al kp ca _ _=>pl=[(pt,ip (.str (ah u tg) tk) (.ref ak) (.ref al) kp),(ak,dictOf [] ca)])
structure bB(x:Wr)(a:AW):Prop where
 decl:x.decl.ab=a.decl
 ns:x.ns.ab=a.ns
 pm:gv x.po a.pm
 Yh:StrsAre x.Yh a.Yh
 Yn:x.Yn=List.replicate x.ns.length (Value.bool false)
 lam:j4 vU kU x.YD x.ex
 data:yT a.data x.data
 Yg:zy a.Yg x.Yg x.pl x.decl
 seen:x.seen=a.seen
structure j7(p q:Str):Prop where
 says:j9 (p++q) (eX (p++q))
 eq:p=dH p++Yc ":"
 spl:Txt.splitMax (dH p++Yc ":"++q) (Yc ":") 1=[dH p,q]
 pl:bn (p++q)
 plq:bn q
 lp:(dH p).length<=100
 lq:q.length<=100
structure fr(u tg:Str):Prop where
 qn:iB u tg
 sp:∀ t,rH (u,tg,t)
 pl:bn u
 nx:u≠bq.1
structure eD(a:AW):Prop where
 YC:bK a.pm
 dk:bj (aB a.decl) a.pm
 YL:a.pm.length<=40
 il:∀ l∈a.decl,l.length<=1000
 fl:(aB a.decl).length<=900
 nl:∀ l∈a.ns,l.length<=1000
 nn:a.ns.length<=40000
 ne:a.ns≠[]
 nu:∀ p∈aB a.ns,p.1.length<=1000/\p.2.length<=1000
 pg:a.Yh.length<=40000
 dat:∀ p q,a.data=some (p,q)->j7 p q
 pen:∀ u tg,a.Yg=some (u,tg)->fr u tg
 np:a.data=none->a.Yg=none
 see:a.data≠none->a.Yg=none->a.seen=true
 pair:∀ u tg p q u2,a.Yg=some (u,tg)->a.data=some (p,q)->cW a.ns (dH p)=some u2->fr u2 q/\ah u2 q≠ah u tg/\¬(Yc "{"++u2=Yc "{"++u/\q=tg)
theorem pv{u x:Str}{pm:List UP}(hn:(pm.map (·.1)).Nodup)(h:(u,x)∈pm):b8 pm u=some x:=by
 induction pm with
 |nil=>exact absurd h Lw
 |cons p pm ih=>
  obtain⟨h1,h2⟩:=Lx.mp hn;unfold b8;rcases KG.mp h with e|h
  ·cases e
   exact aa (List.find?_cons_of_pos (by simp)) rfl
  ·have P2:p.1≠u:=fun e=>h1 (KI.mpr ⟨(u,x),h,e.symm⟩)
   exact aa (List.find?_cons_of_neg (by simpa using P2)) (ih h2 h)
theorem ig(d:bj l pm)(h:bK pm)(hm:(u,x)∈l)(hx:u≠bq.1):x=preOf pm u:=by
 rcases d _ hm with q|q
 ·unfold preOf
  exact aa (pv h.nd q) rfl
 ·exact absurd (congrArg Prod.fst q) hx
theorem xi(h:v∈dS u tg xn yu):v=u∨yu=some v:=by
 unfold dS at h
 split at h
 ·exact .inl (KD.mp h)
 ·split at h<;>(rcases KG.mp h with rfl|h<;>first|exact .inl rfl|exact .inr rfl|(refine aa (KD.mp h) ?_;first|exact .inl rfl|exact .inr rfl))
theorem sj(d:bj (cur++Ym) pm)(h:bK pm)(h1:(u,QK)∈cur++Ym)(hx:u≠bq.1)(hx2:∀ u2,yu=some u2->u2≠bq.1)
  (h2:yu=none/\Qu=none∨bV (fun u2 p2=>yu=some u2) (fun _ p2=>Qu=some p2) (fun u2 p2=>(u2,p2)∈cur++Ym)):aW QK tg as Qu xn=aW (preOf pm u) tg as (yu.map (preOf pm)) xn:=by
 refine aa (ig d h h1 hx) ?_;rcases h2 with⟨rfl,rfl⟩|⟨u2,p2,rfl,rfl,hm⟩
 ·rfl
 ·exact aa (ig d h hm (hx2 u2 rfl)) rfl
theorem eP(QK tg:Str)(as:List (Str×Str))(Qu:Option Str)(xn:Str):(aW QK tg as Qu xn).length<=4:=by
 unfold aW
 split<;>cases Qu<;>(show _<=4;first|exact KA rfl)
section
variable{k:Nat}{f:Addr}{args:X8}{PW n₂ G:X4}{P₁ P₂:Value->X4->Prop}{WZ W2:Str->X4->Prop}
theorem dC.conv(h:dC c m rest WZ E)(hRs:∀ PO Yp,W2 PO Yp->WZ PO Yp):dC c m (G++rest) W2 E:=
 fun PO Yp hw e t h' TA Qe d' TV tw F hr R U hb=>h PO Yp (hRs PO Yp hw) e t h' TA Qe d' TV tw F (fun p hp=>hr p (Kz _ hp)) R U hb
theorem bD.perm(h:aw PW->bD k f args n₂ P₂ W2)(hp:PW.Perm (n₂++G))(hP:∀ v n',P₂ v n'->aM (fun PP=>(n'++G).Perm PP) (fun PP=>P₁ v PP))(hRs:∀ PO Yp,W2 PO Yp->WZ PO Yp):bD k f args PW P₁ WZ:=by
 intro c E m rest J hk hJ hR s l;have l2:ax c s m (n₂++(G++rest)):=l.perm (by refine ae (KQ _ _ _) ?_;exact hp.append_right rest);refine codeAny_mono (h l.D.left c E m (G++rest) (fun v m' n'=>aM (fun PP=>n'.Perm PP) (fun PP=>J v m' PP)) hk (fun v n' hv=>?_) (hR.conv hRs) s l2) fun r s' hr=>?_
 ·obtain⟨PP,h1,h2⟩:=hP v n' hv
  exact⟨PP++rest,by refine ae (KQ _ _ _) ?_;exact h1.append_right rest,hJ v PP h2⟩
 ·cases r with
  |error e=>exact hr
  |ok fl=>
   cases fl with
   |ret v=>
    obtain⟨m',n',l',PP,hp',hj⟩:=hr;exact⟨m',PP,l'.perm hp',hj⟩
   |_=>exact hr
end
section
variable(wa:aE)(x:Wr)
def Wr.base:X4:=
 [(wa.W,instObj 150 wa.D),(wa.D,dictOf (aD wa x.t x.Yg x.seen x.done) x.cnt),(wa.decl,lO x.decl.refs x.cd),(wa.YB,x.po),(wa.Yh,lO x.Yh x.cg),(wa.Yt,be "list.append" (.ref wa.Yh)),
 (wa.Yn,lO x.Yn x.cs),(wa.ns,lO x.ns.refs x.cn),(wa.data,lO x.data x.YK),(123,tabObj x.YD)]
end
section
open Classical
variable{α:Type}{W D de pm pg ap pr ns da tb ak al A:α}{ex I N P Dr Nr:List α}
theorem AD(hd:Dr.Perm (al::I)):(ak::W::D::de::pm::pg::ap::pr::ns::da::tb::(ex++(Dr++N))).Perm ((W::D::de::al::pm::pg::ap::pr::ns::ak::tb::(ex++(N++I)))++[da]):=
 (Lr (ak::W::D::de::pm::pg::ap::pr::ns::da::tb::ex) (hd.append_right N)).trans
  (lE (fun i=>[[ak],[W],[D],[de],[pm],[pg],[ap],[pr],[ns],[da],[tb],ex,[al],I,N].getD i []) (.a (gl [0,1,2,3,4,5,6,7,8,9,10] (.v 11)) (.a (gl [12] (.v 13)) (.v 14))) (.a (gl [1,2,3,12,4,5,6,7,8,0,10,11,14] (.v 13)) (.v 9)) rfl)
theorem AE(hd:Dr.Perm (al::(P++I)))(hn:Nr.Perm (A::N)):((A::W::D::de::al::pm::pg::ap::pr::ns::ak::tb::(ex++(P++(N++I))))++[da]).Perm
  (ak::W::D::de::pm::pg::ap::pr::ns::da::tb::(ex++(Dr++Nr))):=
 (lE (fun i=>[[ak],[W],[D],[de],[pm],[pg],[ap],[pr],[ns],[da],[tb],ex,[al],I,N,P,[A]].getD i []) (.a (gl [16,1,2,3,12,4,5,6,7,8,0,10,11,15,14] (.v 13)) (.v 9)) (.a (gl [0,1,2,3,4,5,6,7,8,9,10] (.v 11)) (.a (gl [12,15] (.v 13)) (gl [16] (.v 14)))) rfl).trans
  (Lr (ak::W::D::de::pm::pg::ap::pr::ns::da::tb::ex) (hd.append hn)).symm
end
theorem Ar(h:aw l)(hs:[W,D,N].Sublist l):[W.1,D.1,N.1].Nodup:=List.Nodup.sublist (hs.map _) h
structure et(a:AW)(Ym:List (List UP))(u tg xp xn:Str):Prop where
 YC:bK a.pm
 dk:bj (aB Ym) a.pm
 YL:a.pm.length<=40
 il:∀ l∈Ym,l.length<=1000
 fl:(aB Ym).length<=900
 nl:∀ l∈a.ns,l.length<=1000
 nn:a.ns.length<=40000
 ne:a.ns≠[]
 nu:∀ p∈aB a.ns,p.1.length<=1000/\p.2.length<=1000
 pg:a.Yh.length<=40000
 tag:fr u tg
 spl:Txt.splitMax (xp++Yc ":"++xn) (Yc ":") 1=[xp,xn]
 plx:bn xn
 lp:xp.length<=1000
 lx:xn.length<=1000
 two:∀ u2,cW a.ns xp=some u2->fr u2 xn/\ah u2 xn≠ah u tg/\¬(Yc "{"++u2=Yc "{"++u/\xn=tg)
def xD(wa:aE)(ak ca:Nat)(a:AW)(Ym:List (List UP))(u tg xp xn:Str)(qt:Value)(v:Value)(n':X4):Prop:=
 v=.none/\bV (fun x3 yu=>(qt=.none/\yu=none∨(∃ tq,qt=.str (xp++Yc ":"++xn) tq)/\yu=cW a.ns xp/\yu≠none)) (fun x3 yu=>bB x3 (cq a Ym u tg yu xn)) (fun x3 _=>n'=(ak,dictOf [] ca)::x3.led wa)
def Ed(wa:aE)(a:AW)(xp xn:Str)(qt:Value)(PO:Str)(Yp:X4):Prop:=
 (∃ tq,qt=.str (xp++Yc ":"++xn) tq)/\cW a.ns xp=none/\PO=lw xp xn/\gQ (fun pg cg tb=>Yp=[(wa.Yh,lO pg cg),(123,tabObj tb)]) (fun pg _ _=>StrsAre pg a.Yh)
theorem vr(hA:bB x a)(Ro:a.Yg=none)(hO:et a init.ab u tg xp xn)(Vt:x.ns.length=kn+1)
  (h:mO wa x.Yg x.done x.cnt x.cd init x.ns al ak ca a.pm u tg xp xn x.t x.Yh (List.replicate kn (Value.bool false)) init.read qt v n'):
  aM (fun PP=>(n'++[(wa.data,lO x.data x.YK)]).Perm PP) (fun PP=>xD wa ak ca a init.ab u tg xp xn qt v PP):=by
 obtain⟨d1,d2,d3,d4,d5,d6,d7,d8,d9⟩:=hA;rw[Ro] at d8;obtain⟨rfl,yu,Rp,cg',cs',cn',A,Yk,Qg,PY,QK,Qu,UH,ex',TU,QN,UE,Xd,Tx,hpgs,hlam',rfl⟩:=h;rw[Hi,d2] at TU;have hyl:∀ u2,yu=some u2->fr u2 xn:=fun u2 e=>by
  rcases TU with⟨_,h⟩|⟨_,h,_⟩
  ·rw[e] at h;cases h
  ·exact(hO.two u2 (h▸e)).1
 rw[ay.flat_ab] at QN UE Xd Tx;have Qc:=jb (Ym:=aB init.ab) (dS u tg xn yu) ([],a.pm) hO.YC hO.dk fun v hv=>by
  rcases xi hv with rfl|e
  ·exact hO.tag.qn.ul
  ·exact(hyl v e).qn.ul
 rw[sj (as:=aX (Yk.map Pr.up)) Qc.2.1 Qc.1 Xd hO.tag.nx (fun u2 e=>(hyl u2 e).nx) Tx,QN] at hpgs;have QT:bB ⟨x.t,x.Yg,true,x.done,x.cnt,init++[(al,Yk,Rp)],x.cd,Qg,x.Yh++PY,cg',List.replicate kn (Value.bool false)++[Value.bool false]++[Value.bool false],cs',x.ns++[(A,[],0)],cn',x.data,x.YK,UH,ex',[]⟩
   (cq a init.ab u tg yu xn):=
  ⟨by refine aa (GC _ _ _ _) (aa QN ?_);rfl,by refine aa (GC _ _ _ _) (aa d2 ?_);rfl,UE,MZ d4 hpgs,by
   show _=List.replicate (x.ns++[(A,[],0)]).length (Value.bool false);refine aa KH (aa Vt ?_);show _=List.replicate (kn+1+1) (Value.bool false);exact aa OB (aa OB rfl),hlam',d7,by refine aa (show (cq a init.ab u tg yu xn).Yg=none from Ro) ?_;exact⟨d8.1,rfl⟩,rfl⟩
 refine⟨_,?_,rfl,_,yu,TU,QT,rfl⟩;exact aa (Jk (init:=init) (Yq:=x.ns) (al:=al) (k:=Rp) (A:=A) (kA:=0) (Yk:=Yk) (qs:=[]) rfl rfl) (AE (GK init al Yk Rp) (GK x.ns A [] 0))
theorem oG(wa:aE)(Qr:(wa.YB==sysModules)=false)(x:Wr)(a:AW)(hA:bB x a)(Ro:a.Yg=none)(init:ay)(al cl:Nat)(Qy:x.decl=init++[(al,[],cl)])(u tg:Str)(tk:Tok)(ak ca:Nat)(Rl:(ak==sysModules)=false)
  (xp xn:Str) (qt:Value) (args:X8) (Ve:args=[.ref wa.W, .str (ah u tg) tk, .ref ak, .ref al]/\qt=.none∨args=[.ref wa.W, .str (ah u tg) tk, .ref ak, .ref al,qt]) (UY:qt=.none∨∃ tq,qt=.str (xp++Yc ":"++xn) tq)
  (hO:et a init.ab u tg xp xn):bD 6 126 args ((ak,dictOf [] ca)::x.led wa) (xD wa ak ca a init.ab u tg xp xn qt) (Ed wa a xp xn qt):=by
 have Qs:x.ns.length=a.ns.length:=by refine ae hA.ns ?_;unfold ay.ab;exact aa (KE _) rfl
 obtain⟨kn,Vt⟩:∃ k,x.ns.length=k+1:=⟨x.ns.length-1,by have:=List.length_pos_iff.mpr hO.ne;exact Fa Qs this⟩;have S6:x.Yn=List.replicate kn (Value.bool false)++[Value.bool false]:=by exact aa hA.Yn (aa Vt (aa OB rfl))
 have Tj:kn<=40000:=by have:=hO.nn;exact L4 [_,_,_] V2 (.n 40000) 3 V0 V1 2 V1 V0 1 (.a V2 W1) V0 1 V1 (.n 40000) rfl (eL Qs) (eG Qs) (eG Vt) this
 have hd8:=hA.Yg;rw[Ro] at hd8;have Qw:=hd8.2;refine' bD.perm (G:=[(wa.data,lO x.data x.YK)]) (n₂:=df wa x.t x.Yg x.seen x.done x.cnt x.cd init al [] cl x.po++((wa.Yh,lO x.Yh x.cg)::(wa.Yt,be "list.append" (.ref wa.Yh))::(wa.Yn,lO (List.replicate kn (Value.bool false)++[Value.bool false]) x.cs)::(wa.ns,lO x.ns.refs x.cn)::(ak,dictOf [] ca)::(123,tabObj x.YD)::(x.ex++(x.ns.read++init.read))))
  (fun hD=>?hMm) ?hMp ?hMP ?hMR
 case hMm=>
  have RP:=Ar (W:=(wa.W,_)) (D:=(wa.D,_)) (N:=(wa.ns,_)) hD (.cons _<| .cons_cons _ (.cons_cons _ (.cons _ (.cons _ (.cons _ (.cons _ (.cons _ (.cons_cons _ (Mw _)))))))));have Sg:∀ y∈init,y.2.1.length<=1000:=HP rfl hO.il;exact yc wa x.t x.Yg x.seen x.done x.cnt x.cd cl x.cg x.cs x.cn ca init x.ns al ak a.pm x.po u tg tk x.Yh (List.replicate kn (Value.bool false)) x.YD x.ex init.read xp xn args qt Rl Ve UY hA.lam Qr hA.pm hO.YC
   (by refine aa (ay.flat_ab _) ?_;exact hO.dk) hO.YL Sg (by have:=hO.fl;rw[←ay.flat_ab,KE] at this;exact this) (fun p hp=>hp) hO.tag.pl (fun u2 h=>(hO.two u2 (by refine ae hA.ns (ae (Hi _ _) ?_);exact h)).1.pl) hO.plx
   (by have:=hO.nn;exact L3 [_,_] V0 (.n 100000) 3 V0 V1 2 V1 V0 1 V1 (.n 40000) rfl (eL Qs) (eG Qs) this) (by refine aa Pq ?_;exact bd Tj) (by have:=hO.pg;rw[←hA.Yh.length] at this;exact bd this) hO.tag.qn (hO.tag.sp tk) hO.lp hO.lx (HP hA.ns hO.nl)
   (fun p hp=>hO.nu p.up (by refine ae hA.ns (ae (ay.flat_ab _) ?_);exact KU hp)) hO.spl RP
   (fun u2 h=>by obtain⟨a1,a2,a3⟩:=hO.two u2 (by refine ae hA.ns (ae (Hi _ _) ?_);exact h);exact⟨a1.qn,a1.sp,a2,a3⟩)
 case hMp=>
  have hrd:x.decl.read.Perm ((al,lO (([]:List Pr).map Pr.val) cl)::init.read):=aa Qy (GK init al [] cl);exact aa (HI Qy) (aa S6 (aa Qw (AD hrd)))
 case hMP=>exact fun v n' h=>vr hA Ro hO Vt h
 case hMR=>
  rintro PO Yp ⟨h1,h2,h3,h4⟩;exact⟨h1,by refine ae hA.ns (ae (Hi _ _) ?_);exact h2,h3,x.Yh,x.cg,x.YD,h4,hA.Yh⟩
noncomputable def Wr.noData (x:Wr):Wr:={x with data:=[],YK:=x.YK+1}
noncomputable def Wr.setPend (x:Wr) (v:Value) (l:X4):Wr:={x with Yg:=v,pl:=l}
noncomputable def Wr.wr (x:Wr) (v:Value):Wr:={x with Yh:=x.Yh++[v],cg:=x.cg+1}
def rF(wa:aE)(r:Except Str AW)(v:Value)(n':X4):Prop:=v=.none/\bV (fun x' a'=>r=.ok a') (fun x' a'=>bB x' a') (fun x' _=>n'=x'.led wa)
def oo(wa:aE)(r:Except Str AW)(pg0:List Str)(PO:Str)(Yp:X4):Prop:=r=.error PO/\gQ (fun pg cg tb=>Yp=[(wa.Yh,lO pg cg),(123,tabObj tb)]) (fun pg _ _=>StrsAre pg pg0)
theorem bB.wr(h:bB x a)(y:Str)(t:Tok):bB (x.wr (.str y t)) {a with Yh:=a.Yh++[y]}:=⟨h.decl,h.ns,h.pm,MZ h.Yh (.cons _ _ .nil),h.Yn,h.lam,h.data,h.Yg,h.seen⟩
theorem bB.noData(h:bB x a):bB x.noData {a with data:=none}:=⟨h.decl,h.ns,h.pm,h.Yh,h.Yn,h.lam,rfl,h.Yg,h.seen⟩
theorem bB.noPend(h:bB x a):bB (x.setPend .none []) {a with Yg:=none}:=⟨h.decl,h.ns,h.pm,h.Yh,h.Yn,h.lam,h.data,⟨rfl,rfl⟩,h.seen⟩
section
variable{c:Fx}{E:X6}{m:X5}{J:ad Value}{K:ad Flow}{U:ad Unit}{r:Yb}{env:Env}{wa:aE}{x:Wr}
theorem Ko(hxd:x.data=[a,b])(h:∀ J:ad Value,J (.ref wa.data) m (x.led wa)->Tr c E m (x.led wa) (eval o env) J)(k:Tr c E m (x.noData.led wa) (execs r env) K):
  Tr c E m (x.led wa) (execs (.Delete [.Subscript o (.Slice none none none ps) pp] pd::r) env) K:=by
 obtain⟨xt,xpend,xseen,xdone,xcnt,xdecl,xcd,xpo,xpage,xcg,xpres,xcs,xns,xcn,xdata,xcdt,xtps,xex,xpl⟩:=x;dsimp only at hxd;subst hxd;exact Kb (h _ ⟨wa.data,a,b,[_,_,_,_,_,_,_,_],_,_,rfl,rfl,k⟩)
theorem II(hz:x.Yh.length<=100000)(h:J .none m ((x.wr v).led wa)):Tr c E m (x.led wa) (call (.ref wa.Yt) [v]) J:=
 Hs (pre:=[_,_,_,_]) (x.mApp wa) rfl hz h
theorem gB{a:aE}{t:Nat->Tok}{Yg v:Value}{seen done:Bool}(e:Yg=v)(h:handedIn v=true):dR "_pending_start" (aD a t Yg seen done) v:=by subst e;exact pi a t Yg seen done h
theorem qr{a:aE}{t:Nat->Tok}{Yg:Value}{seen v done:Bool}(e:seen=v):dR "_root_seen" (aD a t Yg seen done) (.bool v):=by subst e;exact pj a t Yg seen done
variable{n:X4}
theorem Ic{name:Str}{pl:Sem Bool}{W D:Nat}{es:List DictEntry}{k:Nat}{v:Value}{K:ad (Value×X8)}(o:dR name es v)(hf:findIn (am w.params) (.ref 150) name=some none)(h1:(W,instObj 150 D)∈n)(h2:(D,dictOf es k)∈n)(h:K (v,[]) m n):
  Tr c E m n (getMethod (.ref W) name pl) K:= .mk fun _ l=>
 method_usual (l.X.keeps l.F.keep) (MU l.N h1 h2) (plainGet_of o.hg).1 (plainGet_of o.hg).2 hf rfl (let ⟨_,a,b⟩:=o.ha;get_own l.F l.X (MU l.N h1 h2) o.hg o.hh a b o.hl o.hv ⟨m,n,l.tok,h⟩)
theorem IV(hq:(q,be "list.append" (.ref D))∈n)(h:Tr c E m n (eval e env) fun v m n'=>(q,be "list.append" (.ref D))∈n'/\Tr c E m n' (call (.ref q) [v]) J)
  (he:starEach [e] env=[(false,eval e env)]:=by rfl):Tr c E m n (callWith p (.ref q) [] (backTo p (starEach [e] env)) []) J:= .mk fun s l=>
 ji l.N hq (Ll (F0 l h fun _ s1 _ _ l1 ⟨Ur,q1⟩=>Lz ⟨(l1.N _ Ur).1,q1.go _ l1⟩) he) he
theorem J5{e:X7}{y:Str}{p p':Pos}{K:ad Flow}(h:Tr c E m n (eval e c.env) fun v m n=>K .next (fun z=>if z=y then some v else m z) n)(hx:c.env.kindOf y=some .local:=by rfl)(hs:swapsWith e (some (.Name y p')) p.line c.env=Pure.pure false:=by rfl):
  Tr c E m n (exec (.Assign [.Name y p'] e p) c.env) K:= .mk fun s l=>
 Pc (F0 l h fun _ _ _ _ l' q=>storeX_L l'.F l'.N (fun _ F' N'=>⟨_,_,l'.to F' N' l'.D l'.G rfl,q⟩) l'.hk hx) hs
theorem IS(hp:handedIn x.Yg=true)(h:U () m ((x.setPend v x.pl).led wa)):Tr c E m (x.led wa) (PySem.setAttr (.ref wa.W) "_pending_start" v) U:=
 Gl (es':=fun _=>aD wa x.t v x.seen x.done) (k':=x.cnt) (nB wa x.t x.Yg x.seen x.done hp) (x.mW wa) (pre:=[_]) rfl (fun t0=>⟨t0,pD wa x.t x.Yg x.seen x.done x.cnt t0 v⟩) (fun _=>by show 17<=1000;decide) fun _=>h
end
namespace FSk
def Q(wa:aE)(x:Wr)(a:AW)(p q:Str):Prop:=∀ (Qr:(wa.YB==sysModules)=false) (hA:bB x a) (hG:eD a) (hd:a.data=some (p,q)),bD 7 106 [.ref wa.W] (x.led wa) (rF wa (aq a)) (oo wa (aq a) a.Yh)
def P_(y:((aE×Wr)×AW)×Str×Str):Prop:=Q y.1.1.1 y.1.1.2 y.1.2 y.2.1 y.2.2
def y_:((aE×Wr)×AW)×Str×Str:=pk (cC (cC (cC i9 sb) r9) inferInstance) P_
def wa:aE:=y_.1.1.1
def x:Wr:=y_.1.1.2
def a:AW:=y_.1.2
def p:Str:=y_.2.1
def q:Str:=y_.2.2
theorem go:Q wa x a p q:=by
 intro Qr hA hG hd;have QR:=hG.dat p q hd;obtain⟨t1,t2,hxd⟩:lY (fun t1 t2=>x.data=[.str p t1, .str q t2]):=by have:=hA.data;rw[hd] at this;exact this
 have Qf:p.length+(q.length+0)+2<=1048576/\0<(p++q).length/\(p++q).length<=16777216:=by
  have h1:=congrArg Str.length QR.eq;rw[KB] at h1⊢;have:(Yc ":").length=1:=rfl;have:=QR.lp;have:=QR.lq
  lia
 refine' GG (binds:=[(Yc "self", .ref wa.W),(Yc "_join_text", .ref 98)]) (by k_is) (by k_is) (by exact fun s X=>binds_K X rfl (by k_is) rfl rfl rfl) (by exact aZ rfl) (by rfl) (by rfl) (by rfl) (by decide) ?k9 ?_
 case k9=>
  rintro PO Yp ⟨-,pg,cg,tb,rfl,-⟩ q hq;rcases KG.mp hq with rfl|hq
  ·exact KI.mpr ⟨_,x.mPage wa,rfl⟩
  ·exact aa (KD.mp hq) (KI.mpr ⟨_,x.mTab wa,rfl⟩)
 intro A₀ base dp un gd L outer h₀ os g₀ c E K hE hK;refine Gf (IL rfl (Gr (fT wa _ _ _ _) rfl (x.mW wa) (x.mD wa) ⟨wa.data,_,[p,q],_,rfl,x.mData wa,by refine aa hxd ?_;exact .cons _ _ (.cons _ _ .nil),Qf.1,fun t3=>?_⟩));refine Ko hxd (fun J h=>Gr (fT wa _ _ _ _) rfl (x.mW wa) (x.mD wa) h) ?_;have Rn:=hA.noData;have Qm:x.noData.Yh.length<=40000:=by have:=hG.pg;rw[←hA.Yh.length] at this;exact this
 generalize x.noData=x1 at Rn Qm;revert x1;refine wrap ?_;intro x1 Rn Qm;clear hxd;show Tr _ _ _ _ _ _;generalize hm:(fun y=>if y=Yc "data" then some (Value.str (Txt.join (Yc "") [p,q]) t3) else _)=m1;revert m1;refine wrap ?_;intro m1 hm;have RS:m1 (Yc "self")=some (.ref wa.W):=ae hm rfl;have m1d:m1 (Yc "data")=some (.str (p++q) t3):=ae hm rfl;clear hm;refine Gk (GR (Gy (Gn (Gr (uX wa _ _ _ _) RS (x1.mW wa) (x1.mD wa) (F9 (F6 ?_))))));refine Gu (GH (K₁:=fun fl m n=>(fl=.next/\m (Yc "self")=some (.ref wa.W)/\m (Yc "data")=some (.str (p++q) t3)/\iy (fun x2 a2=>bB x2 a2) (fun x2 _=>n=x2.led wa) (fun _ a2=>a2.Yh.length<=50000) (fun _ a2=>a2.seen=true) (fun _ a2=>aq a=.ok {a2 with Yh:=a2.Yh++[p++q]}))∨
  (fl=.ret .none/\bV (fun x2 a2=>bB x2 a2) (fun x2 _=>n=x2.led wa) (fun _ a2=>aq a=.ok a2))) ?s4 ?rest)
 case s4=>
  intro K4 hK4;have Tw:=Rn.Yg
  cases Ua:a.Yg with
  |none=>
   dsimp only at Tw;rw[Ua] at Tw;refine GV (Gb (Gr (gB Tw.1 rfl) RS (x1.mW wa) (x1.mD wa) (Gw (Hc (F9 (F6 ?_))))));refine hK4 _ _ _ (.inl ⟨rfl,RS,m1d,x1,_,Rn,rfl,KF hG.pg (by decide),hG.see (by refine aa hd ?_;exact fun e=>(nomatch e)) Ua,?_⟩);unfold aq;exact aa hd (aa Ua rfl)
  |some ut=>
   obtain⟨u,tg⟩:=ut;dsimp only at Tw;rw[Ua] at Tw;obtain⟨tk,pt,ak,al,kp,ca,cl,init,VC,Rl,Qy,Qw⟩:=Tw;refine GV (Gb (Gr (gB VC rfl) RS (x1.mW wa) (x1.mD wa) (Gw (Hl (F9 ?_)))));refine Il (GA (FZ (Gr (gB VC rfl) RS (x1.mW wa) (x1.mD wa) (FZ (Gw (FY ⟨by show 2<=1000;decide,fun T=>?_⟩))))));refine HS (.head _) (Go (Jm (FX RS (GW (Lq _ _) (IS (by refine aa VC ?_;rfl) ?_)))));show Tr _ _ _ _ _ _;generalize hm:(fun y=>if y=Yc "args" then some (Value.ref pt) else m1 y)=m2;revert m2;refine wrap ?_;intro m2 hm;have m2s:m2 (Yc "self")=some (.ref wa.W):=ae hm RS;have m2d:m2 (Yc "data")=some (.str (p++q) t3):=ae hm m1d;have m2a:m2 (Yc "args")=some (.ref pt):=ae hm rfl;clear hm RS m1d;have QG:=Rn.noPend;have Sy:(x1.setPend .none []).decl=init++[(al,[],cl)]:=Qy;have Ri:((x1.setPend .none x1.pl).led wa).Perm ((ak,dictOf [] ca)::((x1.setPend .none []).led wa++[(pt,ip (.str (ah u tg) tk) (.ref ak) (.ref al) kp)])):=by
    show ((x1.setPend .none []).base wa++(x1.pl++_)).Perm (_::(((x1.setPend .none []).base wa++_)++_));refine aa Qw ?_;refine(Lb _ [_,_] _).trans ((List.Perm.swap _ _ _).trans (List.Perm.cons _ ?_));exact(LU (l₁:=[_]) (l₂:=(x1.setPend .none []).base wa++_))
   generalize x1.setPend .none []=x2 at QG Sy Ri;revert x2;refine wrap ?_;intro x2 QG Sy Ri;have hO:et a init.ab u tg (dH p) q:=by
    have UD:init.ab++[[]]=a.decl:=ae QG.decl (aa Sy (aa (GC _ _ _ _) rfl));have hfa:aB a.decl=aB init.ab:=ae UD (aa (kK _ _) rfl);exact⟨hG.YC,hfa▸hG.dk,hG.YL,fun l hl=>hG.il l (UD▸Ky _ hl),hfa▸hG.fl,hG.nl,hG.nn,hG.ne,hG.nu,hG.pg,hG.pen u tg Ua,QR.spl,QR.plq,KF QR.lp (by decide),KF QR.lq (by decide),fun u2 h=>hG.pair u tg p q u2 Ua hd h⟩
   have UD:init.ab=a.decl.dropLast:=by exact ae QG.decl (aa Sy (aa (GC _ _ _ _) (aa LN rfl)))
   have hO2:et {a with data:=none,Yg:=none} init.ab u tg (dH p) q:=⟨hO.YC,hO.dk,hO.YL,hO.il,hO.fl,hO.nl,hO.nn,hO.ne,hO.nu,hO.pg,hO.tag,hO.spl,hO.plx,hO.lp,hO.lx,hO.two⟩;clear hO;refine Gd Ri ?_;clear Ri Qw VC Qy Rn;refine Gu (GH (K₁:=fun fl m n=>fl=.next/\nY (fun qt G=>(eX (p++q)=true/\qt=Value.str (p++q) t3∨eX (p++q)=false/\qt=.none)) (fun _ G=>n=G++((ak,dictOf [] ca)::(x2.led wa++[(pt,ip (.str (ah u tg) tk) (.ref ak) (.ref al) kp)]))) (fun _ _=>m (Yc "self")=some (.ref wa.W)) (fun _ _=>m (Yc "data")=some (.str (p++q) t3)) (fun _ _=>m (Yc "args")=some (.ref pt)) (fun qt _=>m (Yc "qname_text")=some qt)) ?sB ?sC)
   case sB=>
    intro K5 hK5;refine J5 (Hb (GR (Gy (Gn (FX m2d (HF Qf.2.1 Qf.2.2 (Gy (Gn (Js (b:=eX (p++q)) (fun J h=>Gz (by k_is) h) QR.says (FX m2d ⟨rfl,fun hb b vs=>?y1,fun hb=>?y2⟩))))))))))
    case y1=>exact J6 (.head _) (He (FX m2d (hK5 _ _ _ ⟨rfl,_,[_], .inl ⟨hb,rfl⟩,rfl,m2s,m2d,m2a,rfl⟩)))
    case y2=>exact Hq (Gw (hK5 _ _ _ ⟨rfl,_,[], .inr ⟨hb,rfl⟩,rfl,m2s,m2d,m2a,rfl⟩))
   case sC=>
    rintro fl m n ⟨rfl,qt,G,UY,rfl,m1,m2,m3,m4⟩;clear m2s m2d m2a;refine GW (Ly _ _) ?_;refine Ge (JB (FX m1 (Jo (uM wa _ _ _ _) (.tail _ (Ky _ (x2.mW wa))) (.tail _ (Ky _ (x2.mD wa))) fun q0=>Ja (.head _) (by rfl) (FX m3 ⟨pt,#[.str (ah u tg) tk, .ref ak, .ref al],kp,rfl,dj (Kz _ (.head _)),by show 3<=1000;decide,FX m4 ⟨.head _,?_⟩⟩))));have Uc:=oG wa Qr x2 _ QG rfl init al cl Sy u tg tk ak ca Rl (dH p) q qt _ (.inr rfl) (by
     rcases UY with⟨_,rfl⟩|⟨_,rfl⟩
     ·exact .inr ⟨t3,by exact ae QR.eq rfl⟩
     ·exact .inl rfl) hO2
    refine Gd (n':=((ak,dictOf [] ca)::x2.led wa)++((q0,methodObj (.ref 126) (.ref wa.W))::[_])) (Ld (l₁:=(ak,dictOf [] ca)::x2.led wa)).symm (IM Uc (Kz _ (.head _)) (by show 6<=6;decide) ?hJ ?hR)
    case hR=>
     refine hE _ _ fun PO Yp ⟨h1,h2,h3,h4⟩=>⟨Yp,⟨?_,h4⟩,fun q hq=> .inl hq⟩;rcases UY with⟨hb,_⟩|⟨_,e⟩
     ·unfold aq
      refine aa hd (aa Ua ?_);dsimp only;exact aa (KW hb) (aa (show cW a.ns (dH p)=none from h2) (aa h3 rfl))
     ·rw[e] at h1;obtain⟨_,h1⟩:=h1;cases h1
    case hJ=>
     rintro v n' ⟨rfl,x3,yu,TU,QT,rfl⟩;refine GW (n':=x3.led wa) (.cons _ (List.sublist_append_left _ _)) ?_;rw[UD] at QT;rcases UY with⟨hb,rfl⟩|⟨hb,rfl⟩
     ·refine Gk (Gb (FX m4 (Gw (H8 (F9 (IY (hK4 _ _ _ (.inr ⟨rfl,x3,_,QT,rfl,?_⟩))))))))
      rcases TU with⟨h,_⟩|⟨_,h1,h2⟩
      ·cases h
      ·unfold aq
       refine aa hd (aa Ua ?_);dsimp only;refine aa (KW hb) (aa (show cW a.ns (dH p)=yu from h1.symm) ?_)
       cases yu with
       |none=>exact absurd rfl h2
       |some u2=>rfl
     ·refine Gk (Gb (FX m4 (Gw (Hc (F9 (F6 (F6 (hK4 _ _ _ (.inl ⟨rfl,m1,m2,x3,_,QT,rfl,?_,rfl,?_⟩)))))))))
      ·show (a.Yh++aW _ _ _ _ _).length<=50000
       refine aa KH ?_;exact KF (Ny hG.pg (eP _ _ _ _ _)) (by decide)
      ·rcases TU with⟨_,rfl⟩|⟨⟨_,h⟩,_⟩
       ·unfold aq
        refine aa hd (aa Ua ?_);dsimp only;exact aa hb (aa (KM KP) rfl)
       ·cases h
 case rest=>
  rintro fl m n (⟨rfl,m1,m2,x2,a2,QG,rfl,hz,hse,hf⟩|⟨rfl,x2,a2,QG,rfl,hf⟩)
  ·refine Gk (GR (Gy (Gn (FX m2 (HF Qf.2.1 Qf.2.2 (Gy (Gn (Gr (qr (QG.seen.trans hse)) m1 (x2.mW wa) (x2.mD wa) (F9 (He ?_))))))))))
   refine Ge (Ga (FX m1 (Ic (iO wa _ _ _ _) (by k_is) (x2.mW wa) (x2.mD wa) (IV (x2.mApp wa) (GE (f:=161) (fun J h=>Gz (by k_is) h) (by k_is) (FX m2 (dT.to (tJ _ _ QR.pl) (by show 2<=6;decide) ?_)))))));rintro _ ⟨tr,rfl⟩;exact⟨x2.mApp wa,II (by refine aa QG.Yh.length ?_;exact KF hz (by decide)) (F6 (F6 (hK _ _ _ _ (.refl _) ⟨rfl,_,_,hf,QG.wr _ tr,rfl⟩)))⟩
  ·exact hK _ _ _ _ (.refl _) ⟨rfl,x2,a2,hf,QG,rfl⟩
end FSk
theorem xZ(wa:aE)(x:Wr)(a:AW):FSk.Q wa x a p q:=cT (P:=FSk.P_) FSk.go (((wa,x),a),(p,q))
noncomputable def rK (r:Except Str AW) (f:AW->AW):Except Str AW:=match r with| .ok a=> .ok (f a)| .error e=> .error e
noncomputable def uW (pre YA:Str) (a:AW):AW:={a with ns:=a.ns.dropLast++[a.ns.getLast?.getD []++[(YA,pre)]]}
noncomputable def eb (u tg:Str) (a:AW):AW:={a with decl:=a.decl++[[]],Yg:=some (u,tg)}
def im(u tg:Str)(a:AW):AW:=cq a a.decl u tg none ⟨#[]⟩
def iF(u tg:Str)(a:AW):AW:={a with Yh:=a.Yh++[Yc "</"++(preOf a.pm u++Yc ":"++tg)++Yc ">"],decl:=a.decl.dropLast,ns:=a.ns.dropLast}
section
open Classical
variable{α:Type}{B pl ex Dr I Nr N r Q:List α}{A A' Bt:α}
theorem permD(hd:Dr.Perm (r++I)):(B++(pl++(ex++(Dr++N)))).Perm (r++(B++(pl++(ex++(I++N))))):=
 (Lr B (Lr pl (Lr ex (hd.append_right N)))).trans
  (lE (fun i=>[B,pl,ex,r,I,N].getD i []) (gl [0,1,2] (.a (.a (.v 3) (.v 4)) (.v 5))) (gl [3,0,1,2,4] (.v 5)) rfl)
theorem permN(hn:Nr.Perm (r++N)):(B++(pl++(ex++(I++Nr)))).Perm (r++(B++(pl++(ex++(I++N))))):=
 (Lr B (Lr pl (Lr ex (Lr I hn)))).trans
  (lE (fun i=>[B,pl,ex,I,r,N].getD i []) (gl [0,1,2,3,4] (.v 5)) (gl [4,0,1,2,3] (.v 5)) rfl)
end
section
variable{c:Fx}{E:X6}{m:X5}{n:X4}{J:ad Value}{K:ad Flow}{U:ad Unit}{r:Yb}{env:Env}{wa:aE}{x:Wr}{a:AW}
theorem I1(h:n.Perm (g++n'))(k:Tr c E m n' p K):Tr c E m n p K:=Gd h (GW (Ly _ _) k)
theorem Hu(Qr:(wa.YB==sysModules)=false)(hA:bB x a)(hG:eD a)(hk:7<=c.k)(hs:m sx=some (.ref wa.W))(hR:dC c m Z (oo wa (aq a) a.Yh) E)
  (h:∀ x' a',aq a=.ok a'->bB x' a'->Tr c E m (x'.led wa++Z) (execs r c.env) K) (hkx:c.env.kindOf sx=some .local:=by rfl) (hdx:(sx==("__debug__":Str))=false:=by decide)
  (he:eval (.Call (.Attribute (.Name sx p3) (Yc "_flush") p4) [] [] p5) c.env=(do
   let ov←eval (.Name sx p3) c.env
   standAt p4.atName
   let (f,first)←holding [ov] (getMethod ov (Yc "_flush") pl)
   callWith p5 f first (backTo p5 (starEach [] c.env)) []):=by rfl)
  (hi:interactive c.env=false:=by rfl) (Rw:swapsWith (.Call (.Attribute (.Name sx p3) (Yc "_flush") p4) [] [] p5) none p6.line c.env=Pure.pure false:=by rfl):
  Tr c E m (x.led wa++Z) (execs (.If (.Attribute (.Name sx p1) (Yc "_data") p2) [.Expr (.Call (.Attribute (.Name sx p3) (Yc "_flush") p4) [] [] p5) p6] [] p7::r) c.env) K:=by
 have hd:=hA.data
 cases had:a.data with
 |none=>
  rw[had] at hd;refine Gk (Gn (Gr (fT wa _ _ _ _) hs (Ky _ (x.mW wa)) (Ky _ (x.mD wa)) (HE (Ky _ (x.mData wa)) (by refine aa (show x.data=[] from hd) ?_;exact K0 _) ?_) hkx hdx));refine aa (show x.data=[] from hd) ?_;refine F6 (h x a ?_ hA);unfold aq;exact aa had rfl
 |some pq=>
  obtain⟨p,q⟩:=pq;rw[had] at hd;obtain⟨t1,t2,hd⟩:=hd;refine Gk (Gn (Gr (fT wa _ _ _ _) hs (Ky _ (x.mW wa)) (Ky _ (x.mD wa)) (HE (Ky _ (x.mData wa)) (by refine aa hd ?_;show 2<=16777216;decide) ?_) hkx hdx));refine aa hd ?_;refine Ge (Ga (FX hs (GZ (ng wa _ _ _ _) (Ky _ (x.mW wa)) (Ky _ (x.mD wa)) (J9 (ng wa x.t x.Yg x.seen x.done).hk ((xZ wa x a Qr hA hG had).to c E m Z _ hk ?_ hR))) hkx hdx) he) hi Rw;rintro v n' ⟨-,x',a',hf,Qk,rfl⟩;exact F6 (h x' a' hf Qk)
theorem H6(h:B false m n):Tr c E m n (truthy (.int 0 t)) B:=JM h
end
section
variable(wa:aE)(x:Wr)
noncomputable def Wr.setNs (s:ay) (k:Nat):Wr:={x with ns:=s,cn:=k}
theorem Jj(h:x.ns=Yq++[(A,qs,k)]):(x.setNs (Yq++[(A,qs',k')]) x.cn).base wa=x.base wa:=by
 unfold Wr.base Wr.setNs;refine aa h (aa (GL _ _ _ _) ?_);dsimp only;exact aa (GL _ _ _ _) rfl
def Wr.offN(N:X4):X4:=x.base wa++(x.pl++(x.ex++(x.decl.read++N)))
theorem Wr.permN(h:x.ns.read.Perm (r++N)):(x.led wa).Perm (r++x.offN wa N):=Internal.permN (B:=x.base wa) (pl:=x.pl) (ex:=x.ex) (I:=x.decl.read) h
end
theorem uj(h:aq a=.ok a'):a'.ns=a.ns∨a'.ns=a.ns++[[]]:=by
 unfold aq at h
 split at h
 ·cases h;exact .inl rfl
 ·split at h
  ·cases h;exact .inl rfl
  ·split at h
   ·split at h
    ·cases h
    ·cases h;exact .inr rfl
   ·cases h;exact .inr rfl
theorem jR{s:ay}{l:List (List UP)}(e:s.ab=l)(h:l≠[]):vK (fun i A qs k=>s=i++[(A,qs,k)]):=by
 rcases Pp s with rfl|⟨i,⟨A,qs,k⟩,rfl⟩
 ·exact absurd e.symm h
 ·exact⟨i,A,qs,k,by exact aa Po rfl⟩
theorem tO(wa:aE)(Qr:(wa.YB==sysModules)=false)(x:Wr)(a:AW)(hA:bB x a)(hG:eD a)(pre YA:Str)(tp tu:Tok):
  bD 8 113 [.ref wa.W, .str pre tp, .str YA tu] (x.led wa) (rF wa (rK (aq a) (uW pre YA))) (oo wa (aq a) a.Yh):=by
 refine' GG (binds:=[(Yc "self", .ref wa.W),(Yc "prefix", .str pre tp),(Yc "uri", .str YA tu)]) (by k_is) (by k_is) (by exact fun s X=>LH rfl) (by exact aZ rfl) (by rfl) (by rfl) (by rfl) (by decide) ?k9 ?_
 case k9=>
  rintro PO Yp ⟨-,pg,cg,tb,rfl,-⟩ q hq;rcases KG.mp hq with rfl|hq
  ·exact KI.mpr ⟨_,x.mPage wa,rfl⟩
  ·exact aa (KD.mp hq) (KI.mpr ⟨_,x.mTab wa,rfl⟩)
 intro A₀ base dp un gd L outer h₀ os g₀ c E K hE hK;refine Gk (Gn (Gr (my wa _ _ _ _) rfl (x.mW wa) (x.mD wa) (H6 (F6 ?_))));refine ae (Lh (x.led wa)) ?_;refine Hu Qr hA hG (by show 7<=7;decide) rfl (hE _ _ fun PO Yp h=>⟨Yp,h,fun q hq=> .inl hq⟩) fun x' a' hf Qk=>?_;refine aa (Lh _) ?_;have UW:=uj hf;have P2:a'.ns≠[]:=by
  rcases UW with e|e<;>refine aa e ?_
  ·exact hG.ne
  ·exact fun h=>Ph _ _ (List.append_eq_nil_iff.mp h).2
 obtain⟨Yq,A,qs,kA,RQ⟩:=jR Qk.ns P2;have Us:qs.length<=1000:=by
  have h1:qs.map Pr.up∈a'.ns:=ae Qk.ns (aa RQ (aa (GC _ _ _ _) (Kz _ (.head _))));refine ae (KE (f:=Pr.up)) ?_;rcases UW with e|e<;>rw[e] at h1
  ·exact hG.nl _ h1
  ·rcases KK.mp h1 with h|h
   ·exact hG.nl _ h
   ·refine aa (KD.mp h) ?_;exact K0 _
 have hp:=x'.permN wa (r:=(A,lO (qs.map Pr.val) kA)::qs.map Pr.ent) (by rw[RQ];exact GK Yq A qs kA);have hmA:(A,lO (qs.map Pr.val) kA)∈x'.led wa:=hp.mem_iff.mpr (.head _);have Vx:(wa.ns,lO (ay.refs Yq++[Value.ref A]) x'.cn)∈x'.led wa:=by have:=x'.mNs wa;rw[RQ,GL] at this;exact this
 refine Ge (Ga (Gg (Gr (lB wa _ _ _ _) rfl (x'.mW wa) (x'.mD wa) (G6 fun t1=>Ho Vx (Gj hmA Lo Lg (Gq (FZ (GA (FZ (FX rfl (FZ (FX rfl (FY ⟨by show 2<=1000;decide,fun Bt=>FY ?_⟩)))))))))))));refine Gd ((hp.cons _).trans (List.Perm.swap _ _ _)) (Gs (pre:=[]) rfl (by refine aa (KE _) ?_;exact bd Us) ?_);refine Gd (n':=(x'.setNs (Yq++[(A,qs++[(⟨Bt,YA,pre,tu,tp⟩:Pr)],kA+1)]) x'.cn).led wa) ?_ (F6 ?_)
 ·refine List.Perm.trans ?_ (Wr.permN wa _ (r:=(A,lO ((qs++[(⟨Bt,YA,pre,tu,tp⟩:Pr)]).map Pr.val) (kA+1))::(qs++[(⟨Bt,YA,pre,tu,tp⟩:Pr)]).map Pr.ent) (GK Yq A _ (kA+1))).symm
  unfold Wr.offN;refine aa (Jj wa x' RQ) (aa KN (aa KN ?_));refine List.Perm.cons _ ?_;show (_::(qs.map Pr.ent++_)).Perm ((qs.map Pr.ent++[_])++_);rw[KQ];exact Ld.symm
 refine hK _ _ _ _ (.refl _) ⟨rfl,_,uW pre YA a',?_,?_,rfl⟩
 ·refine aa hf ?_;rfl
 ·exact⟨Qk.decl,by show ay.ab (Yq++[_])=_;refine aa (GC _ _ _ _) ?_;unfold uW;refine ae Qk.ns (aa RQ (aa (GC _ _ _ _) (aa LN (aa Ni (aa KN ?_)))));rfl,Qk.pm,Qk.Yh,by show x'.Yn=List.replicate (Yq++[_]).length _;refine aa Qk.Yn (aa RQ (aa KH (aa KH ?_)));rfl,Qk.lam,Qk.data,Qk.Yg,Qk.seen⟩
noncomputable def Wr.pushData (x:Wr) (v:Value):Wr:={x with data:=x.data++[v],YK:=x.YK+1}
noncomputable def Wr.setDecl (x:Wr) (d:ay) (k:Nat) (po:Obj):Wr:={x with decl:=d,cd:=k,po:=po}
noncomputable def Wr.popPres (x:Wr) (ps:X8):Wr:={x with Yn:=ps,cs:=x.cs+1}
noncomputable def Wr.setDone (x:Wr) (b:Bool):Wr:={x with done:=b}
theorem qK(wa:aE)(x:Wr)(v:Value)(hz:x.data.length<=1000):bD 1 97 [.ref wa.W,v] (x.led wa) (fun r n'=>r=.none/\n'=(x.pushData v).led wa) eT:=by
 refine' GG (binds:=[(Yc "self", .ref wa.W),(Yc "data",v)]) (by k_is) (by k_is) (by exact fun s X=>LH rfl) (by exact aZ rfl) (by rfl) (by rfl) (by rfl) (by decide) (by exact fun _ _ h=>h.elim) ?_;intro A₀ base dp un gd L outer h₀ os g₀ c E K hE hK;refine Gk (H9 (Gn (Gr (my wa _ _ _ _) rfl (x.mW wa) (x.mD wa) (H6 ?_))));refine Ge (Ga (Gr (fT wa _ _ _ _) rfl (x.mW wa) (x.mD wa) (Gj (x.mData wa) Lo Lg (Gq (FZ (FX rfl (FY (Gs (pre:=[_,_,_,_,_,_,_,_]) rfl (bd hz) ?_))))))));exact F6 (F6 (hK _ _ _ ((x.pushData v).led wa) (.refl _) ⟨rfl,rfl⟩))
section
variable{c:Fx}{E:X6}{m:X5}{n:X4}{J:ad Value}
theorem Jz(hm:(D,ob)∈n)(hS:ob.SetObjOf (PySem.strKind PR w) S k)(hz:k<=1000)(h:J (.bool (S y)) m n):Tr c E m n (compareOp .In (.str y t) (.ref D)) J:= .mk fun s l=>by
 obtain⟨pre,post,rfl⟩:=List.append_of_mem hm;exact kse_in l.N (fb pre rfl l.D) hS (by unfold scanBound;exact L1 [_] (.a V0 W1) (.n 4096) 1 V0 (.n 1000) rfl hz) (NE _ _ _ _) rfl ⟨m,_,l.tok,h⟩
theorem mS{wa:aE}{x:Wr}{al k:Nat}:((al,listOf #[] 0)::((wa.W,instObj 150 wa.D)::(wa.D,dictOf (aD wa x.t x.Yg x.seen x.done) x.cnt)::(wa.decl,lO (x.decl.refs++[Value.ref al]) k)::(x.led wa).drop 3)).Perm ((x.setDecl (x.decl++[(al,[],0)]) k x.po).led wa):=by
 have e:(x.setDecl (x.decl++[(al,[],0)]) k x.po).led wa=(wa.W,instObj 150 wa.D)::(wa.D,dictOf (aD wa x.t x.Yg x.seen x.done) x.cnt)::(wa.decl,lO (x.decl.refs++[Value.ref al]) k)::((x.base wa).drop 3++(x.pl++(x.ex++((x.decl++[(al,[],0)]:ay).read++x.ns.read)))):=by
  unfold Wr.led Wr.setDecl;dsimp only;exact aa (GL _ _ _ _) rfl
 exact aa e ((Internal.permD (B:=(wa.W,instObj 150 wa.D)::(wa.D,dictOf (aD wa x.t x.Yg x.seen x.done) x.cnt)::(wa.decl,lO (x.decl.refs++[Value.ref al]) k)::(x.base wa).drop 3) (pl:=x.pl) (ex:=x.ex) (N:=x.ns.read) (r:=[(al,listOf #[] 0)]) (I:=x.decl.read) (GK x.decl al [] 0)).symm)
theorem fh(hG:eD a)(h:aq a=.ok a'):a'.Yg=none/\a'.data=none:=by
 unfold aq at h
 split at h
 ·rename_i hd
  cases h;exact⟨hG.np hd,hd⟩
 ·split at h
  ·rename_i hp
   cases h;exact⟨hp,rfl⟩
  ·split at h
   ·split at h
    ·cases h
    ·cases h;exact⟨rfl,rfl⟩
   ·cases h;exact⟨rfl,rfl⟩
variable{U:ad Unit}{wa:aE}{x:Wr}{a:AW}{Z:X4}
theorem IJ(hp:handedIn x.Yg=true)(h:U () m ((x.setPend v x.pl).led wa++Z)):Tr c E m (x.led wa++Z) (PySem.setAttr (.ref wa.W) "_pending_start" v) U:=
 Gl (es':=fun _=>aD wa x.t v x.seen x.done) (k':=x.cnt) (nB wa x.t x.Yg x.seen x.done hp) (Ky _ (x.mW wa)) (pre:=[_]) rfl (fun t0=>⟨t0,pD wa x.t x.Yg x.seen x.done x.cnt t0 v⟩) (fun _=>by show 17<=1000;decide) fun _=>h
theorem bB.pushDecl(h:bB x a)(hp:a.Yg=none)(al k:Nat):bB (x.setDecl (x.decl++[(al,[],0)]) k x.po) {a with decl:=a.decl++[[]]}:=by
 have h8:=h.Yg;rw[hp] at h8;exact⟨by show ay.ab (x.decl++_)=_;refine aa (GC _ _ _ _) (aa h.decl ?_);rfl,h.ns,h.pm,h.Yh,h.Yn,h.lam,h.data,by refine aa (show ({a with decl:=a.decl++[[]]}:AW).Yg=none from hp) ?_;exact h8,h.seen⟩
theorem BE{α:Type}{B T:List α}{p t a:α}:((B++([]++T))++[p,t,a]).Perm ((B++([p,a]++T))++[t]):=by
 (rw[Og];refine aa (KQ _ _ _) (aa (KQ _ _ _) ?_))
 refine Lr B ?_;refine(LU (l₁:=T)).trans ?_;refine(List.Perm.cons p (List.Perm.swap a t T)).trans ?_;exact List.Perm.cons p (List.Perm.cons a (LU (l₁:=[t])))
theorem v0(wa:aE)(Qr:(wa.YB==sysModules)=false)(x:Wr)(a:AW)(hA:bB x a)(hG:eD a)(u tg:Str)(tk:Tok)(ak ca:Nat)(aC:Obj)(S:Str->Bool)(ks:Nat)(hS:aC.SetObjOf (PySem.strKind PR w) S ks)(SF:ks<=1000)(TK:S (ah u tg)=true)(Rl:(ak==sysModules)=false)(Qy:∀ a',aq a=.ok a'->a'.decl.length<=100000):
  bD 8 120 [.ref wa.W, .str (ah u tg) tk, .ref ak] (x.led wa++[(wa.Yu,aC),(ak,dictOf [] ca)]) (fun v n'=>v=.none/\bV (fun x' a'=>aq a=.ok a') (fun x' a'=>bB x' (eb u tg a')) (fun x' _=>n'=x'.led wa++[(wa.Yu,aC)])) (oo wa (aq a) a.Yh):=by
 refine' GG (binds:=[(Yc "self", .ref wa.W),(Yc "tag", .str (ah u tg) tk),(Yc "attrs", .ref ak)]) (by k_is) (by k_is) (by exact fun s X=>LH rfl) (by exact aZ rfl) (by rfl) (by rfl) (by rfl) (by decide) ?k9 ?_
 case k9=>
  rintro PO Yp ⟨-,pg,cg,tb,rfl,-⟩ q hq;rcases KG.mp hq with rfl|hq
  ·exact KI.mpr ⟨_,Ky _ (x.mPage wa),rfl⟩
  ·exact aa (KD.mp hq) (KI.mpr ⟨_,Ky _ (x.mTab wa),rfl⟩)
 intro A₀ base dp un gd L outer h₀ os g₀ c E K hE hK;refine Gk (GR (Gy (Gb (Gr (nw wa _ _ _ _) rfl (Ky _ (x.mW wa)) (Ky _ (x.mD wa)) (Gw (Hc (F9 (F6 ?_))))))));refine Hu Qr hA hG (by show 7<=7;decide) rfl (hE _ _ fun PO Yp h=>⟨Yp,h,fun q hq=> .inl hq⟩) fun x' a' hf Qk=>?_;obtain⟨Ro,Uf⟩:=fh hG hf;refine Gf (Gx (FY ⟨K0 _,fun al=>?_⟩));show Tr _ _ _ _ _ _;generalize hm:(fun y=>if y=Yc "new_namespaces" then some (Value.ref al) else _)=m1;revert m1;refine wrap ?_;intro m1 hm;have RS:m1 (Yc "self")=some (.ref wa.W):=ae hm rfl;have m1t:m1 (Yc "tag")=some (.str (ah u tg) tk):=ae hm rfl;have m1a:m1 (Yc "attrs")=some (.ref ak):=ae hm rfl;have m1n:m1 (Yc "new_namespaces")=some (.ref al):=ae hm rfl;clear hm;have Sp:x'.decl.refs.length<=100000:=by
  unfold ay.refs;refine aa (KE _) (aa (show x'.decl.length=a'.decl.length by rw[←Qk.decl];unfold ay.ab;rw[KE]) ?_);exact Qy a' hf
 refine Ge (Ga (Gr (fU wa _ _ _ _) RS (.tail _ (Ky _ (x'.mW wa))) (.tail _ (Ky _ (x'.mD wa))) (Gj (.tail _ (Ky _ (x'.mDecl wa))) Lo Lg (Gq (FZ (FX m1n (FY (Gs (pre:=[_,_,_]) rfl Sp ?_))))))));refine Gd ((mS (wa:=wa) (x:=x') (al:=al) (k:=x'.cd+1)).append_right [(wa.Yu,aC),(ak,dictOf [] ca)]) ?_;have Rn:=Qk.pushDecl Ro al (x'.cd+1);generalize hx1:x'.setDecl (x'.decl++[(al,[],0)]) (x'.cd+1) x'.po=x1 at Rn;revert x1;refine wrap ?_;intro x1 hx1 Rn;refine Gk (GR (Gy (Gb (Gr (ic wa _ _ _ _) RS (Ky _ (x1.mW wa)) (Ky _ (x1.mD wa)) (Gw (Hl (F9 (Gy (Gb (FX m1t (Gr (ic wa _ _ _ _) RS (Ky _ (x1.mW wa)) (Ky _ (x1.mD wa)) (Jz (Kz _ (.head _)) hS SF (F9 ?_)))))))))))));refine aa TK ?_;refine He (Gv (GA (FZ (FX m1t (FZ (FX m1a (FZ (FX m1n (FY ⟨by show 3<=1000;decide,fun pt=>FX RS ?_⟩)))))))));have h8:=Rn.Yg;rw[show ({a' with decl:=a'.decl++[[]]}:AW).Yg=none from Ro] at h8;refine Gd Ld.symm (IJ (by refine aa h8.1 ?_;rfl) (Gd (n':=(x1.setPend (.ref pt) [(pt,ip (.str (ah u tg) tk) (.ref ak) (.ref al) 0),(ak,dictOf [] ca)]).led wa++[(wa.Yu,aC)]) ?_ (IY (hK _ _ _ _ (.refl _) ⟨rfl,_,a',hf,?_,rfl⟩))))
 ·exact aa h8.2 (BE (B:=(x1.setPend (.ref pt) []).base wa))
 ·exact⟨Rn.decl,Rn.ns,Rn.pm,Rn.Yh,Rn.Yn,Rn.lam,Rn.data,⟨tk,pt,ak,al,0,ca,0,x'.decl,rfl,Rl,by refine ae hx1 ?_;rfl,rfl⟩,Rn.seen⟩
theorem vZ(wa:aE)(Qr:(wa.YB==sysModules)=false)(x:Wr)(a:AW)(hA:bB x a)(hG:eD a)(u tg:Str)(tk:Tok)(ak ca:Nat)(aC:Obj)(S:Str->Bool)(ks:Nat)(hS:aC.SetObjOf (PySem.strKind PR w) S ks)(SF:ks<=1000)(TK:S (ah u tg)=false)(Rl:(ak==sysModules)=false)(Qy:∀ a',aq a=.ok a'->a'.decl.length<=100000)(hO:∀ a',aq a=.ok a'->et a' a'.decl u tg ⟨#[]⟩ ⟨#[]⟩):
  bD 8 120 [.ref wa.W, .str (ah u tg) tk, .ref ak] (x.led wa++[(wa.Yu,aC),(ak,dictOf [] ca)]) (fun v n'=>v=.none/\bV (fun x' a'=>aq a=.ok a') (fun x' a'=>bB x' (im u tg a')) (fun x' _=>n'=x'.led wa++[(wa.Yu,aC)])) (oo wa (aq a) a.Yh):=by
 refine' GG (binds:=[(Yc "self", .ref wa.W),(Yc "tag", .str (ah u tg) tk),(Yc "attrs", .ref ak)]) (by k_is) (by k_is) (by exact fun s X=>LH rfl) (by exact aZ rfl) (by rfl) (by rfl) (by rfl) (by decide) ?k9 ?_
 case k9=>
  rintro PO Yp ⟨-,pg,cg,tb,rfl,-⟩ q hq;rcases KG.mp hq with rfl|hq
  ·exact KI.mpr ⟨_,Ky _ (x.mPage wa),rfl⟩
  ·exact aa (KD.mp hq) (KI.mpr ⟨_,Ky _ (x.mTab wa),rfl⟩)
 intro A₀ base dp un gd L outer h₀ os g₀ c E K hE hK;refine Gk (GR (Gy (Gb (Gr (nw wa _ _ _ _) rfl (Ky _ (x.mW wa)) (Ky _ (x.mD wa)) (Gw (Hc (F9 (F6 ?_))))))));refine Hu Qr hA hG (by show 7<=7;decide) rfl (hE _ _ fun PO Yp h=>⟨Yp,h,fun q hq=> .inl hq⟩) fun x' a' hf Qk=>?_;obtain⟨Ro,Uf⟩:=fh hG hf;refine Gf (Gx (FY ⟨K0 _,fun al=>?_⟩));show Tr _ _ _ _ _ _;generalize hm:(fun y=>if y=Yc "new_namespaces" then some (Value.ref al) else _)=m1;revert m1;refine wrap ?_;intro m1 hm;have RS:m1 (Yc "self")=some (.ref wa.W):=ae hm rfl;have m1t:m1 (Yc "tag")=some (.str (ah u tg) tk):=ae hm rfl;have m1a:m1 (Yc "attrs")=some (.ref ak):=ae hm rfl;have m1n:m1 (Yc "new_namespaces")=some (.ref al):=ae hm rfl;clear hm;have Sp:x'.decl.refs.length<=100000:=by
  unfold ay.refs;refine aa (KE _) (aa (show x'.decl.length=a'.decl.length by rw[←Qk.decl];unfold ay.ab;rw[KE]) ?_);exact Qy a' hf
 refine Ge (Ga (Gr (fU wa _ _ _ _) RS (.tail _ (Ky _ (x'.mW wa))) (.tail _ (Ky _ (x'.mD wa))) (Gj (.tail _ (Ky _ (x'.mDecl wa))) Lo Lg (Gq (FZ (FX m1n (FY (Gs (pre:=[_,_,_]) rfl Sp ?_))))))));refine Gd ((mS (wa:=wa) (x:=x') (al:=al) (k:=x'.cd+1)).append_right [(wa.Yu,aC),(ak,dictOf [] ca)]) ?_;have Rn:=Qk.pushDecl Ro al (x'.cd+1);have Uc:=oG wa Qr _ _ Rn Ro x'.decl al 0 rfl u tg tk ak ca Rl ⟨#[]⟩ ⟨#[]⟩ .none _ (.inl ⟨rfl,rfl⟩) (.inl rfl) (by
  have h:=hO a' hf;refine aa Qk.decl ?_;exact⟨h.YC,h.dk,h.YL,h.il,h.fl,h.nl,h.nn,h.ne,h.nu,h.pg,h.tag,h.spl,h.plx,h.lp,h.lx,h.two⟩)
 generalize x'.setDecl (x'.decl++[(al,[],0)]) (x'.cd+1) x'.po=x1 at Rn Uc;revert x1;refine wrap ?_;intro x1 Rn Uc;refine Gk (GR (Gy (Gb (Gr (ic wa _ _ _ _) RS (Ky _ (x1.mW wa)) (Ky _ (x1.mD wa)) (Gw (Hl (F9 (Gy (Gb (FX m1t (Gr (ic wa _ _ _ _) RS (Ky _ (x1.mW wa)) (Ky _ (x1.mD wa)) (Jz (Kz _ (.head _)) hS SF (F9 ?_)))))))))))));refine aa TK ?_;refine F6 (Ge (Ga (FX RS (GZ (ni wa _ _ _ _) (Ky _ (x1.mW wa)) (Ky _ (x1.mD wa)) (Ha (ni wa x1.t x1.Yg x1.seen x1.done).hk (FZ (FX m1t (FZ (FX m1a (FZ (FX m1n (FY ?_))))))))))));refine Gd (n':=((ak,dictOf [] ca)::x1.led wa)++[(wa.Yu,aC)]) (LU (l₁:=x1.led wa++[(wa.Yu,aC)]) (l₂:=[(ak,dictOf [] ca)])|>fun h=>by rw[KQ] at h;exact h) (Uc.to c E m1 _ _ (by show 6<=7;decide) ?_ (hE _ _ fun PO Yp h=>by obtain⟨⟨_,h⟩,_⟩:=h;cases h));rintro v n' ⟨rfl,x3,yu,TU,QT,rfl⟩;rcases TU with⟨_,rfl⟩|⟨⟨_,h⟩,_⟩
 ·rw[Qk.decl] at QT
  exact F6 (hK _ _ _ _ (Lq _ _) ⟨rfl,x3,a',hf,QT,rfl⟩)
 ·cases h
variable{K:ad Flow}
theorem GY(h:J (.bool (i==j)) m n):Tr c E m n (compareOp .Eq (.int i t) (.int j u)) J:= .mk fun _ l=>PyProof.Rows.eq_int ⟨m,n,l,h⟩
theorem GN{y:Str}{xp p:Pos}{e:X7}{id:String}(e0:nsIn (am w.params) mainGlobals y=some none)(hv:bootBuiltins y=some (.builtin id))(hn:y≠"__name__")(h:Tr c E m n (eval e c.env) (kT c E (fun v=>call (.builtin id) [v]) J))
  (he:starEach [e] c.env=[(false,eval e c.env)]:=by rfl) (hx:c.env.kindOf y=some .globalImplicit:=by rfl) (hd:(y==("__debug__":Str))=false:=by decide):Tr c E m n (eval (.Call (.Name y xp) [e] [] p) c.env) J:= .mk fun s l=>
 LB rfl (c6 ((HK (J:=fun v m' n'=>v=.builtin id/\m'=m/\n'=n) e0 hv hn ⟨rfl,rfl,rfl⟩ hx hd).go s l) fun _ s' _ _ l' ⟨e1,e2,e3⟩=>by
  subst e1 e2 e3;exact N7 (Ll (F0 l' h fun _ s1 _ _ l1 q=>Lz (q.go s1 l1)) he) he)
theorem G9{D:Addr}{vs:X8}{k:Nat}(hm:(D,lO vs k)∈n)(hz:vs.length<=100000)(h:∀ t,J (.int vs.length t) m n):Tr c E m n (call (.builtin "len") [.ref D]) J:=Jd hm (by refine aa Lu ?_;exact hz) (by refine aa Lu ?_;exact h)
theorem IQ(h:x.Yn=ps++[y])(hz:ps.length<=100000)(k:J y m ((x.popPres ps).led wa)):Tr c E m (x.led wa) (call (.builtin "list.pop") [.ref wa.Yn]) J:=by
 obtain⟨xt,xpend,xseen,xdone,xcnt,xdecl,xcd,xpo,xpage,xcg,xpres,xcs,xns,xcn,xdata,xcdt,xtps,xex,xpl⟩:=x;dsimp only at h;subst h;exact HN (pre:=[_,_,_,_,_,_]) rfl hz k
theorem IP(h:x.decl=init++[(al,Yk,k)])(hz:init.length<=100000)
  (q:Tr c E m ((x.setDecl init (x.cd+1) x.po).led wa) (execs r env) K) (hc:∀ J':ad Value,Tr c E m (x.led wa) (call (.builtin "list.pop") [.ref wa.decl]) J'->Tr c E m (x.led wa) (eval e env) J')
  (hi:interactive env=false:=by rfl) (hs:swapsWith e none p.line env=Pure.pure false:=by rfl):Tr c E m (x.led wa) (execs (.Expr e p::r) env) K:=by
 refine Ge (hc _ ?_) hi hs;refine aa (HI h) ?_;refine HN (pre:=[_,_]) (p:=init.refs) rfl (by unfold ay.refs;refine aa (KE _) ?_;exact hz) ?_;refine I1 (g:=(al,lO (Yk.map Pr.val) k)::Yk.map Pr.ent) ?_ q;exact Internal.permD (B:=(x.setDecl init (x.cd+1) x.po).base wa) (pl:=x.pl) (ex:=x.ex) (N:=x.ns.read) (I:=init.read) (by refine aa h ?_;exact GK init al Yk k)
theorem JJ(h:x.ns=init++[(al,Yk,k)])(hz:init.length<=100000)
  (q:Tr c E m ((x.setNs init (x.cn+1)).led wa) (execs r env) K) (hc:∀ J':ad Value,Tr c E m (x.led wa) (call (.builtin "list.pop") [.ref wa.ns]) J'->Tr c E m (x.led wa) (eval e env) J')
  (hi:interactive env=false:=by rfl) (hs:swapsWith e none p.line env=Pure.pure false:=by rfl):Tr c E m (x.led wa) (execs (.Expr e p::r) env) K:=by
 refine Ge (hc _ ?_) hi hs;have hl:x.led wa=(x.base wa).take 7++(wa.ns,lO (ay.refs init++[Value.ref al]) x.cn)::((x.base wa).drop 8++(x.pl++(x.ex++(x.decl.read++x.ns.read)))):=by
  unfold Wr.led;exact aa h (aa (GL _ _ _ _) rfl)
 refine aa hl ?_;refine HN (pre:=(x.base wa).take 7) (p:=init.refs) rfl (by unfold ay.refs;refine aa (KE _) ?_;exact hz) ?_;refine I1 (g:=(al,lO (Yk.map Pr.val) k)::Yk.map Pr.ent) ?_ q;exact Internal.permN (B:=(x.setNs init (x.cn+1)).base wa) (pl:=x.pl) (ex:=x.ex) (I:=x.decl.read) (N:=init.read) (by refine aa h ?_;exact GK init al Yk k)
theorem IR(h:U () m ((x.setDone b).led wa)):Tr c E m (x.led wa) (PySem.setAttr (.ref wa.W) "_root_done" (.bool b)) U:=
 Gl (es':=fun _=>aD wa x.t x.Yg x.seen b) (k':=x.cnt) (vl wa x.t x.Yg x.seen x.done) (x.mW wa) (pre:=[_]) rfl (fun t0=>⟨t0,wV wa x.t x.Yg x.seen x.done x.cnt t0 b⟩) (fun _=>by show 17<=1000;decide) fun _=>h
end
section
open Classical
variable{α:Type}{W D de al pm pg ap pr ns da tb:α}{iL F pl ex N:List α}
theorem BF:(W::D::de::pm::pg::ap::pr::ns::da::tb::(pl++(ex++(((iL++[al])++F)++N)))).Perm (([W,D,de,al,pm]++(iL++F))++(pg::ap::pr::ns::da::tb::(pl++(ex++N)))):=
 lE (fun i=>[[W],[D],[de],[pm],[pg],[ap],[pr],[ns],[da],[tb],pl,ex,iL,[al],F,N].getD i []) (gl [0,1,2,3,4,5,6,7,8,9,10,11] (.a (.a (.a (.v 12) (.v 13)) (.v 14)) (.v 15))) (.a (gl [0,1,2,13,3,12] (.v 14)) (gl [4,5,6,7,8,9,10,11] (.v 15))) rfl
end
structure iX(a:AW)(u tg:Str):Prop where
 YC:bK a.pm
 dk:bj (aB a.decl) a.pm
 YL:a.pm.length<=50
 il:∀ l∈a.decl,l.length<=1000
 fl:(aB a.decl).length<=900
 dn:a.decl≠[]
 dl:a.decl.length<=50000
 nn:a.ns.length<=50000
 ne:a.ns≠[]
 pg:a.Yh.length<=50000
 tag:fr u tg
 fnd:aY (aB a.decl) u≠none
theorem IK(init:ay)(al:Nat)(Yk:List Pr)(k:Nat):(init++[(al,Yk,k)]:ay).read=(init.lists++[(al,lO (Yk.map Pr.val) k)])++(Yk++init.flat).map Pr.ent:=by
 unfold ay.read;refine aa (cw _ _ _ _) ?_;unfold ay.lists;exact aa KN rfl
namespace QEk
def Q(wa:aE)(x:Wr)(a:AW)(u tg:Str)(tk:Tok)(init:ay)(al cl:Nat)(Yk:List Pr):Prop:=∀ (Qr:(wa.YB==sysModules)=false) (hA:bB x a) (hO:iX a u tg) (Qy:x.decl=init++[(al,Yk,cl)]),bD 4 90 [.ref wa.W, .str (ah u tg) tk] (x.led wa) (fun v n'=>vQ (fun(a3:Nat) (t1 t2 t3:Tok) (Sn:Nat) (Qg:Obj)=>v=.ref a3) (fun _ _ _ _ _ Qg=>gv Qg a.pm) (fun a3 t1 t2 t3 Sn Qg=>n'=(a3,ip (.str (preOf a.pm u++Yc ":"++tg) t1) (.str tg t2) (.str u t3) 0)::(x.setDecl (init++[(al,Yk,Sn)]) x.cd Qg).led wa)) eT
def P_(y:(((aE×Wr)×AW)×Str×Str)×((Tok×ay)×Nat)×Nat×(List Pr)):Prop:=Q y.1.1.1.1 y.1.1.1.2 y.1.1.2 y.1.2.1 y.1.2.2 y.2.1.1.1 y.2.1.1.2 y.2.1.2 y.2.2.1 y.2.2.2
def y_:(((aE×Wr)×AW)×Str×Str)×((Tok×ay)×Nat)×Nat×(List Pr):=pk (cC (cC (cC (cC i9 sb) r9) inferInstance) inferInstance) P_
def wa:aE:=y_.1.1.1.1
def x:Wr:=y_.1.1.1.2
def a:AW:=y_.1.1.2
def u:Str:=y_.1.2.1
def tg:Str:=y_.1.2.2
def tk:Tok:=y_.2.1.1.1
def init:ay:=y_.2.1.1.2
def al:Nat:=y_.2.1.2
def cl:Nat:=y_.2.2.1
def Yk:List Pr:=y_.2.2.2
theorem go:Q wa x a u tg tk init al cl Yk:=by
 intro Qr hA hO Qy;have Qi:(init++[(al,Yk,cl)]:ay).flat.map Pr.up=aB a.decl:=by exact ae Qy (aa (ay.flat_ab _) (aa hA.decl rfl))
 have hfl2:Yk.map Pr.up++init.flat.map Pr.up=aB a.decl:=by exact ae Qi (aa (cw _ _ _ _) (aa KN rfl))
 obtain⟨pre,QW⟩:=Option.ne_none_iff_exists'.mp hO.fnd;have Tx:pre=preOf a.pm u:=ig hO.dk hO.YC (fg QW) hO.tag.nx;have hq:aL (init.flat.map Pr.up) (Yk.map Pr.up,a.pm) u=(pre,(Yk.map Pr.up,a.pm)):=by
  unfold aL;exact aa hfl2 (aa QW rfl)
 have Ri:∀ k po,(x.setDecl (init++[(al,Yk,k)]) x.cd po).led wa=(wa.W,instObj 150 wa.D)::(wa.D,dictOf (aD wa x.t x.Yg x.seen x.done) x.cnt)::(wa.decl,lO (ay.refs init++[Value.ref al]) x.cd)::(wa.YB,po)::(wa.Yh,lO x.Yh x.cg)::(wa.Yt,be "list.append" (.ref wa.Yh))::(wa.Yn,lO x.Yn x.cs)::(wa.ns,lO x.ns.refs x.cn)::(wa.data,lO x.data x.YK)::(123,tabObj x.YD)::(x.pl++(x.ex++(((init.lists++[(al,lO (Yk.map Pr.val) k)])++(Yk++init.flat).map Pr.ent)++x.ns.read))):=by
  intro k po;refine ae (IK _ _ _ _) ?_;unfold Wr.setDecl Wr.led;dsimp only;exact aa (GL _ _ _ _) rfl
 have hx:x.led wa=(x.setDecl (init++[(al,Yk,cl)]) x.cd x.po).led wa:=ae Qy rfl;refine aa hx (aa (Ri _ _) ?_);refine' bD.perm (G:=(wa.Yh,lO x.Yh x.cg)::(wa.Yt,be "list.append" (.ref wa.Yh))::(wa.Yn,lO x.Yn x.cs)::(wa.ns,lO x.ns.refs x.cn)::(wa.data,lO x.data x.YK)::(123,tabObj x.YD)::(x.pl++(x.ex++x.ns.read))) (n₂:=[(wa.W,instObj 150 wa.D),(wa.D,dictOf (aD wa x.t x.Yg x.seen x.done) x.cnt),(wa.decl,lO (ay.refs init++[Value.ref al]) x.cd),(al,lO (Yk.map Pr.val) cl),(wa.YB,x.po)]++(init.lists++(Yk++init.flat).map Pr.ent))
  (fun hD=>?hMm) BF ?hMP ?hMR
 case hMm=>
  rw[←cw init al Yk cl];refine Ia (oE wa x.t x.Yg x.seen x.done x.cnt x.cd init al cl Yk a.pm x.po u tg tk Qr hA.pm ⟨hO.YC,by refine aa Qi ?_;exact hO.dk,by have:=hO.YL;exact bd this,by refine ae Qy ?_;exact HP hA.decl hO.il,by have:=hO.fl;rw[←Qi,KE] at this;exact bd this⟩ hO.tag.qn)
 case hMP=>
  rintro v n' ⟨f',⟨a3,x',t1,t2,t3,T1,new,YE,Sn,Qg,UA,Si,UE,hn,he⟩,rfl⟩;rw[hq] at Si;have e1:pre=x':=congrArg (·.1) Si;have e2:Yk.map Pr.up=T1.map Pr.up:=congrArg (·.2.1) Si;have e3:a.pm=UA:=congrArg (·.2.2) Si;have hnil:new=[]:=by
   rw[hn,KN] at e2;exact List.map_eq_nil_iff.mp (List.append_right_eq_self.mp e2.symm)
  refine⟨_,?_,a3,t1,t2,t3,Sn,Qg,rfl,e3▸UE,rfl⟩
  (refine aa he (aa hn (aa hnil ?_));rw[Lh];refine ae e1 (aa (Ri _ _) (ae Tx (aa (cw _ _ _ _) ?_))))
  exact List.Perm.cons _ BF.symm
 case hMR=>exact fun _ _ h=>h
end QEk
theorem zL(wa:aE)(x:Wr)(a:AW)(u tg:Str)(tk:Tok)(init:ay)(al cl:Nat)(Yk:List Pr):QEk.Q wa x a u tg tk init al cl Yk:=cT (P:=QEk.P_) QEk.go ((((wa,x),a),(u,tg)),(((tk,init),al),(cl,Yk)))
namespace ENk
def Q(wa:aE)(x:Wr)(a:AW)(u tg:Str)(tk:Tok):Prop:=∀ (Qr:(wa.YB==sysModules)=false) (hA:bB x a) (hG:eD a) (hO:∀ a',aq a=.ok a'->iX a' u tg),bD 8 133 [.ref wa.W, .str (ah u tg) tk] (x.led wa) (rF wa (rK (aq a) (iF u tg))) (oo wa (aq a) a.Yh)
def P_(y:((aE×Wr)×AW)×(Str×Str)×Tok):Prop:=Q y.1.1.1 y.1.1.2 y.1.2 y.2.1.1 y.2.1.2 y.2.2
def y_:((aE×Wr)×AW)×(Str×Str)×Tok:=pk (cC (cC (cC i9 sb) r9) inferInstance) P_
def wa:aE:=y_.1.1.1
def x:Wr:=y_.1.1.2
def a:AW:=y_.1.2
def u:Str:=y_.2.1.1
def tg:Str:=y_.2.1.2
def tk:Tok:=y_.2.2
theorem go:Q wa x a u tg tk:=by
 intro Qr hA hG hO;refine' GG (binds:=[(Yc "self", .ref wa.W),(Yc "tag", .str (ah u tg) tk)]) (by k_is) (by k_is) (by exact fun s X=>LH rfl) (by exact aZ rfl) (by rfl) (by rfl) (by rfl) (by decide) ?k9 ?_
 case k9=>
  rintro PO Yp ⟨-,pg,cg,tb,rfl,-⟩ q hq;rcases KG.mp hq with rfl|hq
  ·exact KI.mpr ⟨_,x.mPage wa,rfl⟩
  ·exact aa (KD.mp hq) (KI.mpr ⟨_,x.mTab wa,rfl⟩)
 intro A₀ base dp un gd L outer h₀ os g₀ c E K hE hK;refine Gk (Gn (Gr (my wa _ _ _ _) rfl (x.mW wa) (x.mD wa) (H6 (F6 ?_))));refine ae (Lh (x.led wa)) ?_;refine Hu Qr hA hG (by show 7<=7;decide) rfl (hE _ _ fun PO Yp h=>⟨Yp,h,fun q hq=> .inl hq⟩) fun x' a' hf Qk=>?_;refine aa (Lh _) ?_;have So:=hO a' hf;obtain⟨Ro,Uf⟩:=fh hG hf;obtain⟨init,al,Yk,cl,Qy⟩:=jR Qk.decl So.dn;have hq:=(zL wa x' a' u tg tk init al cl Yk Qr Qk So Qy).to;have Qw:(preOf a'.pm u).length<=1000:=by
  obtain⟨pre,QW⟩:=Option.ne_none_iff_exists'.mp So.fnd;refine ae (ig So.dk So.YC (fg QW) So.tag.nx) ?_;exact(So.dk.len So.YC (by have:=So.YL;exact bd this) (fg QW)).2.1
 have TR:=So.tag.qn.tl;refine Ge (Ga (FX rfl (Ic (iO wa _ _ _ _) (by k_is) (x'.mW wa) (x'.mD wa) (IV (x'.mApp wa) (Hf (G4 (Gc fun s1=>⟨_,_,rfl,?l1,G4 (HX (Gg (Ga (FX rfl (GZ (nh wa _ _ _ _) (x'.mW wa) (x'.mD wa) (Ha (nh wa x'.t x'.Yg x'.seen x'.done).hk (FZ (FX rfl (FY ?_)))))))))⟩)))))))
 case l1=>refine aa (Mc _) ?_;show 2<=1000000;decide
 refine ae (Lh (x'.led wa)) ?_;refine hq c E _ [] _ (by show 4<=7;decide) ?_ dC.no;rintro v n' ⟨a3,t1,t2,t3,Sn,Qg,rfl,VD,rfl⟩;refine aa (Lh _) ?_;have QG:bB (x'.setDecl (init++[(al,Yk,Sn)]) x'.cd Qg) a':=⟨by show ay.ab (init++_)=_;exact ae Qk.decl (aa Qy (aa (GC _ _ _ _) (aa (GC _ _ _ _) rfl))),Qk.ns,VD,Qk.Yh,Qk.Yn,Qk.lam,Qk.data,by refine aa Ro ?_;have:=Qk.Yg;rw[Ro] at this;exact this,Qk.seen⟩;have Sy:(x'.setDecl (init++[(al,Yk,Sn)]) x'.cd Qg).decl=init++[(al,Yk,Sn)]:=rfl;generalize x'.setDecl (init++[(al,Yk,Sn)]) x'.cd Qg=x2 at QG Sy;revert x2;refine wrap ?_;intro x2 QG Sy;clear hq Qk Qy;refine F7 fun s2=>Hj (j:=0) (xs:=[.str (preOf a'.pm u++Yc ":"++tg) t1, .str tg t2, .str u t3]) (.head _) rfl rfl (by show 3<=1000;decide) (GW (Lq _ _) (HQ ?l2 fun s3=>⟨_,_,rfl,?l3,GQ (G4 (Gc fun s4=>⟨_,_,rfl,?l4,G0 (G7 ?l4 fun s5=>⟨x2.mApp wa,?_⟩)⟩))⟩))
 case l2=>simp only[KB,uF];exact L2 [_,_] (.a (.a V0 W1) V1) (.n 1000000) 1 V0 (.n 1000) 1 V1 (.n 1000) rfl Qw TR
 case l3=>refine aa (Mc _) ?_;simp only[KB,uF,show (Yc "</").length=2 from rfl];exact L2 [_,_] (.a (.n 2) (.a (.a V0 W1) V1)) (.n 1000000) 1 V0 (.n 1000) 1 V1 (.n 1000) rfl Qw TR
 case l4=>refine aa (Mc _) ?_;simp only[KB,uF,show (Yc "</").length=2 from rfl,show (Yc ">").length=1 from rfl];exact L2 [_,_] (.a (.a (.n 2) (.a (.a V0 W1) V1)) W1) (.n 1000000) 1 V0 (.n 1000) 1 V1 (.n 1000) rfl Qw TR
 refine aa (Mc _) ?_;have hzp:x2.Yh.length<=100000:=aa QG.Yh.length (KF So.pg (by decide));refine II hzp ?_;have QT:=QG.wr (Yc "</"++(preOf a'.pm u++Yc ":"++tg)++Yc ">") s5;have UB:(x2.wr (.str (Yc "</"++(preOf a'.pm u++Yc ":"++tg)++Yc ">") s5)).decl=init++[(al,Yk,Sn)]:=Sy;generalize x2.wr (.str (Yc "</"++(preOf a'.pm u++Yc ":"++tg)++Yc ">") s5)=x3 at QT UB;revert x3;refine wrap ?_;intro x3 QT UB;clear QG Sy hzp;obtain⟨Yq,A,qs,kA,RQ⟩:=jR QT.ns So.ne;have Qs:x3.ns.length=a'.ns.length:=by refine aa (show a'.ns=x3.ns.ab from QT.ns.symm) ?_;unfold ay.ab;exact aa (KE _) rfl
 have RG:Yq.length+1=a'.ns.length:=ae Qs (aa RQ (aa KH rfl));have S4:=So.nn;have S6:x3.Yn=List.replicate Yq.length (Value.bool false)++[Value.bool false]:=by exact aa QT.Yn (aa Qs (ae RG (aa OB rfl)))
 have Th:init.length<=100000:=by
  have h1:x3.decl.length=a'.decl.length:=by refine aa (show a'.decl=x3.decl.ab from QT.decl.symm) ?_;unfold ay.ab;exact aa (KE _) rfl
  rw[UB,KH] at h1;have:=So.dl;exact L3 [_,_,_] V0 (.n 100000) 3 (.a V0 V1) V2 2 V2 (.a V0 V1) 1 V2 (.n 50000) rfl (eL h1) (eG h1) this
 refine Ge (Ga (Gr (ib wa _ _ _ _) rfl (x3.mW wa) (x3.mD wa) (Gj (x3.mPres wa) Na Nb (Hk (IQ S6 (by refine aa Pq ?_;exact L3 [_,_] V0 (.n 100000) 3 (.a V0 W1) V1 2 V1 (.a V0 W1) 1 V1 (.n 50000) rfl (eL RG) (eG RG) S4) ?_)))));have h4:=QT.Yg;rw[show ({a' with Yh:=a'.Yh++[Yc "</"++(preOf a'.pm u++Yc ":"++tg)++Yc ">"]}:AW).Yg=none from Ro] at h4;have hA5:∀ b k1 k2,bB ((((x3.popPres (List.replicate Yq.length (Value.bool false))).setDone b).setDecl init k1 x3.po).setNs Yq k2) (iF u tg a'):=fun b k1 k2=>
  ⟨by show ay.ab init=a'.decl.dropLast;exact aa (show a'.decl=x3.decl.ab from QT.decl.symm) (aa UB (aa (GC _ _ _ _) (aa LN rfl))),by show ay.ab Yq=a'.ns.dropLast;exact aa (show a'.ns=x3.ns.ab from QT.ns.symm) (aa RQ (aa (GC _ _ _ _) (aa LN rfl))),QT.pm,QT.Yh,rfl,QT.lam,QT.data,by refine aa (show (iF u tg a').Yg=none from Ro) ?_;exact h4,QT.seen⟩
 have WE:(x3.popPres (List.replicate Yq.length (Value.bool false))).decl=init++[(al,Yk,Sn)]:=UB;have WT:(x3.popPres (List.replicate Yq.length (Value.bool false))).ns=Yq++[(A,qs,kA)]:=RQ;have WL:(x3.popPres (List.replicate Yq.length (Value.bool false))).Yn.length<=100000:=by show (List.replicate _ _).length<=_;refine aa Pq ?_;exact L3 [_,_] V0 (.n 100000) 3 (.a V0 W1) V1 2 V1 (.a V0 W1) 1 V1 (.n 50000) rfl (eL RG) (eG RG) S4
 have hpo4:(x3.popPres (List.replicate Yq.length (Value.bool false))).po=x3.po:=rfl;rw[←hpo4] at hA5;generalize x3.popPres (List.replicate Yq.length (Value.bool false))=x4 at hA5 WE WT WL;revert x4;refine wrap ?_;intro x4 hA5 WE WT WL;clear QT UB RQ S6 h4 hpo4;refine Gv (IB (GN (by k_is) (by boot_fast) (by decide) (Gr (ib wa _ _ _ _) rfl (x4.mW wa) (x4.mD wa) (G9 (x4.mPres wa) WL fun s6=>F7 fun s7=>GY (FX rfl (IR ?_))))));generalize ((x4.Yn.length:Int)==1)=b;revert b;refine wrap ?_;intro b;have hdl5:(x4.setDone b).decl=init++[(al,Yk,Sn)]:=WE;refine IP hdl5 Th ?_ fun J' h=>Ga (Gr (fU wa _ _ _ _) rfl (Wr.mW wa _) (Wr.mD wa _) (Gj (Wr.mDecl wa _) Na Nb (Hk h)));have hxn5:((x4.setDone b).setDecl init ((x4.setDone b).cd+1) (x4.setDone b).po).ns=Yq++[(A,qs,kA)]:=WT;refine JJ hxn5 (by exact L3 [_,_] V0 (.n 100000) 3 (.a V0 W1) V1 2 V1 (.a V0 W1) 1 V1 (.n 50000) rfl (eL RG) (eG RG) S4) ?_ fun J' h=>Ga (Gr (lB wa _ _ _ _) rfl (Wr.mW wa _) (Wr.mD wa _) (Gj (Wr.mNs wa _) Na Nb (Hk h)));exact F6 (hK _ _ _ _ (.refl _) ⟨rfl,_,iF u tg a',by refine aa hf ?_;rfl,hA5 _ _ _,rfl⟩)
end ENk
theorem rN(wa:aE)(x:Wr)(a:AW)(u tg:Str)(tk:Tok):ENk.Q wa x a u tg tk:=cT (P:=ENk.P_) ENk.go (((wa,x),a),((u,tg),tk))
noncomputable def cj {K:Type} [DecidableEq K] (PN:List (K×Value)) (x:K×Value):List (K×Value):=if x.1∈PN.map (·.1) then PN else PN++[x]
theorem wk{K:Type}[DecidableEq K]{PN:List (K×Value)}{x:K×Value}(h:x.1∈PN.map (·.1)):cj PN x=PN:=KW h
theorem wj{K:Type}[DecidableEq K]{PN:List (K×Value)}{x:K×Value}(h:¬x.1∈PN.map (·.1)):cj PN x=PN++[x]:=KM h
theorem jK{K:Type}[DecidableEq K]:∀ (l PN:List (K×Value)),(l.foldl cj PN).length<=PN.length+l.length
 |[],_=>KZ _
 |x::l,PN=>by
  refine KF (jK l (cj PN x)) ?_;have:(cj PN x).length<=PN.length+1:=by
   unfold cj
   split
   ·exact MD _
   ·refine aa KH ?_;exact KZ _
  refine aa Lc ?_;exact L1 [_,_,_] (.a V0 V2) (.a V1 (.a V2 W1)) 1 V0 (.a V1 W1) rfl this
section
variable{K:Type}[DecidableEq K][BEq K][LawfulBEq K]{knd:PySem.KeyKind PR w K}{A:Around}{E:X6}{s:Shared}
theorem iS{I l S:Addr}{xs:List (K×Value)}{R:Result->Shared->Prop}(hh:A.in1.handled=none)(P2:l≠I)(T9:S≠I)(hSl:S≠l)(hk:∀ x∈xs,knd.is x.1 x.2=true/\x.2.scannable=true)(hz:xs.length<=1000):
  ∀ (k i:Nat) (s:Shared) (o:Obj),xs.length-i=k->i<=xs.length->s.heap.IsListIter I l i->s.heap.IsList l (xs.map (·.2)).toArray->s.heap.get? S=some o->ba knd o ((xs.take i).foldl cj [])->
   (∀ h' tk o',h'.get? S=some o'->ba knd o' (xs.foldl cj [])->(∀ b o,b≠S->b≠I->s.heap.get? b=some o->h'.get? b=some o)->R (.ok (.ret .none)) {s with heap:=h',toks:=tk})->
   codeAny MP A (.builtin "set.update.loop" ⟨[.ref S, .ref I],[]⟩) R s
 |0,i,s,o,hki,hi,QE,hl,hS,hW,hR=>by
  have TK:i=xs.length:=sZ hki hi;subst TK;refine Mv PyProof.Rows.F.entry_set_update_loop ?_;refine aa (LM MO _) ?_;show wpAny _ A.in1 (pyNext (.ref I)>>=_) _ _ s;refine Kx (wpAny_pyNext_list_end hh QE hl (by simp) fun h' he'=>?_);show wpAny _ A.in1 (ret Value.none) _ _ _;rw[Lk] at hW;exact KC (hR h' s.toks o (he' S o T9 hS) hW fun b o _ hb e=>he' b o hb e)
 |k+1,i,s,o,hki,hi,QE,hl,hS,hW,hR=>by
  have PU:i<xs.length:=sJ hki;refine Mv PyProof.Rows.F.entry_set_update_loop ?_;refine aa (LM MO _) ?_;show wpAny _ A.in1 (pyNext (.ref I)>>=_) _ _ s;refine Kx (wpAny_pyNext_list_item QE hl (x:=xs[i].2) (by simp[PU]) fun h' Ti S7=>?_);obtain⟨RE,VH⟩:=hk xs[i] (M5 PU);show wpAny _ A.in1 (holding [xs[i].2] (setAdd S xs[i].2)>>=_) _ _ _;refine Kx (Li ?_);unfold setAdd;refine Li (Kx (knd.pyHash RE ?_));have P9:((xs.take i).foldl cj []).length+1<scanBound:=by
   have:=jK (xs.take i) [];rw[Mr,List.length_nil] at this;unfold scanBound;exact L4 [_,_,_,_] (.a (.a V2 W1) W1) (.n 4096) 1 V0 (.n 1000) 1 V1 V0 1 V2 (.a W0 V3) 1 V3 V1 rfl hz hi this (OO _ _)
  have RW:h'.get? S=some o:=S7.extBut S o T9 hS;have hl':h'.IsList l (xs.map (·.2)).toArray:=hl.extBut S7.extBut P2;have Ra:(xs.take (i+1)).foldl cj []=cj ((xs.take i).foldl cj []) xs[i]:=by
   exact aa Mm (aa (KJ PU) (aa (NL _) (aa NQ rfl)))
  have Xe:∀ (h2:Heap) (Sm:Nat),(∀ b o,b≠S->b≠I->h'.get? b=some o->h2.get? b=some o)->∀ h3 tk o',h3.get? S=some o'->ba knd o' (xs.foldl cj [])->(∀ b o,b≠S->b≠I->h2.get? b=some o->h3.get? b=some o)->R (.ok (.ret .none)) {s with heap:=h3,toks:=tk}:=
   fun h2 Sm hk2 h3 tk o' a1 a2 a3=>hR h3 tk o' a1 a2 fun b o UK Ub e=>a3 b o UK Ub (hk2 b o UK Ub (S7.extBut b o Ub e))
  refine pJ (s:={s with heap:=h',toks:=s.toks+1}) RE VH RW hW P9 (fun R7=>?_) fun Rk h2 o2 Q3 ho2 UI=>?_
  ·refine KC ⟨M4 MO _,iS hh P2 T9 hSl hk hz k (i+1) {s with heap:=h',toks:=s.toks+1} o (sP hki) PU Ti hl' RW ?_ (Xe h' 0 fun _ _ _ _ e=>e)⟩
   exact aa Ra (aa (wk R7) hW)
  ·refine KC ⟨M4 MO _,iS hh P2 T9 hSl hk hz k (i+1) {s with heap:=h2,toks:=s.toks+1} o2 (sP hki) PU (Ti.at fun o e=>?_) (hl'.at fun o e=>?_) ho2 ?_ (Xe h2 0 fun b o hb _ e=>?_)⟩
   ·refine aa (Q3.2 I T9.symm) ?_;exact e
   ·refine aa (Q3.2 l hSl.symm) ?_;exact e
   ·exact aa Ra (aa (wj Rk) UI)
   ·refine aa (Q3.2 b hb) ?_;exact e
theorem vk(a:Value)(h:∀ led:Bool,(w.params.followText "set-order"=false->led=true)->Q₁ (.ref s.heap.objs.size) {s with heap:=s.heap.push {cls:= .type "set",dict:=none,data:= .set #[] 0 (.fresh 0 0 led)}}):
  codeAny MP A (.call (.builtin "set.__new__") ⟨[.type "set",a],[]⟩) (wants Q₁ E) s:=by
 refine NN ?_;show wpAny _ A.in1 (do checkBuiltinCall "set.__new__" ⟨[.type "set",a],[]⟩;again (.builtin "set.__new__" ⟨[.type "set",a],[]⟩)) _ _ s;refine Kx (Nf (PySem.F.newCall_set_1 a) (KC ⟨M4 PySem.F.plain_set_new _,Mv PySem.F.entry_set_new ?_⟩));refine aa (LM PySem.F.plain_set_new _) ?_;unfold Builtin.«set.__new__» Builtin.Frozenset.newClass;have VI:=sub_set_self;obtain⟨hp,g,d,tk,os⟩:=s;dsimp only
 wp_walk
 refine MT (KC ?_);dsimp only;simp only[newObj];refine Kx (wpAny_alloc (KC ?_));refine KC (h _ fun e=>?_);show (!w.params.followText "set-order")=true;exact aa e rfl
variable{h₀:Heap}{L:Addr}{m:X5}{news:X4}
theorem rS{l:Addr}{xs:List (K×Value)}{Q:X6}(hh:A.handled=none)(hl:s.heap.IsList l (xs.map (·.2)).toArray)(hk:∀ x∈xs,knd.is x.1 x.2=true/\x.2.scannable=true)(hz:xs.length<=1000)
  (h:∀ (h':Heap) (tk:Nat) o,h'.get? s.heap.objs.size=some o->ba knd o (xs.foldl cj [])->(∀ b o,b<s.heap.objs.size->s.heap.get? b=some o->h'.get? b=some o)->Q (.ref s.heap.objs.size) {s with heap:=h',toks:=tk}):
  wpAny MP A (call (.type "set") [.ref l]) Q E s:=by
 obtain⟨c,tl,hmro⟩:=MQ.mro;have hmade:=MQ.made;have VI:=MQ.sub;refine OJ (NN ?_);show wpAny _ _ (callAny (.type "set") _) _ _ _;refine KC ⟨Code.quiet_builtin _ (by decide+kernel),Mv PySem.F.entry_type_call ?_⟩;refine aa (Around.under_plain (weight_type_call_type "set" [.ref l] []) rfl) ?_;have h1:=MQ.notType;have h2:=MQ.canCreate;have hct:=PySem.F.typeCall_set_1 (.ref l)
 repeat (any_goals (first|assumption|wp_step))
 refine codeAny_mono (vk (.ref l) (E:=E) (Q₁:=fun obj PZ=>fJ (fun(led:Bool)=>(w.params.followText "set-order"=false->led=true)) (fun _=>obj=.ref s.heap.objs.size) (fun led=>PZ={s with heap:=s.heap.push {cls:= .type "set",dict:=none,data:= .set #[] 0 (.fresh 0 0 led)}})) fun led Ri=>⟨led,Ri,rfl,rfl⟩) fun r PZ hr=>?_
 cases r with
 |error _=>exact hr
 |ok f=>cases f with
  |next=>exact hr.elim
  |brk=>exact hr.elim
  |cont=>exact hr.elim
  |ret obj=>
  obtain⟨led,Ri,e1,e2⟩:=hr;subst e1 e2;generalize ho:({cls:= .type "set",dict:=none,data:= .set #[] 0 (.fresh 0 0 led)}:Obj)=so;revert so;refine wrap ?_;intro so ho;have Uk:so.isFreed=false:=ae ho rfl;have QU:so.cls=.type "set":=by exact ae ho rfl
  have hW0:ba knd so []:=ae ho (lN Ri);have hS:(s.heap.push so).get? s.heap.objs.size=some so:=La _ Uk;have hT:Shared.TypeIs {s with heap:=s.heap.push so} (.ref s.heap.objs.size) "set":=⟨_,hS,QU⟩;have hli:=MQ.init.lookup;have hbi:=MQ.init.bind (.ref s.heap.objs.size);subst ho
  repeat (any_goals (first|assumption|wp_step))
  refine codeAny_mono (OG (R:=wants (fun r QS=>r=.none/\gR (fun h' tk o=>QS={s with heap:=h',toks:=tk}) (fun h' _ o=>h'.get? s.heap.objs.size=some o) (fun _ _ o=>ba knd o (xs.foldl cj [])) (fun h' _ o=>∀ b o,b<s.heap.objs.size->s.heap.get? b=some o->h'.get? b=some o)) E) MQ.init.plain PySem.F.entry_set_init (check_set_init_1 hT ?inner)) fun SK QS WA=>?outer
  case outer=>
   cases SK with
   |error _=>exact WA
   |ok f=>cases f with
    |next=>exact WA.elim
    |brk=>exact WA.elim
    |cont=>exact WA.elim
    |ret _=>
    obtain⟨e1,h',tk,o,e2,a1,a2,a3⟩:=WA;subst e1 e2
    repeat (any_goals (first|assumption|wp_step))
    exact h _ _ o a1 a2 a3
  case inner=>
   obtain⟨ol,R0,We,nl,Qy⟩:=id hl;obtain⟨ocls,odict,odata,oslots⟩:=ol;simp only at We Qy;subst We Qy;have hol':=KL (h:=s.heap) ({cls:= .type "set",dict:=none,data:= .set #[] 0 (.fresh 0 0 led)}:Obj) R0;have hsls:=PySem.F.sub_list_set;have hslf:=PySem.F.sub_list_frozenset;have RP:(Value.type "list"==Value.type "dict")=false:=by decide
   have S3:(s.heap.push {cls:= .type "set",dict:=none,data:= .set #[] 0 (.fresh 0 0 led)}).IsList l (xs.map (·.2)).toArray:=⟨_,hol',rfl,nl,rfl⟩;unfold Builtin.«set.__init__» noKeywords Builtin.Frozenset.updateFrom;generalize hPI:pyIter=PI;revert PI;refine wrap ?_;intro PI hPI
   wp_walk
   subst hPI;refine wpAny_pyIter_list S3 ?_;refine Kx (wpAny_runValue ?_);have hlS:l<s.heap.objs.size:=KO R0;generalize hso:({cls:= .type "set",dict:=none,data:= .set #[] 0 (.fresh 0 0 led)}:Obj)=so at Uk QU hW0 hS hT S3⊢;revert so;refine wrap ?_;intro so hso Uk QU hW0 hS hT S3;have Qf:(s.heap.push so).objs.size=s.heap.objs.size+1:=LZ ..;refine iS (by simp[hh]) ?n1 ?n2 ?n3 hk hz xs.length 0 _ so (s0) (K0 _) ⟨_,La _ rfl,rfl,rfl⟩ (S3.push _) (KL _ hS) hW0 ?hR
   case n1=>refine aa Qf ?_;exact K6 (LG hlS)
   case n2=>refine aa Qf ?_;exact K6 (LP _)
   case n3=>exact Mh hlS
   case hR=>
    intro h' tk o' a1 a2 a3;show wpAny _ _ _ _ _ _;refine KC ?_;show wpAny _ _ (ret Value.none) _ _ _;refine KC ⟨rfl,h',tk,o',rfl,a1,a2,fun b o hb e=>?_⟩;refine a3 b o (K6 hb) ?_ (KL _ (KL _ e));exact aa Qf (K6 (LG hb))
end
section
variable{c:Fx}{E:X6}{m:X5}{n pre post:X4}{J:ad Value}{K:ad Flow}{U:ad Unit}{r:Yb}{env:Env}
theorem GT{y:Str}{xp p:Pos}{e:X7}{T:String}(e0:nsIn (am w.params) mainGlobals y=some none)(hv:bootBuiltins y=some (.type T))(hn:y≠"__name__")(h:Tr c E m n (eval e c.env) (kT c E (fun v=>call (.type T) [v]) J))
  (he:starEach [e] c.env=[(false,eval e c.env)]:=by rfl) (hx:c.env.kindOf y=some .globalImplicit:=by rfl) (hd:(y==("__debug__":Str))=false:=by decide):Tr c E m n (eval (.Call (.Name y xp) [e] [] p) c.env) J:= .mk fun s l=>
 LB rfl (c6 ((HK (J:=fun v m' n'=>v=.type T/\m'=m/\n'=n) e0 hv hn ⟨rfl,rfl,rfl⟩ hx hd).go s l) fun _ s' _ _ l' ⟨e1,e2,e3⟩=>by
  subst e1 e2 e3;have z:wpAny MP c.A (spliced (backTo p (starEach [e] c.env))) (fun vs PZ=>wpAny MP c.A (call (.type T) vs) (fun v s'=>bG (fun m' n'=>ax c s' m' n') (fun m' n'=>J v m' n')) E PZ) E s':=Ll (F0 l' h fun _ s1 _ _ l1 q=>Lz (q.go s1 l1)) he;rw[he] at z⊢;exact callWith_of (P:=fun _=>True) rfl (fun h _=>⟨.machine, .inr (.inl rfl), .now⟩) (evalArgs_plain (K7 z (fun _ _ q=>⟨trivial,q⟩) fun _ _ x=>x)))
theorem I0{K':Type}[DecidableEq K'][BEq K'][LawfulBEq K']{knd:PySem.KeyKind PR w K'}{l:Addr}{vs:X8}{k:Nat}{xs:List (K'×Value)}(hm:(l,lO vs k)∈n)(e:vs=xs.map (·.2))(hk:∀ x∈xs,knd.is x.1 x.2=true/\x.2.scannable=true)(hz:xs.length<=1000)
  (h:∀ (S:Nat) o,ba knd o (xs.foldl cj [])->J (.ref S) m ((S,o)::n)):Tr c E m n (call (.type "set") [.ref l]) J:= .mk fun s l'=>by
 subst e;refine rS rfl ⟨_,(l'.N _ hm).1,rfl,k,rfl⟩ hk hz fun h' tk o a1 a2 a3=>⟨m,_,?_,h _ o a2⟩;have F':Fr c.h₀ c.L h' m:=by
  obtain⟨oL,es,ep,hL,rr⟩:=l'.F.ns;exact⟨⟨oL,es,ep,a3 _ _ (KO hL) hL,rr⟩,fun b x q=>a3 _ _ (KO (l'.F.keep b x q)) (l'.F.keep b x q),l'.F.above⟩
 have hL:c.L<s.heap.objs.size:=by obtain⟨oL,es,ep,hL,rr⟩:=l'.F.ns;exact KO hL
 have h0:c.h₀.get? s.heap.objs.size=none:=by
  cases hq:c.h₀.get? s.heap.objs.size with
  |none=>rfl
  |some o=>exact absurd (KO (l'.F.keep _ _ hq)) (Nq _)
 refine l'.to F' (fun p hp=>?_) (l'.D.fresh fun p hp=>KO (l'.N p hp).1) l'.G rfl;rcases KG.mp hp with rfl|hp
 ·exact⟨a1,Mh hL,h0⟩
 ·exact⟨a3 _ _ (KO (l'.N p hp).1) (l'.N p hp).1,(l'.N p hp).2⟩
theorem Kj{C fI k:Nat}{pos:X8}{kw:List (Str×Value)}{rest:X4}{P:Nat->Nat->X4->Prop}{Rs:Str->X4->Prop}(hm:makesIn (am w.params) C=true)(hi:findIn (am w.params) (.ref C) "__init__"=some (some (.ref fI)))(hf:isFn (am w.params) (.ref fI)=true)
  (d:∀ x dx:Nat,eE k fI ⟨.ref x::pos,kw⟩ ((x,instObj C dx)::(dx,dictOf [] 0)::n) (fun v n'=>v=.none/\P x dx n') Rs) (hk:k+1<=c.k) (hJ:∀ x dx n',P x dx n'->J (.ref x) m (n'++rest)) (hR:dC c m rest Rs E):
  Tr c E m (n++rest) (call (.ref C) pos kw) J:= .mk fun s l=>by
 refine call_cls l.F l.X l.N hm hi hf fun x dx h' F' N' l1 l2=>?_;have eA:c.A.under (.builtin "type.__call__" ⟨.ref C::pos,kw⟩)=({c with dp:=c.dp+1,un:=c.un+1,k:=c.k-1,g₀:=s.gens}:Fx).A:=by
  show ({handled:=none,depth:=c.dp+1,frames:=some (c.env::c.outer),guards:=pushGuards [] c.gd,units:=c.un+1}:Around)={handled:=none,depth:=c.dp+1,frames:=some (c.env::c.outer),guards:=c.gd,units:=c.un+1};refine aa (pushGuards_eq _ _) ?_
  cases c.gd<;>rfl
 refine aa eA ?_;have hd:=l.hd;have hu:=l.hu;have D':aw ((x,instObj C dx)::(dx,dictOf [] 0)::(n++rest)):=(l.D.fresh l1).fresh fun p hp=>by
  rcases KG.mp hp with rfl|hp
  ·exact l2
  ·exact Mg (l1 p hp) l2
 have l':ax ({c with dp:=c.dp+1,un:=c.un+1,k:=c.k-1,g₀:=s.gens}:Fx) {s with heap:=h'} m ((x,instObj C dx)::(dx,dictOf [] 0)::(n++rest)):=
  ⟨l.B,l.X,l.T,l.hk,by show c.dp+1+(c.k-1)<_;exact ES hk hd,by show c.un+1+20*(c.k-1)<_;exact ET hk hu,F',N',D',⟨l.G.1,fun _=>rfl⟩,l.O⟩
 refine codeAny_mono (d x dx {c with dp:=c.dp+1,un:=c.un+1,k:=c.k-1,g₀:=s.gens} E m rest (fun v m' n'=>v=.none/\J (.ref x) m' n') (by show k<=c.k-1;exact sI hk) (fun v n' hv=>⟨hv.1,hJ x dx n' hv.2⟩) hR _ l') fun r s' hr=>?_
 cases r with
 |error _=>exact hr
 |ok f=>cases f with
  |next=>exact hr.elim
  |brk=>exact hr.elim
  |cont=>exact hr.elim
  |ret _=>
  obtain⟨m',n',l2,e1,q⟩:=hr;exact⟨e1,m',n',⟨l2.B,l2.X,l2.T,l2.hk,hd,hu,l2.F,l2.N,l2.D,⟨l2.G.1,fun h=>absurd h (pE hk)⟩,l2.O⟩,q⟩
def oh(xs:List (Str×Value))(Yt ql k:Nat)(x dx:Nat)(n':X4):Prop:=
 xr (fun(data decl dl YH ns nl pm Yn Yu:Nat) (aC po:Obj) (t:Nat->Tok) (tu tp:Tok)=>ba (PySem.strKind PR w) aC (xs.foldl cj [])) (fun _ _ _ _ _ _ _ _ _ _ po _ _ _=>po.IsDictOf (PySem.strKind PR w) ([]:List (Str×Value))) (fun _ _ _ _ _ _ pm _ _ _ _ _ _ _=>(pm==sysModules)=false) (fun data decl dl YH ns nl pm Yn Yu aC po t tu tp=>n'=[(Yn,listOf [Value.bool false].toArray 0),(pm,po),(nl,listOf #[] 0),(ns,listOf [Value.ref nl].toArray 1),(decl,listOf [Value.ref dl].toArray 0),(dl,listOf [Value.ref YH].toArray 0),(YH,bl (.str bq.1 tu) (.str bq.2 tp) 0),(Yu,aC),(data,listOf #[] 0),(x,instObj 150 dx),(dx,dictOf (aD ⟨x,dx,data,decl,ns,pm,Yn,0,Yt,Yu⟩ t .none false false) 17),(ql,lO (xs.map (·.2)) k)])
end
namespace INk
def Q(x dx Yt ql k:Nat)(xs:List (Str×Value)):Prop:=∀ (hk:∀ y∈xs,(PySem.strKind PR w).is y.1 y.2=true/\y.2.scannable=true) (hz1:xs.length<=1000) (hx0:xs≠[]),eE 1 67 ⟨[.ref x, .ref Yt],[(Yc "rewrite_prefixes", .bool true),(Yc "qname_aware_tags", .ref ql)]⟩ [(x,instObj 150 dx),(dx,dictOf [] 0),(ql,lO (xs.map (·.2)) k)] (fun v n'=>v=.none/\oh xs Yt ql k x dx n') eT
def P_(y:((Nat×Nat)×Nat)×(Nat×Nat)×(List (Str×Value))):Prop:=Q y.1.1.1 y.1.1.2 y.1.2 y.2.1.1 y.2.1.2 y.2.2
def y_:((Nat×Nat)×Nat)×(Nat×Nat)×(List (Str×Value)):=pk (inferInstance) P_
def x:Nat:=y_.1.1.1
def dx:Nat:=y_.1.1.2
def Yt:Nat:=y_.1.2
def ql:Nat:=y_.2.1.1
def k:Nat:=y_.2.1.2
def xs:List (Str×Value):=y_.2.2
theorem go:Q x dx Yt ql k xs:=by
 intro hk hz1 hx0;have hz:(xs.map (·.2)).length<=1000:=aa (KE _) hz1;have P2:(!(xs.map (·.2)).toArray.isEmpty)=true:=by cases h:xs with|nil=>exact absurd h hx0|cons _ _=>rfl
 generalize U6:xs.map (·.2)=vs at hz P2;revert vs;refine wrap ?_;intro vs U6 hz P2;refine' GG (binds:=[(Yc "self", .ref x),(Yc "write", .ref Yt),(Yc "with_comments", .bool false),(Yc "strip_text", .bool false),(Yc "rewrite_prefixes", .bool true),(Yc "qname_aware_tags", .ref ql),(Yc "qname_aware_attrs", .none),(Yc "exclude_attrs", .none),(Yc "exclude_tags", .none)]) (by k_is) (by k_is) ?k3 (by exact aZ rfl) (by rfl) (by rfl) (by rfl) (by decide) (by exact fun _ _ h=>h.elim) ?_
 case k3=>
  intro s X M A E Q hq;refine gD (env:=fun a=>if a=60 then some (BN w.params) else none) (fun a o e=>?_) hq (by kernel_rfl)
  split at e
  ·rename_i h
   cases e;subst h;exact X 60 _ (by k_is)
  ·cases e
 intro A₀ base dp un gd L outer h₀ os g₀ c E K hE hK;unfold oh at hK;rw[U6] at hK;replace U6:=U6.symm;refine Gv (FX rfl (FX rfl (Gl ⟨by k_is,by k_is,by k_is,by k_is,by k_get⟩ (by k_mem) (pre:=[_]) rfl (fun t=>⟨t,by k_put⟩) (fun _=>KA rfl) fun t0=>?_)));refine Gv (Gx (FY ⟨K0 _,fun data=>FX rfl (Gl ⟨by k_is,by k_is,by k_is,by k_is,by k_get⟩ (by k_mem) (pre:=[_,_]) rfl (fun t=>⟨t,by k_put⟩) (fun _=>KA rfl) fun t1=>?_)⟩));refine Gv (FX rfl (FX rfl (Gl ⟨by k_is,by k_is,by k_is,by k_is,by k_get⟩ (by k_mem) (pre:=[_,_]) rfl (fun t=>⟨t,by k_put⟩) (fun _=>KA rfl) fun t2=>?_)));refine Gv (FX rfl (FX rfl (Gl ⟨by k_is,by k_is,by k_is,by k_is,by k_get⟩ (by k_mem) (pre:=[_,_]) rfl (fun t=>⟨t,by k_put⟩) (fun _=>KA rfl) fun t3=>?_)));refine Gv (Hb (Gn (FX rfl (Hq (Gw (FX rfl (Gl ⟨by k_is,by k_is,by k_is,by k_is,by k_get⟩ (by k_mem) (pre:=[_,_]) rfl (fun t=>⟨t,by k_put⟩) (fun _=>KA rfl) fun t4=>?_)))))));refine Gv (Hb (Gn (FX rfl (Hq (Gw (FX rfl (Gl ⟨by k_is,by k_is,by k_is,by k_is,by k_get⟩ (by k_mem) (pre:=[_,_]) rfl (fun t=>⟨t,by k_put⟩) (fun _=>KA rfl) fun t5=>?_)))))));refine Gv (FX rfl (FX rfl (Gl ⟨by k_is,by k_is,by k_is,by k_is,by k_get⟩ (by k_mem) (pre:=[_,_]) rfl (fun t=>⟨t,by k_put⟩) (fun _=>KA rfl) fun t6=>?_)));refine Gk (Gn (FX rfl (HE (by k_mem) (by refine aa Lu ?_;exact KF hz (by decide)) ?_)));refine aa P2 ?_;refine Gv (GT (by k_is) (by boot_fast) (by decide) (FX rfl (I0 (knd:=PySem.strKind PR w) (by k_mem) U6 hk hz1 fun Yu aC hW=>FX rfl (Gl ⟨by k_is,by k_is,by k_is,by k_is,by k_get⟩ (by k_mem) (pre:=[_,_,_]) rfl (fun t=>⟨t,by k_put⟩) (fun _=>KA rfl) fun t7=>?_))));refine F6 ?_;refine Gk (Gn (FX rfl (Hq (Gv (Gw (FX rfl (Gl ⟨by k_is,by k_is,by k_is,by k_is,by k_get⟩ (by k_mem) (pre:=[_,_,_]) rfl (fun t=>⟨t,by k_put⟩) (fun _=>KA rfl) fun t8=>?_)))))));refine F6 ?_;refine Gv (Gx (FZ (Gx (FZ (GA (FZ (Gc fun tu=>FZ (Gc fun tp=>FY ⟨KA rfl,fun YH=>FY ⟨KA rfl,fun dl=>FY ⟨KA rfl,fun decl=>FX rfl (Gl ⟨by k_is,by k_is,by k_is,by k_is,by k_get⟩ (by k_mem) (pre:=[_,_,_,_,_,_]) rfl (fun t=>⟨t,by k_put⟩) (fun _=>KA rfl) fun t9=>?_)⟩⟩⟩))))))));refine Gv (Gx (FY ⟨K0 _,fun ns=>FX rfl (Gl ⟨by k_is,by k_is,by k_is,by k_is,by k_get⟩ (by k_mem) (pre:=[_,_,_,_,_,_,_]) rfl (fun t=>⟨t,by k_put⟩) (fun _=>KA rfl) fun t10=>?_)⟩));refine Gk (H9 (Gn (FX rfl (F9 (F6 ?_)))));refine' Ge (Ga (Gr ?own rfl ?own1 ?own2 (Gj ?own3 Lo Lg (Gq (FZ (Gx (FY ⟨K0 _,fun nl=>FY (Gs (pre:=[_]) (vs:=[]) rfl (K0 _) ?_)⟩)))))))
 case own1=>k_mem
 case own2=>k_mem
 case own=>exact⟨by k_is,by k_is,⟨_,by k_is,by k_is⟩,by k_get,by k_handed⟩
 case own3=>k_mem
 refine Gv (IE fun pm po VD Yw=>FX rfl (Gl ⟨by k_is,by k_is,by k_is,by k_is,by k_get⟩ (by k_mem) (pre:=[_,_,_,_,_,_,_,_,_]) rfl (fun t=>⟨t,by k_put⟩) (fun _=>KA rfl) fun t11=>?_));refine Gv (Gx (FZ (HA (FY ⟨KA rfl,fun Yn=>FX rfl (Gl ⟨by k_is,by k_is,by k_is,by k_is,by k_get⟩ (by k_mem) (pre:=[_,_,_,_,_,_,_,_,_,_]) rfl (fun t=>⟨t,by k_put⟩) (fun _=>KA rfl) fun t12=>?_)⟩))));refine Gv (Gw (FX rfl (Gl ⟨by k_is,by k_is,by k_is,by k_is,by k_get⟩ (by k_mem) (pre:=[_,_,_,_,_,_,_,_,_,_]) rfl (fun t=>⟨t,by k_put⟩) (fun _=>KA rfl) fun t13=>?_)));refine Gv (HA (FX rfl (Gl ⟨by k_is,by k_is,by k_is,by k_is,by k_get⟩ (by k_mem) (pre:=[_,_,_,_,_,_,_,_,_,_]) rfl (fun t=>⟨t,by k_put⟩) (fun _=>KA rfl) fun t14=>?_)));refine Gv (HA (FX rfl (Gl ⟨by k_is,by k_is,by k_is,by k_is,by k_get⟩ (by k_mem) (pre:=[_,_,_,_,_,_,_,_,_,_]) rfl (fun t=>⟨t,by k_put⟩) (fun _=>KA rfl) fun t15=>?_)));refine Gv (F7 fun ti=>FX rfl (Gl ⟨by k_is,by k_is,by k_is,by k_is,by k_get⟩ (by k_mem) (pre:=[_,_,_,_,_,_,_,_,_,_]) rfl (fun t=>⟨t,by k_put⟩) (fun _=>KA rfl) fun t16=>?_));refine F6 (hK _ _ _ _ (.refl _) ⟨rfl,data,decl,dl,YH,ns,nl,pm,Yn,Yu,aC,po,fun i=>([t0,t1,t2,t3,t4,t5,t6,t7,t8,t9,t10,t11,t12,t13,t14,t15,t16,ti]:List Nat).getD i 0,tu,tp,hW,VD,Yw,rfl⟩)
end INk
theorem zJ(x dx Yt ql k:Nat)(xs:List (Str×Value)):INk.Q x dx Yt ql k xs:=cT (P:=INk.P_) INk.go (((x,dx),Yt),((ql,k),xs))
theorem GD{k:Nat}{f:Addr}{as:Args}{n:X4}{P:Value->X4->Prop}{Rs:Str->X4->Prop}
  {name qual:Str} {params:Arguments} {body:Yb} {scope:Scope} {dV kV doc pm PV ct oc:Value} {an od:Option Addr} {RL:Array (Option Value)} {binds:List (Str×Value)}
  (ho:(am w.params).lookup f=some ⟨oc,od, .func (fnOf name qual params body scope dV kV doc pm an PV ct),RL⟩) (QZ:codeIn (am w.params) PV qual=true)
  (Qv:∀ s:Shared,(am w.params).In s.heap->BindsTo s (fnOf name qual params body scope dV kV doc pm an PV ct) as binds) (Rz:∀ y∈binds,scope.names.lookup y.1=some .local)
  (Q0:scope.isCoroutine=false) (QV:scope.isGenerator=false) (hk:scope.kind=.function) (P6:∀ x∈scope.names,x.2≠ .cell)
  (Ry:∀ PO Yp,Rs PO Yp->∀ q∈Yp,q.1∈n.map (·.1))
  (hb:∀ A₀ base dp un gd L outer h₀ os g₀,let c:Fx:=⟨A₀,base,k,dp,un,gd,qual,scope,L,f,PV,[],outer,h₀,os,g₀⟩;∀ E (K:ad Flow),jE Rs c E->PassesOwn MP c.A c.env E->(∀ fl m n' PP,PP.Sublist n'->P (cv fl) PP->K fl m n')->
   Tr c E (fun y=>binds.reverse.lookup y) n (execs body c.env) K):
  eE (k+1) f as n P Rs:=by
 intro c E m rest J Qz hJ hR s l;obtain⟨Qt,mg,mb,T⟩:=l.T;have hd:=l.hd;have hu:=l.hu;refine iC l.B l.F l.X l.N T rfl rfl l.hk (fun p hp=>Ky rest hp) ho QZ (by show c.dp<recursionLimit;exact iR hd) (Qv s (l.X.keeps l.F.keep)) Rz ?_ Q0 QV hk P6;intro g L' h₁ FG F' N' B' X' T' PU hg;have QJ:∀ p∈rest,p∈n++rest/\∀ q∈n,q.1≠p.1:=fun p hp=>⟨Kz _ hp,fun q hq=>l.D.apart q hq p hp⟩;have RA:∀ p∈rest,g.get? p.1=some p.2/\p.1≠c.L:=fun p hp=>⟨hg p (QJ p hp).1 (QJ p hp).2,(l.N p (QJ p hp).1).2.1⟩;have l0:ax (⟨c.A,c.base,k,c.dp+1,c.un+3,c.gd,qual,scope,L',f,PV,[],c.env::c.outer,g,c.os,s.gens⟩:Fx) {s with heap:=h₁,toks:=s.toks+binds.length} (fun y=>binds.reverse.lookup y) n:=
  ⟨B',X',⟨_,_,_,T'⟩,hk,tV Qz hd,vw Qz hu,F',N',l.D.left,⟨l.G.1,fun _=>rfl⟩,l.O⟩
 refine K7 (Tr.go (hb c.A c.base (c.dp+1) (c.un+3) c.gd L' (c.env::c.outer) g c.os s.gens _ (fun fl _ n'=>aM (fun PP=>PP.Sublist n') (fun PP=>P (cv fl) PP)) ?_ ?pas (fun _ _ _ PP a b=>⟨PP,a,b⟩)) _ l0) ?_ fun _ _ e=>e
 case pas=>passes_own
 ·exact @jE.mk _ _ _ _ _ _ _ hR B' FG RA Ry (fun p hp=>(N' p hp).2.2) rfl rfl rfl
 ·rintro fl s' ⟨m',n',l',q⟩
  cases fl<;>exact Hh l hJ QJ RA l' q rfl (pE Qz) fun v m' n' a b=>⟨m',n',a,b⟩
section
variable{c:Fx}{E:X6}{m:X5}{n:X4}{J:ad Value}{env:Env}
theorem JQ(h:∀ d:Nat,(d==sysModules)=false->J (.ref d) m ((d,dictOf [] 0)::n)):Tr c E m n (eval (.Dict [] [] p) env) J:= .mk fun _ l=>
 let ⟨_,_,_,t⟩:=l.T;wpAny_Dict_empty ⟨m,_,l.push _,h _ (l.F.notModules (modules_low t.nolimit))⟩
variable{K:ad Flow}{U:ad Unit}{r:Yb}{i j:Int}{t u:Tok}
theorem Jp(h:K .brk m n):Tr c E m n (execs (.Break p::r) env) K:= .mk fun _ l=>Lp (wpAny_Break ⟨m,n,l,h⟩)
theorem Jx(h:J (.bool (decide (i≥j))) m n):Tr c E m n (compareOp .GtE (.int i t) (.int j u)) J:= .mk fun _ l=>P.ge_int ⟨m,n,l,h⟩
theorem Hx(ha:i.natAbs<2^64)(h:∀ t',J (.int (i*j) t') m n):Tr c E m n (binaryOp .Mult (.int i t) (.int j u)) J:= .mk fun _ l=>P.mul_int ⟨m,n,l.tok,h _⟩ (IntMulOk.of_left (intBits_le ha))
theorem GF(hj:j≠0)(hz:j.natAbs<1073741824)(h:∀ t',J (.int (i.fdiv j) t') m n):Tr c E m n (binaryOp .FloorDiv (.int i t) (.int j u)) J:= .mk fun _ l=>PyProof.Rows.floordiv_int hj ⟨m,n,l.tok,h _⟩ (.inl (PyProof.noPylong_small hz))
theorem GO(hj:j≠0)(h:∀ t',J (.int (i.fmod j) t') m n):Tr c E m n (binaryOp .Mod (.int i t) (.int j u)) J:= .mk fun _ l=>PyProof.Rows.mod_int hj ⟨m,n,l.tok,h _⟩
theorem H2(hj:0<=j)(SD:j<=1000000)(ha:i.natAbs<2^64)(h:∀ t',J (.int (i^j.toNat) t') m n):Tr c E m n (binaryOp .Pow (.int i t) (.int j u)) J:= .mk fun _ l=>PyProof.Rows.pow_int_small hj SD ha ⟨m,n,l.tok,h _⟩
theorem Iz(h:∀ t',J (.int (Builtin.bitAnd i j) t') m n):Tr c E m n (binaryOp .BitAnd (.int i t) (.int j u)) J:= .mk fun _ l=>PyProof.Rows.and_int ⟨m,n,l.tok,h _⟩
theorem J7(h:∀ t',J (.int (Builtin.bitOr i j) t') m n):Tr c E m n (binaryOp .BitOr (.int i t) (.int j u)) J:= .mk fun _ l=>PyProof.Rows.or_int ⟨m,n,l.tok,h _⟩
theorem Kw(h:(am w.params).In c.h₀->Tr c E m n p K):Tr c E m n p K:= .mk fun s l=>(h l.X).go s l
end
theorem wq(hj:j<8):∃ t,[Value.int 4 a, .int 4 b, .int 4 d, .int 6 e', .int 2 f, .int 10 g, .int 1 h, .int 12 i][j]?=some (.int ([4,4,4,6,2,10,1,12].getD j 0) t):=by
 have e:∀ ks:X9,∀ ts:List Tok,ks.length=8->ts.length=8->∃ t,(List.zipWith Value.int ks ts)[j]?=some (.int (ks.getD j 0) t):=fun ks ts h1 h2=>by
  exact aa List.getElem?_zipWith (aa KR (aa (KJ (h1▸hj)) (aa (KJ (h2▸hj)) ⟨_,rfl⟩)))
 exact e [4,4,4,6,2,10,1,12] [a,b,d,e',f,g,h,i] rfl rfl
noncomputable def el (k:Int):Int:=if 15<k then[4,4,4,6,2,10,1,12].getD (k-16).toNat 0 else k
theorem wF(h0:0<=k)(h1:k<24):(el k).natAbs<2^64:=by
 unfold el
 split
 ·have:∀ j,j<8->(([4,4,4,6,2,10,1,12]:X9).getD j 0).natAbs<2^64:=by decide
  exact this _ (t8 h1)
 ·omega
theorem zK(part:Int)(tk:Tok):dT 3 229 [.int part tk] (rC (eZ part)):=by
 refine' GD (binds:=[(Yc "part", .int part tk)]) (by k_is) (by k_is) (by exact fun s X=>LH rfl) (by exact aZ rfl) (by rfl) (by rfl) (by rfl) (by decide) (by exact fun _ _ h=>h.elim) ?_;intro A₀ base dp un gd L outer h₀ os g₀ c E K hE QP hK;have UN:0<=part.fmod 24:=Int.fmod_nonneg_of_pos part (by decide);have hk1:part.fmod 24<24:=Int.fmod_lt_of_pos part (by decide);have hP:eZ part=el (part.fmod 24)*4096+(if 1<(part.fdiv 98304).fmod 4 then Builtin.bitOr ((part.fdiv 24).fmod 4096) 438 else(part.fdiv 24).fmod 4096):=rfl;rw[hP] at hK;refine Gf (F8 (FX rfl (F7 fun t1=>GO (by decide) fun t2=>?_)));clear hP;generalize part.fmod 24=k at UN hk1 hK⊢;revert k;refine wrap ?_;intro k UN hk1 hK;show Tr _ _ _ _ _ _;generalize hm:(fun y=>if y=Yc "kind" then some (Value.int k t2) else _)=m1;revert m1;refine wrap ?_;intro m1 hm;have p1:m1 (Yc "part")=some (.int part tk):=ae hm rfl;have k1:m1 (Yc "kind")=some (.int k t2):=ae hm rfl;clear hm;refine Gu (GH (K₁:=fun fl m n=>fl=.next/\n=[]/\m (Yc "part")=some (.int part tk)/\∃ t,m (Yc "kind")=some (.int (el k) t)) ?s2 ?r2)
 case s2=>
  intro K2 hK2;refine GV (Gb (FX k1 (F7 fun t3=>HC (F9 ?_))))
  by_cases h:15<k
  ·refine aa (KV h) ?_
   have e:el k=[4,4,4,6,2,10,1,12].getD (k-16).toNat 0:=KW h;rw[e] at hK2;refine Gf (Gg (GA (FZ (F7 fun a1=>FZ (F7 fun a2=>FZ (F7 fun a3=>FZ (F7 fun a4=>FZ (F7 fun a5=>FZ (F7 fun a6=>FZ (F7 fun a7=>FZ (F7 fun a8=>FY ⟨KA rfl,fun T=>F8 (FX k1 (F7 fun t4=>Hm fun t5=>?_))⟩)))))))))));obtain⟨t6,h6⟩:=wq (a:=a1) (b:=a2) (d:=a3) (e':=a4) (f:=a5) (g:=a6) (h:=a7) (i:=a8) (j:=(k-16).toNat) (t8 hk1);exact Hj (.head _) (show k-16=((k-16).toNat:Int) from Ff h) h6 (KA rfl) (GW (Lq _ _) (F6 (hK2 _ _ _ ⟨rfl,rfl,p1,t6,rfl⟩)))
  ·refine aa (KY h) ?_
   have e:el k=k:=KM h;rw[e] at hK2;exact F6 (hK2 _ _ _ ⟨rfl,rfl,p1,t2,k1⟩)
 case r2=>
  rintro _ m _ ⟨rfl,rfl,p2,t,k2⟩;have hkz:=wF UN hk1;generalize el k=kk at hkz k2 hK;revert kk;refine wrap ?_;intro kk hkz k2 hK;clear p1 k1 UN hk1;refine Gf (F8 (F8 (FX p2 (F7 fun t3=>GF (by decide) (by decide) fun t4=>F7 fun t5=>GO (by decide) fun t6=>?_))));generalize (part.fdiv 24).fmod 4096=r at hK⊢;revert r;refine wrap ?_;intro r hK;show Tr _ _ _ _ _ _;generalize hm:(fun y=>if y=Yc "rights" then some (Value.int r t6) else m y)=m3;revert m3;refine wrap ?_;intro m3 hm;have p3:m3 (Yc "part")=some (.int part tk):=ae hm p2;have k3:m3 (Yc "kind")=some (.int kk t):=ae hm k2;have r3:m3 (Yc "rights")=some (.int r t6):=ae hm rfl;clear hm p2 k2;refine Gu (GH (K₁:=fun fl m n=>fl=.next/\n=[]/\m (Yc "kind")=some (.int kk t)/\∃ t,m (Yc "rights")=some (.int (if 1<(part.fdiv 98304).fmod 4 then Builtin.bitOr r 438 else r) t)) ?s4 ?r4)
  case s4=>
   intro K2 hK2;refine GV (Gb (F8 (F8 (FX p3 (F7 fun t7=>GF (by decide) (by decide) fun t8=>F7 fun t9=>GO (by decide) fun u1=>F7 fun u2=>HC (F9 ?_))))))
   by_cases h:1<(part.fdiv 98304).fmod 4
   ·refine aa (KV h) ?_
    rw[KW h] at hK2;exact Gf (F8 (FX r3 (F7 fun u3=>J7 fun u4=>F6 (hK2 _ _ _ ⟨rfl,rfl,k3,u4,rfl⟩))))
   ·refine aa (KY h) ?_
    rw[KM h] at hK2;exact F6 (hK2 _ _ _ ⟨rfl,rfl,k3,t6,r3⟩)
  case r4=>
   rintro _ m _ ⟨rfl,rfl,k4,t7,r4⟩;exact GM (F8 (F8 (FX k4 (F7 fun u1=>Hx hkz fun u2=>FX r4 (Hd fun u3=>hK _ _ _ [] (Mw _) ⟨⟨u3,rfl⟩,rfl⟩)))))
theorem oD(x:Str)(tk:Tok)(hx:x.length<=1000):dT 2 236 [.str x tk] (fe (av x)):=by
 refine' GD (binds:=[(Yc "row", .str x tk)]) (by k_is) (by k_is) (by exact fun s X=>LH rfl) (by exact aZ rfl) (by rfl) (by rfl) (by rfl) (by decide) (by exact fun _ _ h=>h.elim) ?_;intro A₀ base dp un gd L outer h₀ os g₀ c E K hE QP hK;have h1:=LY x none (some 1);have h2:=LY x (some 1) none;have U5:x.length<=100000:=KF hx (by decide);refine GM (F8 (F8 (F8 (Gc fun t1=>HO (FX rfl ⟨x,tk,rfl,U5,fun t2=>Gm ?a1 ?a2 fun t3=>Gc fun t4=>Gm ?a3 ?a4 fun t5=>HH (FX rfl ⟨x,tk,rfl,U5,fun t6=>Gm ?a5 ?a6 fun t7=>hK _ _ _ [] (Mw _) ⟨⟨t7,rfl⟩,rfl⟩⟩)⟩)))))
 case a1=>exact KA rfl
 case a2=>exact L2 [_,_] V1 (.n 1000000) 1 V0 (.n 1000) 1 V1 V0 rfl hx h1
 case a3=>refine aa (KB _ _) ?_;show 3+_<=_;exact L2 [_,_] (.a (.n 3) V1) (.n 1000000) 1 V0 (.n 1000) 1 V1 V0 rfl hx h1
 case a4=>exact KA rfl
 case a5=>refine aa (KB _ _) (aa (KB _ _) ?_);show 3+_+1<=_;exact L2 [_,_] (.a (.a (.n 3) V1) W1) (.n 1000000) 1 V0 (.n 1000) 1 V1 V0 rfl hx h1
 case a6=>exact L2 [_,_] V1 (.n 1000000) 1 V0 (.n 1000) 1 V1 V0 rfl hx h2
theorem tL(i:Int)(tk:Tok):dT 2 175 [.int i tk] (rC (Builtin.bitAnd i 61440)):=by
 refine' GD (binds:=[(Yc "mode", .int i tk)]) (by k_is) (by k_is) (by exact fun s X=>LH rfl) (by exact aZ rfl) (by rfl) (by rfl) (by rfl) (by decide) (by exact fun _ _ h=>h.elim) ?_;intro A₀ base dp un gd L outer h₀ os g₀ c E K hE QP hK;exact GM (F8 (FX rfl (F7 fun t1=>Iz fun t2=>hK _ _ _ [] (Mw _) ⟨⟨t2,rfl⟩,rfl⟩)))
theorem yb(i:Int)(tk:Tok):dT 3 182 [.int i tk] (fun v=>v=.bool (Builtin.bitAnd i 61440==16384)):=by
 refine' GD (binds:=[(Yc "mode", .int i tk)]) (by k_is) (by k_is) (by exact fun s X=>LH rfl) (by exact aZ rfl) (by rfl) (by rfl) (by rfl) (by decide) (by exact fun _ _ h=>h.elim) ?_;intro A₀ base dp un gd L outer h₀ os g₀ c E K hE QP hK;refine GM (IB (GE (f:=175) (fun J h=>Gz (by k_is) h) (by k_is) (FX rfl ((tL i tk).to (by show 2<=2;decide) fun v hv=>?_))));obtain⟨t,rfl⟩:=hv;exact Gz (by k_is) (GY (hK _ _ _ [] (Mw _) ⟨rfl,rfl⟩))
section
variable{c:Fx}{E:X6}{m:X5}{n:X4}{K:ad Flow}{test:X7}{body orelse:Yb}{pos:Pos}
def zE(Inv:X5->X4->Prop)(K:ad Flow):ad Flow:=fun fl m' n'=>match fl with
 | .next| .cont=>Inv m' n'
 | .brk=>K .next m' n'
 | .ret v=>K (.ret v) m' n'
theorem Iw(Inv:Nat->X5->X4->Prop)(hE:PassesOwn MP c.A c.env E)
  (turn:∀ j m n,Inv j m n->Tr c E m n (isTrue test c.env (eval test c.env)) fun b m n=>Br b (aM (fun j'=>j'<j) (fun j'=>Tr c E m n (execs body c.env) (zE (Inv j') K))) (Tr c E m n (execs orelse c.env) K))
  (N:Nat) (h0:Inv N m n):Tr c E m n (exec (.While test body orelse pos) c.env) K:= .mk fun s l=>by
 refine whl_start N ?_
 induction N using Nat.strongRecOn generalizing m n s with
 |ind N ih=>
  refine whl_turn (k:=N) hE (c6 ((turn N m n h0).go s l) fun b s2 m2 n2 l2 q=>?_)
  cases b with
  |false=>exact WhlIf.no rfl (q.go s2 l2)
  |true=>
   obtain⟨j',hj,q⟩:=q;refine WhlIf.yes rfl (F0 l2 q fun fl s3 m3 n3 l3 q3=>?_)
   match fl,q3 with
   | .next,q3=>exact ih j' hj q3 s3 l3
   | .cont,q3=>exact ih j' hj q3 s3 l3
   | .brk,q3=>exact⟨m3,n3,l3,q3⟩
   | .ret v,q3=>exact⟨m3,n3,l3,q3⟩
abbrev fK(α:Type):=Except (Str×List Str) α
def fl(a:AW):fK AW:=match aq a with| .ok a'=> .ok a'| .error e=> .error (e,a.Yh)
noncomputable def bp {α β:Type} (r:fK α) (f:α->fK β):fK β:=match r with| .ok a=>f a| .error e=> .error e
def ao(j:Nat):Str:=Txt.item (Yc "rt") (if (1:Int)<(j:Nat) then 1 else(j:Nat))
def n4(row:Str):Str:=Txt.slice (av row) none (some 4)
def n5(row:Str):Str:=Txt.slice (av row) none (some 5)
def n9(row:Str):Str:=Txt.slice (av row) (some 5) none
def bx(mode:Int):Bool:=Builtin.bitAnd mode 61440==16384
def bR(R4:Str->Bool)(u tg:Str)(a:AW):AW:={(if R4 (ah u tg) then eb u tg a else im u tg a) with data:=some (n5 u,n9 u)}
abbrev gc:=AW×List (Str×Str)
def cQ(ut:Str×Str)(a:AW):fK AW:=bp (fl a) fun a=> .ok (iF ut.1 ut.2 a)
def bM(R4:Str->Bool)(j:Nat)(Yv mode:Int)(row:Str)(st:gc):fK gc:=
 if Yv=0 then bp (fl st.1) fun a=> .ok (uW (n4 row) row a,st.2)
 else if Yv=1/\1<st.2.length then bp (cQ (st.2.getLast?.getD (⟨#[]⟩,⟨#[]⟩)) st.1) fun a=> .ok (a,st.2.dropLast)
 else bp (fl st.1) fun a=>if bx mode then .ok (bR R4 row (ao j) a,st.2++[(row,ao j)]) else bp (cQ (row,ao j) (bR R4 row (ao j) a)) fun a=> .ok (a,st.2)
def b9(R4:Str->Bool)(Yi ag:X9)(aA:List Str)(st:gc):Nat->fK gc
 |0=> .ok st
 |j+1=>bp (b9 R4 Yi ag aA st j) fun st=>bM R4 j (Yi.getD j 0) (ag.getD j 0) (aA.getD j ⟨#[]⟩) st
def ck:List (Str×Str)->AW->fK AW
 |[],a=> .ok a
 |ut::r,a=>bp (cQ ut a) (ck r)
def dQ(R4:Str->Bool)(Yi ag:X9)(aA:List Str)(a:AW):fK AW:=bp (b9 R4 Yi ag aA (a,[]) aA.length) fun st=>ck st.2.reverse st.1
structure mi(R4:Str->Bool)(j:Nat)(Yv mode:Int)(row:Str)(st:gc):Prop where
 good:eD st.1
 rl:row.length<=100
 len:st.2.length<=1000
 en:Yv≠0->Yv=1/\1<st.2.length->∀ a,aq st.1=.ok a->iX a (st.2.getLast?.getD (⟨#[]⟩,⟨#[]⟩)).1 (st.2.getLast?.getD (⟨#[]⟩,⟨#[]⟩)).2
 op:Yv≠0->¬(Yv=1/\1<st.2.length)->∀ a,aq st.1=.ok a->a.decl.length<=100000/\(R4 (ah row (ao j))=false->et a a.decl row (ao j) ⟨#[]⟩ ⟨#[]⟩)/\(bx mode=false->eD (bR R4 row (ao j) a)/\∀ b,aq (bR R4 row (ao j) a)=.ok b->iX b row (ao j))
def fy:List (Str×Str)->AW->Prop
 |[],_=>True
 |ut::r,a=>eD a/\∀ a',aq a=.ok a'->iX a' ut.1 ut.2/\fy r (iF ut.1 ut.2 a')
theorem jA{R4:Str->Bool}{Yi ag:X9}{aA:List Str}{st:gc}{e:Str×List Str}{j:Nat}(h:b9 R4 Yi ag aA st j=.error e):∀ k,j<=k->b9 R4 Yi ag aA st k=.error e
 |0,hk=>by rw[Nat.le_zero.mp hk] at h;exact h
 |k+1,hk=>by
  rcases M3 k j with q|q
  ·refine aa (show k+1=j from aS q hk) ?_;exact h
  ·show bp (b9 R4 Yi ag aA st k) _=_
   exact aa (jA h k q) rfl
def Ee(wa:aE)(R:X4)(r:fK AW)(PO:Str)(Yp:X4):Prop:=aM (fun PY=>r=.error (PO,PY)) (fun PY=>gQ (fun pg cg tb=>Yp=(wa.Yh,lO pg cg)::(123,tabObj tb)::R) (fun pg _ _=>StrsAre pg PY))
theorem vi{wa:aE}{R Yp:X4}{PY:List Str}(h:gQ (fun pg cg tb=>Yp=[(wa.Yh,lO pg cg),(123,tabObj tb)]) (fun pg _ _=>StrsAre pg PY)):gQ (fun pg cg tb=>Yp++R=(wa.Yh,lO pg cg)::(123,tabObj tb)::R) (fun pg _ _=>StrsAre pg PY):=by
 obtain⟨pg,cg,tb,rfl,h⟩:=h;exact⟨pg,cg,tb,rfl,h⟩
theorem kj{R Yp Z:X4}(h:∀ q∈R,q∈Z):∀ q∈Yp++R,q∈Yp∨q∈Z:=fun q hq=>(KK.mp hq).imp id (h q)
theorem dM(h:aq a=.ok a'):fl a=.ok a':=by unfold fl;exact aa h rfl
theorem fP(h:aq a=.error e):fl a=.error (e,a.Yh):=by unfold fl;exact aa h rfl
variable{α:Type}{L Y Z:List α}{t I b a:α}
theorem nR:(I::(L++(t::Y))).Perm (L++(t::I::Y)):=Ld.symm.trans ((List.Perm.swap t I Y).append_left L)
theorem pu:(L++(t::I::b::Y)).Perm (b::(L++(t::I::Y))):=by
 refine List.Perm.trans ?_ (Ld (l₁:=L));exact Lr L ((List.Perm.swap b I Y).cons t|>.trans (List.Perm.swap b t (I::Y)))
theorem AF:(a::(L++(t::Z))).Perm ((L++[t,a])++Z):=by
 exact aa (KQ _ _ _) nR
theorem AC{α:Type}{L R:List α}{r t i:α}:(r::i::(L++(t::R))).Perm (L++(t::i::(R++[r]))):=by
 refine((nR (I:=i) (L:=L) (t:=t) (Y:=R)).cons r).trans ?_;refine(LU (l₁:=[r]) (l₂:=L++(t::i::R))).trans ?_;exact aa (KQ _ _ _) (.refl _)
structure iY(W dl ml rl il:Nat)(m:X5):Prop where
 w:m (Yc "writer")=some (.ref W)
 d:m (Yc "deeds")=some (.ref dl)
 mo:m (Yc "modes")=some (.ref ml)
 r:m (Yc "rows")=some (.ref rl)
 i:m (Yc "inside")=some (.ref il)
end
theorem dr(h:IntsAre vs ns)(hj:j<ns.length):∃ t,vs[j]?=some (.int (ns.getD j 0) t):=by
 have hl:=h.length;obtain⟨t,e⟩:=IntsAre.int_at h j (vs[j]'(q1 hj hl)) (KJ _);exact⟨t,by exact aa (KJ (q1 hj hl)) (aa e rfl)⟩
theorem ro(h:StrsAre vs ys)(hj:j<ys.length):∃ t,vs[j]?=some (.str (ys.getD j ⟨#[]⟩) t):=by
 induction h generalizing j with
 |nil=>cases hj
 |cons y t _ ih=>
  cases j with
  |zero=>exact⟨t,rfl⟩
  |succ j=>exact ih (j:=j) (Om hj)
theorem nG(h:StrsAre vs (ys++[y])):bG (fun RM t=>vs=RM++[.str y t]) (fun RM _=>StrsAre RM ys):=by
 induction ys generalizing vs with
 |nil=>cases h with|cons _ t h=>cases h;exact⟨[],t,rfl, .nil⟩
 |cons z ys ih=>
  cases h with
  |cons _ t h=>
   obtain⟨RM,t',e,h'⟩:=ih h;exact⟨.str z t::RM,t',by refine aa e ?_;rfl, .cons _ _ h'⟩
theorem gS(h:rK r f=.ok b):aM (fun a=>r=.ok a) (fun a=>b=f a):=by
 cases r with
 |error e=>cases h
 |ok a=>cases h;exact⟨a,rfl,rfl⟩
theorem qo(h:x.length<=100):(av x).length<=100000:=by
 unfold av;have h1:=LY x none (some 1);have h2:=LY x (some 1) none;simp only[KB,show (Yc "k1_").length=3 from rfl,show (Yc ":").length=1 from rfl];exact L3 [_,_,_] (.a (.a (.a (.n 3) V1) W1) V2) (.n 100000) 2 V0 (.n 100) 1 V1 V0 1 V2 V0 rfl h h1 h2
theorem vY(wa:aE)(Qr:(wa.YB==sysModules)=false)(x:Wr)(a:AW)(hA:bB x a)(hG:eD a)(u tg:Str)(tk:Tok)(ak ca:Nat)(aC:Obj)(S:Str->Bool)(ks:Nat)(hS:aC.SetObjOf (PySem.strKind PR w) S ks)(SF:ks<=1000)(Rl:(ak==sysModules)=false)
  (hO:∀ a',aq a=.ok a'->a'.decl.length<=100000/\(S (ah u tg)=false->et a' a'.decl u tg ⟨#[]⟩ ⟨#[]⟩)):
  bD 8 120 [.ref wa.W, .str (ah u tg) tk, .ref ak] (x.led wa++[(wa.Yu,aC),(ak,dictOf [] ca)]) (fun v n'=>v=.none/\bV (fun x' a'=>aq a=.ok a') (fun x' a'=>bB x' (if S (ah u tg) then eb u tg a' else im u tg a')) (fun x' _=>n'=x'.led wa++[(wa.Yu,aC)])) (oo wa (aq a) a.Yh):=by
 cases h:S (ah u tg) with
 |true=>exact v0 wa Qr x a hA hG u tg tk ak ca aC S ks hS SF h Rl fun a' ha=>(hO a' ha).1
 |false=>exact vZ wa Qr x a hA hG u tg tk ak ca aC S ks hS SF h Rl (fun a' ha=>(hO a' ha).1) fun a' ha=>(hO a' ha).2 h
def vT(wa:aE)(S:Str->Bool)(Yi ag:X9)(aA:List Str)(a:AW)(R:X4)(tg il dl ml rl:Nat)(aC:Obj)(j:Nat)(m:X5)(n:X4):Prop:=
 rx (fun x st Q4 k G=>b9 S Yi ag aA (a,[]) j=.ok st) (fun x st _ _ _=>bB x st.1) (fun _ st Q4 _ _=>StrsAre Q4 (st.2.map fun ut=>ah ut.1 ut.2)) (fun x _ Q4 k G=>n.Perm (x.led wa++((tg,aC)::(il,lO Q4 k)::(R++G)))) (fun _ _ _ _ _=>iY wa.W dl ml rl il m)
structure xT(T:fK AW)(j:Nat)(ins:List (Str×Str))(a:AW):Prop where
 j:j=ins.length
 z:ins.length<=1000
 t:T=ck ins.reverse a
 d:fy ins.reverse a
 ok:∀ ut∈ins,PyData.strOk (ah ut.1 ut.2)=true
def Cb(wa:aE)(T:fK AW)(R:X4)(tg il dl ml rl:Nat)(aC:Obj)(j:Nat)(m:X5)(n:X4):Prop:=
 vR (fun x a ins Q4 k G=>xT T j ins a) (fun x a _ _ _ _=>bB x a) (fun _ _ ins Q4 _ _=>StrsAre Q4 (ins.map fun ut=>ah ut.1 ut.2)) (fun x _ _ Q4 k G=>n.Perm (x.led wa++((tg,aC)::(il,lO Q4 k)::(R++G)))) (fun _ _ _ _ _ _=>iY wa.W dl ml rl il m)
namespace TEk
def Q(wa:aE)(x:Wr)(a:AW)(Yi ag:X9)(aA:List Str)(aR Yo dm:X8)(kd km kr dl ml rl:Nat)(aC:Obj)(S:Str->Bool)(ks:Nat):Prop:=∀ (Qr:(wa.YB==sysModules)=false) (hA:bB x a) (RO:IntsAre aR Yi) (QQ:IntsAre Yo ag) (UZ:StrsAre dm aA) (Qy:aA.length<=Yi.length) (RF:aA.length<=ag.length) (hz:aA.length<=100/\Yi.length<=100/\ag.length<=100) (hS:aC.SetObjOf (PySem.strKind PR w) S ks) (SF:ks<=1000) (hP:∀ j st,j<aA.length->b9 S Yi ag aA (a,[]) j=.ok st->mi S j (Yi.getD j 0) (ag.getD j 0) (aA.getD j ⟨#[]⟩) st) (hD:∀ st,b9 S Yi ag aA (a,[]) aA.length=.ok st->fy st.2.reverse st.1/\st.2.length<=1000/\∀ ut∈st.2,PyData.strOk (ah ut.1 ut.2)=true),bD 12 243 [.ref wa.W, .ref dl, .ref ml, .ref rl] (x.led wa++((wa.Yu,aC)::[(dl,lO aR kd),(ml,lO Yo km),(rl,lO dm kr)]))
   (fun v n'=>v=.none/\bV (fun x' a'=>dQ S Yi ag aA a=.ok a') (fun x' a'=>bB x' a') (fun x' _=>n'=x'.led wa++((wa.Yu,aC)::[(dl,lO aR kd),(ml,lO Yo km),(rl,lO dm kr)]))) (Ee wa [(dl,lO aR kd),(ml,lO Yo km),(rl,lO dm kr)] (dQ S Yi ag aA a))
def P_(y:((((aE×Wr)×AW)×X9×X9)×((List Str)×X8)×X8×X8)×(((Nat×Nat)×Nat)×Nat×Nat)×(Nat×Obj)×(Str->Bool)×Nat):Prop:=Q y.1.1.1.1.1 y.1.1.1.1.2 y.1.1.1.2 y.1.1.2.1 y.1.1.2.2 y.1.2.1.1 y.1.2.1.2 y.1.2.2.1 y.1.2.2.2 y.2.1.1.1.1 y.2.1.1.1.2 y.2.1.1.2 y.2.1.2.1 y.2.1.2.2 y.2.2.1.1 y.2.2.1.2 y.2.2.2.1 y.2.2.2.2
def y_:((((aE×Wr)×AW)×X9×X9)×((List Str)×X8)×X8×X8)×(((Nat×Nat)×Nat)×Nat×Nat)×(Nat×Obj)×(Str->Bool)×Nat:=pk (cC (cC (cC (cC (cC i9 sb) r9) inferInstance) inferInstance) inferInstance) P_
def wa:aE:=y_.1.1.1.1.1
def x:Wr:=y_.1.1.1.1.2
def a:AW:=y_.1.1.1.2
def Yi:X9:=y_.1.1.2.1
def ag:X9:=y_.1.1.2.2
def aA:List Str:=y_.1.2.1.1
def aR:X8:=y_.1.2.1.2
def Yo:X8:=y_.1.2.2.1
def dm:X8:=y_.1.2.2.2
def kd:Nat:=y_.2.1.1.1.1
def km:Nat:=y_.2.1.1.1.2
def kr:Nat:=y_.2.1.1.2
def dl:Nat:=y_.2.1.2.1
def ml:Nat:=y_.2.1.2.2
def rl:Nat:=y_.2.2.1.1
def aC:Obj:=y_.2.2.1.2
def S:Str->Bool:=y_.2.2.2.1
def ks:Nat:=y_.2.2.2.2
theorem go:Q wa x a Yi ag aA aR Yo dm kd km kr dl ml rl aC S ks:=by
 intro Qr hA RO QQ UZ Qy RF hz hS SF hP hD;generalize hR:[(dl,lO aR kd),(ml,lO Yo km),(rl,lO dm kr)]=R;revert R;refine wrap ?_;intro R hR;have hRd:(dl,lO aR kd)∈R:=hR▸ .head _;have hRm:(ml,lO Yo km)∈R:=hR▸aJ;have hRr:(rl,lO dm kr)∈R:=hR▸co;clear hR;have SX:=RO.length;have Rq:=QQ.length;have Sr:=UZ.length;refine' GD (binds:=[(Yc "writer", .ref wa.W),(Yc "deeds", .ref dl),(Yc "modes", .ref ml),(Yc "rows", .ref rl)]) (by k_is) (by k_is) (by exact fun s X=>LH rfl) (by exact aZ rfl) (by rfl) (by rfl) (by rfl) (by decide) ?k9 ?_
 case k9=>
  rintro PO Yp ⟨_,-,pg,cg,tb,rfl,-⟩ q hq;rcases KG.mp hq with rfl|hq
  ·exact KI.mpr ⟨_,Ky _ (x.mPage wa),rfl⟩
  rcases KG.mp hq with rfl|hq
  ·exact KI.mpr ⟨_,Ky _ (x.mTab wa),rfl⟩
  ·exact KU (Kz _ (.tail _ hq))
 intro A₀ base dp un gd L outer h₀ os g₀ c E K hE QP hK;refine Gf (Gx (FY ⟨K0 _,fun il=>?_⟩));show Tr _ _ _ _ _ _;generalize hm:(fun y=>if y=Yc "inside" then some (Value.ref il) else _)=m0;revert m0;refine wrap ?_;intro m0 hm;have l0:iY wa.W dl ml rl il m0:=ae hm ⟨rfl,rfl,rfl,rfl,rfl⟩;clear hm;refine Gu (GH (K₁:=fun fl m n=>fl=.next/\vT wa S Yi ag aA a R wa.Yu il dl ml rl aC aA.length m n) ?sF ?sW)
 case sF=>
  intro K2 hK2;refine IO aA.length (vT wa S Yi ag aA a R wa.Yu il dl ml rl aC) QP ?iter (KF hz.1 (by decide)) ?turn ?last
  case last=>exact fun m n h=>F6 (hK2 _ _ _ ⟨rfl,h⟩)
  case iter=>
   refine GT (by k_is) (by boot_fast) (by decide) (GN (by k_is) (by boot_fast) (by decide) (FX l0.r (G9 (.tail _ (Kz _ (.tail _ hRr))) (by exact L2 [_,_] V1 (.n 100000) 1 V0 (.n 100) 1 V1 V0 rfl hz.1 (eL Sr)) fun t=>Hr fun r t u z=>?_)));exact aa Sr ⟨r,t,u,z,rfl, .head _,x,(a,[]),[],0,[(r,bk aA.length t u z)],rfl,hA, .nil,AC,l0⟩
  case turn=>
   rintro j t I oI m n hj ⟨x',st,Q4,k,G,hst,Qk,hv,hp,lk⟩;have Qc:=hP j st hj hst;have Ra:b9 S Yi ag aA (a,[]) (j+1)=bM S j (Yi.getD j 0) (ag.getD j 0) (aA.getD j ⟨#[]⟩) st:=by
    show bp _ _=_;exact aa hst rfl
   obtain⟨td,hdj⟩:=dr RO (show j<Yi.length from xN hj Qy);obtain⟨tm,hmj⟩:=dr QQ (show j<ag.length from xN hj RF);obtain⟨tr,hrj⟩:=ro UZ hj;generalize Yi.getD j 0=Yv at Qc Ra hdj;revert Yv;refine wrap ?_;intro Yv Qc Ra hdj;generalize ag.getD j 0=mode at Qc Ra hmj;revert mode;refine wrap ?_;intro mode Qc Ra hmj;generalize aA.getD j ⟨#[]⟩=row at Qc Ra hrj;revert row;refine wrap ?_;intro row Qc Ra hrj;have Sp:=Qc.rl;have Wy:∀ e,bM S j Yv mode row st=.error e->dQ S Yi ag aA a=.error e:=fun e he=>by
    unfold dQ;exact aa (jA (Ra.trans he) aA.length hj) rfl
   refine Gd ((hp.cons _).trans nR) (Go ?_);show Tr _ _ _ _ _ _;generalize hm:(fun y=>if y=Yc "place" then some (Value.int j t) else m y)=m1;revert m1;refine wrap ?_;intro m1 hm;have l1:iY wa.W dl ml rl il m1:=ae hm ⟨lk.w,lk.d,lk.mo,lk.r,lk.i⟩;have Qw:m1 (Yc "place")=some (.int j t):=ae hm rfl;clear hm lk hp;generalize hKf:ry I oI (vT wa S Yi ag aA a R wa.Yu il dl ml rl aC (j+1)) K2=Kf;revert Kf;refine wrap ?_;intro Kf hKf;have fin:∀ (x2:Wr) (st2:gc) vals2 k2 m2,bM S j Yv mode row st=.ok st2->bB x2 st2.1->StrsAre vals2 (st2.2.map fun ut=>ah ut.1 ut.2)->iY wa.W dl ml rl il m2->Tr c E m2 (x2.led wa++((wa.Yu,aC)::(I,oI)::(il,lO vals2 k2)::(R++G))) (execs [] c.env) Kf:=fun x2 st2 vals2 k2 m2 h1 h2 h3 h4=>
    Gd nR.symm (F6 (by refine ae hKf ?_;exact⟨_,rfl,x2,st2,vals2,k2,G,Ra.trans h1,h2,h3, .refl _,h4⟩))
   clear hKf Ra hst;have mR:∀ {L:X4} {o:Obj} {q:Addr×Obj},q∈R->q∈L++((wa.Yu,aC)::(I,oI)::(il,o)::(R++G)):=fun h=>Kz _ (cY (Ky _ h));refine Gf (GE (f:=236) (fun J h=>Gz (by k_is) h) (by k_is) (Gg (FX l1.r (FX Qw (Gi (mR hRr) rfl hrj (by exact L2 [_,_] V1 (.n 100000) 1 V0 (.n 100) 1 V1 V0 rfl hz.1 (eL Sr)) ((oD row tr (bd Sp)).to (by show 2<=11;decide) ?_))))));rintro _ ⟨tn,rfl⟩;show Tr _ _ _ _ _ _;generalize hm:(fun y=>if y=Yc "name" then some (Value.str (av row) tn) else m1 y)=m2;revert m2;refine wrap ?_;intro m2 hm;have l2:iY wa.W dl ml rl il m2:=ae hm ⟨l1.w,l1.d,l1.mo,l1.r,l1.i⟩;have Ru:m2 (Yc "place")=some (.int j t):=ae hm Qw;have QR:m2 (Yc "name")=some (.str (av row) tn):=ae hm rfl;clear hm l1 Qw;have Qs:=qo Sp;refine Gk (Gb (Gg (FX l2.d (FX Ru (Gi (mR hRd) rfl hdj (by exact L2 [_,_] V1 (.n 100000) 1 V0 (.n 100) 1 V1 V0 rfl hz.2.1 (eL SX)) (F7 fun t0=>GY (F9 ?_)))))))
   by_cases RN:Yv=0
   ·refine aa (show (Yv==0)=true by rw[RN];rfl) ?_
    refine Ge (Ga (FX l2.w (GZ (jx wa _ _ _ _) (Ky _ (x'.mW wa)) (Ky _ (x'.mD wa)) (Ha (jx wa x'.t x'.Yg x'.seen x'.done).hk (FZ (HO (FX QR ⟨_,tn,rfl,Qs,fun t4=>FZ (Gg (FX l2.r (FX Ru (Gi (mR hRr) rfl hrj (by exact L2 [_,_] V1 (.n 100000) 1 V0 (.n 100) 1 V1 V0 rfl hz.1 (eL Sr)) (FY ?_)))))⟩)))))));refine(tO wa Qr x' st.1 Qk Qc.good (n4 row) row t4 tr).to c E m2 _ _ (by show 8<=11;decide) ?_ (hE _ _ fun PO Yp ⟨h1,h2⟩=>⟨Yp++R,⟨st.1.Yh,Wy _ ?_,vi h2⟩,kj fun q h=>cY (Ky _ h)⟩)
    ·rintro v n' ⟨-,x2,a2,he,QG,rfl⟩
     obtain⟨a1,h1,rfl⟩:=gS he;exact F6 (fin x2 (_,st.2) Q4 k m2 (by unfold bM;refine aa (KW RN) (aa (dM h1) ?_);rfl) QG hv l2)
    ·unfold bM;refine aa (KW RN) (aa (fP h1) ?_);rfl
   ·refine aa (show (Yv==0)=false by simpa using RN) ?_
    have Tq:Q4.length=st.2.length:=by exact aa hv.length (aa (KE _) rfl)
    have QM:=Qc.len;have mI:∀ {L:X4} {o:Obj},(il,o)∈L++((wa.Yu,aC)::(I,oI)::(il,o)::(R++G)):=Kz _ co;refine Gk (Tr.mono (K:=fun b m n=>b=decide (Yv=1/\1<st.2.length)/\m=m2/\n=x'.led wa++((wa.Yu,aC)::(I,oI)::(il,lO Q4 k)::(R++G))) ?test ?br)
    case test=>
     refine GR (Gy (Gb (Gg (FX l2.d (FX Ru (Gi (mR hRd) rfl hdj (by exact L2 [_,_] V1 (.n 100000) 1 V0 (.n 100) 1 V1 V0 rfl hz.2.1 (eL SX)) (F7 fun t0=>GY (F9 ?_))))))))
     by_cases h1:Yv=1
     ·refine aa (show (Yv==1)=true by rw[h1];rfl) ?_
      refine Gy (Gb (GN (by k_is) (by boot_fast) (by decide) (FX l2.i (G9 mI (by exact L3 [_,_] V0 (.n 100000) 3 V0 V1 2 V1 V0 1 V1 (.n 1000) rfl (eL Tq) (eG Tq) QM) fun t5=>F7 fun t6=>HC (F9 ?_)))));refine aa Tq ?_
      by_cases h2:1<st.2.length
      ·exact aa (KV (show (1:Int)<(st.2.length:Int) from xR h2)) (He ⟨(KV ⟨h1,h2⟩).symm,rfl,rfl⟩)
      ·exact aa (KY (show¬(1:Int)<(st.2.length:Int) from ER h2)) ⟨(KY fun h=>h2 h.2).symm,rfl,rfl⟩
     ·exact aa (show (Yv==1)=false by simpa using h1) ⟨(KY fun h=>h1 h.1).symm,rfl,rfl⟩
    case br=>
     rintro b _ _ ⟨rfl,rfl,rfl⟩
     by_cases hc:Yv=1/\1<st.2.length
     ·refine aa (KV hc) ?_
      obtain⟨ins,ut,WP⟩:lY (fun ins ut=>st.2=ins++[ut]):=by
       rcases Pp st.2 with h|⟨i,u,h⟩
       ·rw[h] at hc;exact absurd hc.2 (by decide)
       ·exact⟨i,u,by exact aa h (aa Po rfl)⟩
      have Up:st.2.getLast?.getD (⟨#[]⟩,⟨#[]⟩)=ut:=aa WP (aa Ni rfl);have hen:=Qc.en RN hc;rw[Up] at hen;rw[WP,KN] at hv;obtain⟨Vh,tk,rfl,Uw⟩:=nG hv;rw[KH] at Tq;refine Ge (Ga (FX l2.w (GZ (fE wa _ _ _ _) (Ky _ (x'.mW wa)) (Ky _ (x'.mD wa)) (Ha (fE wa x'.t x'.Yg x'.seen x'.done).hk (FZ (Ga (FX l2.i (Gj mI Na Nb (Hk (Gd pu (HN (pre:=[]) rfl (by exact L2 [_,_,_] V1 (.n 100000) 1 V0 (.n 1000) 1 (.a V1 V2) V0 rfl QM (eL Tq)) (Gd pu.symm (FY ?_)))))))))))));refine(rN wa x' st.1 ut.1 ut.2 tk Qr Qk Qc.good hen).to c E _ _ _ (by show 8<=11;decide) ?_ (hE _ _ fun PO Yp ⟨h1,h2⟩=>⟨Yp++R,⟨st.1.Yh,Wy _ ?_,vi h2⟩,kj fun q h=>cY (Ky _ h)⟩)
      ·rintro v n' ⟨-,x2,a2,he,QG,rfl⟩
       obtain⟨a1,h1,rfl⟩:=gS he;refine F6 (F6 (fin x2 (_,st.2.dropLast) Vh _ _ ?_ QG (by refine aa WP (aa LN ?_);exact Uw) l2));unfold bM cQ;exact aa (KM RN) (aa (KW hc) (aa Up (aa (dM h1) rfl)))
      ·unfold bM cQ
       exact aa (KM RN) (aa (KW hc) (aa Up (aa (fP h1) rfl)))
     ·refine aa (KY hc) ?_
      have hop:=Qc.op RN hc;refine Ge (Ga (FX l2.i (Gj mI Lo Lg (Gq (FZ (F8 (F8 (F8 (Gc fun s1=>Gg (FX l2.r (FX Ru (Gi (mR hRr) rfl hrj (by exact L2 [_,_] V1 (.n 100000) 1 V0 (.n 100) 1 V1 V0 rfl hz.1 (eL Sr)) (Gm ?za ?zb fun s2=>Gc fun s3=>Gm ?zc ?zd fun s4=>Gg (Gc fun s5=>HV (by k_is) (by boot_fast) (by decide) (FX Ru (F7 fun s6=>IW fun s7=>G5 ?ze ?zf ?zg fun s8=>Gm ?zh ?zi fun s9=>FY (Gd pu (Gs (pre:=[]) rfl (by exact L3 [_,_] V0 (.n 100000) 3 V0 V1 2 V1 V0 1 V1 (.n 1000) rfl (eL Tq) (eG Tq) QM) (Gd pu.symm ?_)))))))))))))))))))
      case za=>exact KA rfl
      case zb=>exact bd Sp
      case zc=>refine aa (KB _ _) (aa uG ?_);exact L1 [_] (.a W1 V0) (.n 1000000) 1 V0 (.n 100) rfl Sp
      case zd=>exact KA rfl
      case ze=>split<;>lia
      case zf=>refine aa (show (Yc "rt").length=2 from rfl) ?_;split<;>lia
      case zg=>exact KA rfl
      case zh=>(refine aa (KB _ _) (aa (KB _ _) ?_);rw[uG];refine aa Ah ?_);exact L1 [_] (.a (.a W1 V0) W1) (.n 1000000) 1 V0 (.n 100) rfl Sp
      case zi=>exact KA rfl
      refine Ge (Ga (FX l2.w (GZ (lj wa _ _ _ _) (Ky _ (x'.mW wa)) (Ky _ (x'.mD wa)) (Ha (lj wa x'.t x'.Yg x'.seen x'.done).hk (FZ (Gg (FX l2.i (G6 fun s10=>Ho (xs:=Q4) mI (FZ (JQ fun ak Rl=>FY (Gd AF ((vY wa Qr x' st.1 Qk Qc.good row (ao j) s9 ak 0 aC S ks hS SF Rl fun a' ha=>⟨(hop a' ha).1,(hop a' ha).2.1⟩).to c E _ _ _ (by show 8<=11;decide) ?hJ1 ?hR1))))))))))))
      case hR1=>
       refine hE _ _ fun PO Yp ⟨h1,h2⟩=>⟨Yp++R,⟨st.1.Yh,Wy _ ?_,vi h2⟩,kj fun q h=>dj (Ky _ h)⟩;unfold bM;exact aa (KM RN) (aa (KM hc) (aa (fP h1) rfl))
      rintro v n' ⟨-,x2,a1,h1,QG,rfl⟩;refine aa (KQ _ _ _) ?_;have hd2:x2.data=[]:=by
       have h:=QG.data;rw[show (if S (ah row (ao j)) then eb row (ao j) a1 else im row (ao j) a1).data=none by split<;>exact(fh Qc.good h1).2] at h;exact h
      refine Ge (Ga (FX l2.w (GZ (g9 wa _ _ _ _) (Ky _ (x2.mW wa)) (Ky _ (x2.mD wa)) (Ha (g9 wa x2.t x2.Yg x2.seen x2.done).hk (FZ (HO (FX QR ⟨_,tn,rfl,Qs,fun t5=>FY ((qK wa x2 (.str (n5 row) t5) (by refine aa hd2 ?_;exact K0 _)).to c E _ _ _ (by show 1<=11;decide) ?hJ2 dC.no)⟩)))))));rintro v n' ⟨-,rfl⟩;have hd3:(x2.pushData (.str (n5 row) t5)).data=[.str (n5 row) t5]:=by show x2.data++[_]=_;refine aa hd2 ?_;rfl
      have QT:∀ t6,bB ((x2.pushData (.str (n5 row) t5)).pushData (.str (n9 row) t6)) (bR S row (ao j) a1):=fun t6=>⟨QG.decl,QG.ns,QG.pm,QG.Yh,QG.Yn,QG.lam,⟨t5,t6,by show (x2.pushData (.str (n5 row) t5)).data++[_]=_;refine aa hd3 ?_;rfl⟩,QG.Yg,QG.seen⟩;generalize x2.pushData (.str (n5 row) t5)=x3 at hd3 QT;revert x3;refine wrap ?_;intro x3 hd3 QT;clear QG hd2;refine Ge (Ga (FX l2.w (GZ (g9 wa _ _ _ _) (Ky _ (x3.mW wa)) (Ky _ (x3.mD wa)) (Ha (g9 wa x3.t x3.Yg x3.seen x3.done).hk (FZ (HH (FX QR ⟨_,tn,rfl,Qs,fun t6=>FY ((qK wa x3 (.str (n9 row) t6) (by refine aa hd3 ?_;show 1<=1000;decide)).to c E _ _ _ (by show 1<=11;decide) ?hJ3 dC.no)⟩)))))));rintro v n' ⟨-,rfl⟩;have hA4:=QT t6;generalize x3.pushData (.str (n9 row) t6)=x4 at hA4;revert x4;refine wrap ?_;intro x4 hA4;clear QT hd3;refine Gk (H9 (Gn (GE (f:=182) (fun J h=>Gz (by k_is) h) (by k_is) (Gg (FX l2.mo (FX Ru (Gi (mR hRm) rfl hmj (by exact L2 [_,_] V1 (.n 100000) 1 V0 (.n 100) 1 V1 V0 rfl hz.2.2 (eL Rq)) ((yb mode tm).to (by show 3<=11;decide) ?_))))))));rintro _ rfl;refine F9 ?_
      cases Tg:(Builtin.bitAnd mode 61440==16384)
      ·obtain⟨hg4,he4⟩:=(hop a1 h1).2.2 Tg
       refine Ge (Ga (FX l2.w (GZ (fE wa _ _ _ _) (Ky _ (x4.mW wa)) (Ky _ (x4.mD wa)) (Ha (fE wa x4.t x4.Yg x4.seen x4.done).hk (FZ (Ga (FX l2.i (Gj mI Na Nb (Hk (Gd pu (HN (pre:=[]) (p:=Q4) rfl (by exact L3 [_,_] V0 (.n 100000) 3 V0 V1 2 V1 V0 1 V1 (.n 1000) rfl (eL Tq) (eG Tq) QM) (Gd pu.symm (FY ?_)))))))))))));refine(rN wa x4 _ row (ao j) s9 Qr hA4 hg4 he4).to c E _ _ _ (by show 8<=11;decide) ?_ (hE _ _ fun PO Yp ⟨h3,h4⟩=>⟨Yp++R,⟨_,Wy _ ?_,vi h4⟩,kj fun q h=>cY (Ky _ h)⟩)
       ·rintro v n' ⟨-,x5,a5,he,hA5,rfl⟩
        obtain⟨a3,h3,rfl⟩:=gS he;refine F6 (F6 (F6 (fin x5 (_,st.2) Q4 _ _ ?_ hA5 hv l2)));unfold bM cQ;refine aa (KM RN) (aa (KM hc) (aa (dM h1) ?_));show (if bx mode=true then _ else bp (bp (fl (bR S row (ao j) a1)) _) _)=_;refine aa (KM (show¬bx mode=true by unfold bx;rw[Tg];exact KP)) (aa (dM h3) ?_)
        rfl
       ·unfold bM cQ
        refine aa (KM RN) (aa (KM hc) (aa (dM h1) ?_));show (if bx mode=true then _ else bp (bp (fl (bR S row (ao j) a1)) _) _)=_;refine aa (KM (show¬bx mode=true by unfold bx;rw[Tg];exact KP)) (aa (fP h3) ?_)
        rfl
      ·refine F6 (F6 (F6 (fin x4 (_,st.2++[(row,ao j)]) _ _ _ ?_ hA4 (by refine aa KN ?_;exact MZ hv (.cons _ _ .nil)) l2)))
       unfold bM;refine aa (KM RN) (aa (KM hc) (aa (dM h1) ?_));show (if bx mode=true then _ else _)=_;exact aa (KW (show bx mode=true from Tg)) rfl
 case sW=>
  rintro _ m n ⟨rfl,x',st,Q4,k,G,hst,Qk,hv,hp,lk⟩;obtain⟨Ug,QM,Qc⟩:=hD st hst;have ht:dQ S Yi ag aA a=ck st.2.reverse st.1:=by unfold dQ;refine aa hst ?_;rfl
  clear hP hD hst;obtain⟨a1,ins⟩:=st;generalize dQ S Yi ag aA a=T at ht hK hE⊢;revert T;refine wrap ?_;intro T ht hK hE;refine Gu (Iw (Cb wa T R wa.Yu il dl ml rl aC) QP ?turn ins.length ⟨x',a1,ins,Q4,k,G,⟨rfl,QM,ht,Ug,Qc⟩,Qk,hv,hp,lk⟩);clear Qk hv hp lk ht Ug Qc QM;rintro j m n ⟨x2,a2,ins,Q4,k,G,⟨rfl,Th,ht,Ug,Qc⟩,QG,hv,hp,lk⟩;refine Gd hp (Gb (FX lk.i (Gx (FY ⟨K0 _,fun e=>JX (.tail _ (Kz _ aJ)) hv (.head _) (by show 4<=11;decide) (fun y hy=>?_) (F9 ?_)⟩))))
  ·obtain⟨ut,YN,rfl⟩:=KI.mp hy
   exact Qc ut YN
  ·rcases Pp ins with rfl|⟨i,ut,hi⟩
   ·exact F6 (F6 (hK _ _ _ (x2.led wa++((wa.Yu,aC)::R)) (.cons _ ((List.Sublist.cons_cons _ (.cons _ (List.sublist_append_left R G))).append_left _)) ⟨rfl,x2,a2,ht,QG,rfl⟩))
   ·rw[Po] at hi
    subst hi;rw[KN] at hv⊢;rw[Nu] at ht Ug;obtain⟨hg,hen⟩:=Ug;obtain⟨Vh,tk,rfl,Uw⟩:=nG hv;have Tq:Vh.length=i.length:=by exact aa Uw.length (aa (KE _) rfl)
    rw[KH] at Th;have P2:(!(i.map (fun ut=>ah ut.1 ut.2)++[ut].map fun ut=>ah ut.1 ut.2).isEmpty)=true:=by cases i<;>rfl
    refine aa P2 ?_;refine⟨i.length,by refine aa KH ?_;exact LP _,GW (Lq _ _) ?_⟩;refine Ge (Ga (FX lk.w (GZ (fE wa _ _ _ _) (Ky _ (x2.mW wa)) (Ky _ (x2.mD wa)) (Ha (fE wa x2.t x2.Yg x2.seen x2.done).hk (FZ (Ga (FX lk.i (Gj (Kz _ aJ) Na Nb (Hk (Gd nR.symm (HN (pre:=[]) rfl (by exact L2 [_,_,_] V2 (.n 100000) 1 (.a V0 V1) (.n 1000) 1 V2 V0 rfl Th (eL Tq)) (Gd nR (FY ?_)))))))))))));refine(rN wa x2 a2 ut.1 ut.2 tk Qr QG hg fun a' ha=>(hen a' ha).1).to c E _ _ _ (by show 8<=11;decide) ?_ (hE _ _ fun PO Yp ⟨h1,h2⟩=>⟨Yp++R,⟨a2.Yh,?_,vi h2⟩,kj fun q h=>dj (Ky _ h)⟩)
    ·rintro v n' ⟨-,x3,a3,he,QT,rfl⟩
     obtain⟨a1,h1,rfl⟩:=gS he;refine F6 ⟨x3,_,i,Vh,_,G,⟨rfl,by exact L1 [_,_] V0 (.n 1000) 1 (.a V0 V1) (.n 1000) rfl Th,?_,(hen a1 h1).2,fun z hz=>Qc z (Ky _ hz)⟩,QT,Uw, .refl _,lk⟩;refine aa ht ?_;show bp (cQ ut a2) _=_;unfold cQ;exact aa (dM h1) rfl
    ·refine aa ht ?_
     show bp (cQ ut a2) _=_;unfold cQ;exact aa (fP h1) rfl
end TEk
theorem zM(wa:aE)(x:Wr)(a:AW)(Yi ag:X9)(aA:List Str)(aR Yo dm:X8)(kd km kr dl ml rl:Nat)(aC:Obj)(S:Str->Bool)(ks:Nat):TEk.Q wa x a Yi ag aA aR Yo dm kd km kr dl ml rl aC S ks:=cT (P:=TEk.P_) TEk.go (((((wa,x),a),(Yi,ag)),((aA,aR),(Yo,dm))),((((kd,km),kr),(dl,ml)),((rl,aC),(S,ks))))
section
variable{c:Fx}{E:X6}{m:X5}{n:X4}{J:ad Value}{K:ad Flow}
def xE(oi:Obj)(l:Nat):Prop:=∀ (h:Heap) (it:Addr),h.get? it=some oi->h.IsTupleIter it l 0
theorem JS{l:Nat}{vs:X8}{kk:Nat}(hl:c.h₀.get? l=some ⟨.type "tuple",none, .seq vs.toArray kk,#[]⟩)(h:∀ (e it:Nat) oi,xE oi l->J (.ref e) m ((e,cR it 0 .none)::(it,oi)::n)):Tr c E m n (call (.type "enumerate") [.ref l]) J:= .mk fun s l'=>
 rQ (l:=l) (l'.F.keep _ _ hl) fun h' hE hI hk=>by
  obtain⟨oi,ho,hoi⟩:=hI;refine⟨m,_,l'.to ⟨l'.F.ns.at' fun o q=>hk _ o q,fun b o q=>hk b o (l'.F.keep b o q),l'.F.above⟩ (fun p hp=>?_) ?_ l'.G rfl,h (s.heap.objs.size+1) s.heap.objs.size oi fun h2 it q=>⟨oi,q,hoi⟩⟩
  ·have hL:=l'.F.ns.lt
   rcases KG.mp hp with rfl|hp
   ·exact⟨hE,Mh (LG hL),gz l'.F (MD _)⟩
   ·rcases KG.mp hp with rfl|hp
    ·exact⟨ho,Mh hL,gz l'.F (KZ _)⟩
    ·exact⟨hk _ _ (l'.N p hp).1,(l'.N p hp).2⟩
  ·have hf:∀ p∈n,p.1<s.heap.objs.size:=fun p hp=>KO (l'.N p hp).1
   refine(l'.D.fresh hf).fresh fun p hp=>?_;rcases KG.mp hp with rfl|hp
   ·exact LP _
   ·exact LG (hf p hp)
def Eb(e it i:Nat)(x:Value)(oi:Obj)(Inv:X5->X4->Prop)(K:ad Flow):ad Flow:=fun fl m' n'=>match fl with
 | .next| .cont=>aM (fun PP=>n'=(e,cR it ((i:Int)+1) x)::(it,oi)::PP) (fun PP=>Inv m' PP)
 | .brk=>K .next m' n'
 | .ret v=>K (.ret v) m' n'
theorem IN(l:Nat)(vs:X8)(kk:Nat)(Inv:Nat->X5->X4->Prop)(hE:PassesOwn MP c.A c.env E)(hl:c.h₀.get? l=some ⟨.type "tuple",none, .seq vs.toArray kk,#[]⟩)
  (h:Tr c E m n (eval iter c.env) fun v m' n'=>vN (fun(e it:Nat) (oi:Obj) (Uy:X4)=>v=.ref e) (fun _ _ oi _=>xE oi l) (fun e it oi Uy=>n'=(e,cR it 0 .none)::(it,oi)::Uy) (fun _ _ _ Uy=>Inv 0 m' Uy) (fun e it oi _=>(∀ (i:Nat) (x:Value) (a:Nat) t oi m n,vs[i]?=some x->Inv i m n->Tr c E m ((a,bl (.int (i:Nat) t) x 0)::(e,cR it ((i:Int)+1) x)::(it,oi)::n) (assign (.Tuple elts x1 pt) c.env (.ref a)) fun _ m n=>Tr c E m n (execs body c.env) (Eb e it i x oi (Inv (i+1)) K))) (fun _ _ _ _=>∀ m n,Inv vs.length m n->K .next m n))
  (hs:∀ x,foldedSetIterable iter c.env x=Pure.pure x:=by intro _;rfl):Tr c E m n (exec (.For (.Tuple elts x1 pt) iter body [] pos) c.env) K:= .mk fun s l₀=>by
 refine wpAny_For (c6 (h.go s l₀) fun v PZ m' n' l' hv=>?_) hs;obtain⟨e,it,oi₀,Uy,rfl,hti,rfl,h0,turn,last⟩:=hv;have n1:=l'.N _ (.head _);have n2:=l'.N _ aJ;have hei:e≠it:=MF (l'.D.ne (.head _));refine wpAny_pyIter_enum n1.1 ?_;refine codeAny_forLoop_any (I:=fun k s=>rx (fun j m n oi x=>j<=vs.length) (fun j _ _ _ _=>k=vs.length-j) (fun j _ _ _ _=>s.heap.IsTupleIter it l j) (fun j m n oi x=>ax c s m ((e,cR it (j:Nat) x)::(it,oi)::n)) (fun j m n _ _=>Inv j m n)) (fun k s hI=>?_) vs.length ⟨0,m',Uy,oi₀, .none,K0 _,s0,hti _ _ n2.1,l',h0⟩;obtain⟨j,m,n,oi,x,hj,rfl,QE,l1,hi⟩:=hI;have k1:=l1.N _ (.head _);have k2:=l1.N _ aJ;have hl':s.heap.IsTuple l vs.toArray:=⟨_,l1.F.keep _ _ hl,rfl,kk,rfl⟩;have Ss:∀ h',(∀ b o,b≠e->b≠it->s.heap.get? b=some o->h'.get? b=some o)->Fr c.h₀ c.L h' m:=fun h' hk=>
  ⟨l1.F.ns.at' fun o q=>hk _ o (MF k1.2.1) (MF k2.2.1) q,fun b o q=>hk b o (by rintro rfl;rw[k1.2.2] at q;cases q) (by rintro rfl;rw[k2.2.2] at q;cases q) (l1.F.keep b o q),l1.F.above⟩
 have Su:∀ h',(∀ b o,b≠e->b≠it->s.heap.get? b=some o->h'.get? b=some o)->News c.h₀ c.L h' n:=fun h' hk p hp=>
  ⟨hk _ _ (l1.D.ne (.tail _ hp)) (l1.D.tail.ne hp) (l1.N p (dj hp)).1,(l1.N p (dj hp)).2⟩
 have lt:∀ p∈n,p.1<s.heap.objs.size:=fun p hp=>KO (l1.N p (dj hp)).1;rcases M3 j vs.length with PU|hge
 ·refine rV (x:=vs[j]) k1.1 QE hl' (by simp[PU]) hei fun a h' ho Ti ht Qf hk=>?_
  obtain⟨t,ht⟩:=ht;have hea:e<a:=K9 (KO k1.1) Qf;have hia:it<a:=K9 (KO k2.1) Qf;refine wpAny_letOwnedTupleGo_enum ho fun Sf he'' VE=>?_;replace VE:Heap.SameBut e h' Sf:=VE;have hk'':∀ b o,b≠e->b≠it->s.heap.get? b=some o->Sf.get? b=some o:=fun b o hb RX q=>VE.extBut b o hb (hk b o hb RX q);obtain⟨oi2,hoi,hoi2⟩:=Ti.at (h':=Sf) fun o q=>VE.extBut it o (MF hei) q;have F':=Ss Sf hk'';have ha:Sf.get? a=some (bl (.int (j:Nat) t) vs[j] 0):=VE.extBut a _ (Mh hea) ht;have l2:ax c {s with heap:=Sf,toks:=s.toks+1} m ((a,bl (.int (j:Nat) t) vs[j] 0)::(e,cR it ((j:Int)+1) vs[j])::(it,oi2)::n):=by
   refine l1.to F' (fun p hp=>?_) ?_ l1.G rfl
   ·rcases KG.mp hp with rfl|hp
    ·exact⟨ha,Mh (K9 l1.F.ns.lt Qf),gz l1.F Qf⟩
    ·rcases KG.mp hp with rfl|hp
     ·exact⟨he'',k1.2⟩
     ·rcases KG.mp hp with rfl|hp
      ·exact⟨hoi,k2.2⟩
      ·exact Su Sf hk'' p hp
   ·refine aw.fresh (show aw ((e,cR it ((j:Int)+1) vs[j])::(it,oi2)::n) from l1.D) fun p hp=>?_
    rcases KG.mp hp with rfl|hp
    ·exact hea
    ·rcases KG.mp hp with rfl|hp
     ·exact hia
     ·exact K9 (lt p hp) Qf
  refine K7 (Tr.go (turn j vs[j] a t oi2 m n (by simp[PU]) hi) _ l2) (fun _ TD Sc=>?_) fun _ _ e=>hE _ _ e;obtain⟨WB,Vd,RC,VS⟩:=Sc;refine K7 (VS.go TD RC) (fun f Rg R1=>?_) fun _ _ e=>hE _ _ e;obtain⟨WV,XA,R5,VY⟩:=R1;have Se:(aM (fun PP=>XA=(e,cR it ((j:Int)+1) vs[j])::(it,oi2)::PP) (fun PP=>Inv (j+1) WV PP))->
    ∃ k,k<vs.length-j/\rx (fun j m n oi x=>j<=vs.length) (fun j _ _ _ _=>k=vs.length-j) (fun j _ _ _ _=>Rg.heap.IsTupleIter it l j) (fun j m n oi x=>ax c Rg m ((e,cR it (j:Nat) x)::(it,oi)::n)) (fun j m n _ _=>Inv j m n):=by
   rintro⟨PP,rfl,q⟩;exact⟨vs.length-(j+1),xP PU,j+1,WV,PP,oi2,vs[j],PU,rfl,⟨oi2,(R5.N _ aJ).1,hoi2⟩,R5,q⟩
  cases f with
  |next=>exact Se VY
  |cont=>exact Se VY
  |brk=>exact⟨WV,XA,R5,VY⟩
  |ret v=>exact⟨WV,XA,R5,VY⟩
 ·have S1:j=vs.length:=aS hj hge
  subst S1;refine tZ rfl k1.1 QE hl' (by simp) fun h' hk=>?_;have Qz:∀ b o,b≠e->b≠it->s.heap.get? b=some o->h'.get? b=some o:=fun b o _ RX q=>hk b o RX q;exact wpAny_execs_nil ⟨m,n,l1.to (Ss h' Qz) (Su h' Qz) l1.D.tail.tail l1.G rfl,last m n hi⟩
variable{U:ad Unit}{env:Env}{r:Yb}{i j:Int}{t u:Tok}
theorem Hp(hm:eS c n (t,bl x y k))(h:Tr c E m n (assign a env x) (kT c E (fun _=>assign b env y) U))
  (he:assignEach [a,b] env=[(false,assign a env),(false,assign b env)]:=by rfl):Tr c E m n (assign (.Tuple [a,b] kk p) env (.ref t)) U:= .mk fun s l=>by
 have ht:IsTup s.heap t #[x,y]:=⟨_,hm.elim (fun q=>(l.N _ q).1) fun q=>l.F.keep _ _ q,rfl,k,rfl⟩;exact unpackN_ l.F l.N ht rfl (by refine aa he ?_;rfl) (by refine aa he ?_;rfl) fun h' F' N'=>by
  exact aa he (MR (c6 (h.go _ (l.to F' N' l.D l.G rfl)) fun _ s1 _ _ l1 q=>MR (up (q.go s1 l1) fun _ s2 q=>assignInOrder_nil q)))
def ev(mode:Int)(i:Nat)(l:List qG):Str:=if i=0 then i8 mode (gL l) else cE mode (gL l)
def bt(mode:Int):List Str:=oV.zipIdx.map fun x=>ev mode x.2 x.1.2
noncomputable def ek (mode:Int) (i:Nat) (p:qG):Bool:=if i=0 then Builtin.bitAnd mode 61440==p.bit else Builtin.bitAnd mode p.bit==p.bit
theorem mu(f:α->Bool):∀ {l:List α} {j:Nat} {p:α},l[j]?=some p->(∀ q∈l.take j,f q=false)->f p=true->l.find? f=some p
 |x::l,0,p,h,_,hp=>by cases h;exact aa MK (aa hp rfl)
 |x::l,j+1,p,h,hn,hp=>aa MK (aa (hn x (.head _)) (mu f h (fun q hq=>hn q (.tail _ hq)) hp))
end
theorem zY(h:l[j]?=some p)(hn:∀ q∈l.take j,ek mode i q=false)(hp:ek mode i p=true):ev mode i l=Yc p.ch:=by
 unfold ev i8 cE gL;unfold ek at hn hp
 by_cases hi:i=0
 ·simp only[hi,if_true] at hn hp⊢
  refine aa Nw ?_;simp only[O8];refine aa (mu _ h hn hp) ?_
  rfl
 ·simp only[KM hi] at hn hp⊢
  refine aa Nw ?_;simp only[O8];refine aa (mu _ h hn hp) ?_
  rfl
theorem yl(hn:∀ q∈l,ek mode i q=false):ev mode i l=if i=0 then Yc "?" else Yc "-":=by
 unfold ev i8 cE gL;unfold ek at hn
 by_cases hi:i=0
 ·simp only[hi,if_true] at hn⊢
  refine aa Nw ?_;simp only[O8];refine aa (NI.mpr fun q hq=>by simpa using hn q hq) ?_
  rfl
 ·simp only[KM hi] at hn⊢
  refine aa Nw ?_;simp only[O8];refine aa (NI.mpr fun q hq=>by simpa using hn q hq) ?_
  rfl
theorem yk(mode:Int):Txt.join (Yc "") (bt mode)=aO mode:=by rfl
theorem qj(hl:∀ p∈l,(Yc p.ch).length<=1):(ev mode i l).length<=1:=by
 have Qb:∀ (f:qG->Bool) (d:Str),d.length<=1->(((l.find? f).map fun p=>Yc p.ch).getD d).length<=1:=fun f d hd=>by
  cases h:l.find? f with
  |none=>exact hd
  |some p=>exact hl p (List.mem_of_find?_eq_some h)
 unfold ev i8 cE gL
 split
 ·refine aa Nw (aa (O2 _ _ _) ?_);exact Qb _ _ (by decide)
 ·refine aa Nw (aa (O2 _ _ _) ?_);exact Qb _ _ (by decide)
theorem lT:∀ {ys:List Str},(∀ y∈ys,y.length<=1)->(ys.map (·.length)).sum<=ys.length
 |[],_=>KZ _
 |y::ys,h=>by
  have h1:=h y (.head _);have h2:=lT fun z hz=>h z (.tail _ hz);refine aa LA (aa List.sum_cons (aa Lc ?_));exact L2 [_,_,_] (.a V0 V1) (.a V2 W1) 1 V0 W1 1 V1 V2 rfl h1 h2
theorem oU(mode:Int):((bt mode).map (·.length)).sum+(bt mode).length<=1048576:=by
 have h:=lT (ys:=bt mode) fun y hy=>by
  obtain⟨x,hx,rfl⟩:=KI.mp hy;exact qj ((by decide:∀ x∈oV.zipIdx,∀ p∈x.1.2,(Yc p.ch).length<=1) x hx)
 have h2:(bt mode).length=10:=rfl;exact L2 [_,_] (.a V0 V1) (.n 1048576) 1 V0 V1 2 V1 (.n 10) rfl h (eL h2)
structure j5(mode:Int)(tk:Tok)(pl:Nat)(m:X5):Prop where
 mo:m (Yc "mode")=some (.int mode tk)
 p:m (Yc "perm")=some (.ref pl)
def vS(mode:Int)(tk:Tok)(pl:Nat)(ys:List Str)(m:X5)(n:X4):Prop:=j5 mode tk pl m/\bV (fun l k=>n=[(pl,lO l k)]) (fun l _=>StrsAre l ys) (fun l _=>l.length<=1000)
theorem ym(mode:Int)(h:oV[i]?=some e):(bt mode).take (i+1)=(bt mode).take i++[ev mode i e.2]:=by
 obtain⟨hi,rfl⟩:=Lj.mp h;have hl:i<(bt mode).length:=by unfold bt;refine aa (KE _) (aa List.length_zipIdx ?_);exact hi
 refine aa Mm (aa (KJ hl) ?_)
 congr 2
 simp[bt]
theorem rO(mode:Int)(tk:Tok):dT 6 222 [.int mode tk] (fe (aO mode)):=by
 refine' GD (binds:=[(Yc "mode", .int mode tk)]) (by k_is) (by k_is) (by exact fun s X=>LH rfl) (by exact aZ rfl) (by rfl) (by rfl) (by rfl) (by decide) (by exact fun _ _ h=>h.elim) ?_;intro A₀ base dp un gd L outer h₀ os g₀ c E K hE QP hK;refine Kw fun X=>?_;have hT:=um X;refine Gf (Gx (FY ⟨K0 _,fun pl=>?_⟩));show Tr _ _ _ _ _ _;generalize hm:(fun y=>if y=Yc "perm" then some (Value.ref pl) else _)=m0;revert m0;refine wrap ?_;intro m0 hm;have l0:j5 mode tk pl m0:=ae hm ⟨rfl,rfl⟩;clear hm;refine Gu (GH (K₁:=fun fl m n=>fl=.next/\vS mode tk pl (bt mode) m n) ?sF ?sR)
 case sR=>
  rintro _ m n ⟨rfl,lk,l,k,rfl,hs,hz⟩;refine GM (Ga (Gc fun t1=>HM Ow Ox (Gq (FZ (FX lk.p (FY (Io (.head _) hs (by decide) ?_ fun t2=>hK _ _ _ [] (Mw _) ⟨⟨t2,by show Value.str _ _=_;exact aa (yk _) rfl⟩,rfl⟩)))))));exact oU mode
 case sF=>
  intro K2 hK2;refine IN 215 (oV.map fun e=>Value.ref e.1) 0 (fun i=>vS mode tk pl ((bt mode).take i)) QP (X 215 _ (by k_is)) (GT (by k_is) (by boot_fast) (by decide) (Gz (by k_is) (JS (vs:=oV.map fun e=>Value.ref e.1) (kk:=0) (X 215 _ (by k_is)) fun e it oi hti=>⟨e,it,oi,_,rfl,hti,rfl,⟨l0,[],0,rfl, .nil,K0 _⟩,?turn,?last⟩)))
  case last=>
   intro m n h;exact hK2 _ _ _ ⟨rfl,h⟩
  case turn=>
   rintro i x a t oi m n hx ⟨lk,l,k,rfl,hs,hz⟩;rw[LV] at hx;obtain⟨e',he,rfl⟩:=Ls.mp hx;obtain⟨hT1,hT2⟩:=hT e' (LJ he);refine Hp (.inl (.head _)) (Go (Go ?_));show Tr _ _ _ _ _ _;generalize hm:(fun y=>if y=Yc "table" then some (Value.ref e'.1) else _)=m1;revert m1;refine wrap ?_;intro m1 hm;have l1:j5 mode tk pl m1:=ae hm ⟨lk.mo,lk.p⟩;have hi1:m1 (Yc "index")=some (.int (i:Nat) t):=ae hm rfl;have ht1:m1 (Yc "table")=some (.ref e'.1):=ae hm rfl;clear hm lk;have hv:IntsAre [Value.int (i:Nat) t] [((i:Nat):Int)]:= .cons _ _ .nil;refine GW (Lq _ _) (Gu (GH (K₁:=fun fl m n=>fl=.next/\aM (fun PP=>n=(e,cR it ((i:Int)+1) (Value.ref e'.1))::(it,oi)::PP) (fun PP=>vS mode tk pl ((bt mode).take (i+1)) m PP)) ?sI ?sN))
   case sN=>
    rintro _ m n ⟨rfl,PP,rfl,h⟩;exact F6 ⟨PP,rfl,h⟩
   case sI=>
    intro K3 RU;rw[ym mode he] at RU;have hyl:((bt mode).take i).length<=10:=List.length_take_le' _ _;generalize (bt mode).take i=ys at hs RU hyl;revert ys;refine wrap ?_;intro ys hs RU hyl;have hll:=hs.length;generalize cR it ((i:Int)+1) (Value.ref e'.1)=oe at RU⊢;revert oe;refine wrap ?_;intro oe RU;have Yt:∀ {m:X5} {x:Str} {t:Tok} {K:ad Value},(∀ l2 k2,StrsAre l2 (ys++[x])->l2.length<=1000->K .none m [(e,oe),(it,oi),(pl,lO l2 k2)])->Tr c E m [(e,oe),(it,oi),(pl,lO l k)] (call (.builtin "list.append") [.ref pl, .str x t]) K:=fun h=>
     Gs (pre:=[_,_]) rfl (KF hz (by decide)) (h _ _ (MZ hs (.cons _ _ .nil)) (by refine aa KH (aa hll ?_);show ys.length+1<=1000;exact L1 [_] (.a V0 W1) (.n 1000) 1 V0 (.n 10) rfl hyl))
    refine Hw (fun S j m n=>j5 mode tk pl m/\m (Yc "index")=some (.int (i:Nat) t)/\n=[(e,oe),(it,oi),(pl,lO l k)]/\∀ q∈e'.2.take j,ek mode i q=false) QP (FX ht1 ⟨.YH e'.1 (e'.2.map fun p=>Value.ref p.a) 0,rfl,by show (e'.2.map _).length<=1000;refine aa (KE _) ?_;exact(by decide:∀ e∈oV,e.2.length<=1000) e' (LJ he),⟨l1,hi1,rfl,fun q hq=>(nomatch hq)⟩,fun _ _ _ _=> .inr hT1,?YG,?last2⟩)
    case last2=>
     rintro m n ⟨l2,SZ,rfl,Q6⟩;replace Q6:∀ q∈e'.2.take (e'.2.map fun p=>Value.ref p.a).length,ek mode i q=false:=Q6;rw[KE,Lk] at Q6;have UX:=yl Q6;refine Gk (Gb (FX SZ (F7 fun t0=>GY (F9 ?_))))
     by_cases h0:i=0
     ·refine aa (show (((i:Nat):Int)==0)=true by simpa using h0) ?_
      rw[KW h0] at UX;exact Ge (Ga (FX l2.p (Gj co Lo Lg (Gq (FZ (Gc fun t3=>FY (Yt fun l3 k3 h1 h2=>F6 (F6 (RU _ _ _ ⟨rfl,_,rfl,l2,l3,k3,rfl,by refine aa UX ?_;exact h1,h2⟩)))))))))
     ·refine aa (show (((i:Nat):Int)==0)=false by simpa using h0) ?_
      rw[KM h0] at UX;exact Ge (Ga (FX l2.p (Gj co Lo Lg (Gq (FZ (Gc fun t3=>FY (Yt fun l3 k3 h1 h2=>F6 (F6 (RU _ _ _ ⟨rfl,_,rfl,l2,l3,k3,rfl,by refine aa UX ?_;exact h1,h2⟩)))))))))
    case YG=>
     rintro j x I oI m n KT hj hx ⟨l2,SZ,rfl,Q6⟩ RV;have hx:(e'.2.map fun p=>Value.ref p.a)[j]?=some x:=hx;rw[LV] at hx;obtain⟨p,hp,rfl⟩:=Ls.mp hx;refine Hp (.inr (hT2 p (LJ hp))) (Go (Go ?_));show Tr _ _ _ _ _ _;generalize hm:(fun y=>if y=Yc "char" then some (Value.str (Yc p.ch) p.tc) else _)=m3;revert m3;refine wrap ?_;intro m3 hm;have l3:j5 mode tk pl m3:=ae hm ⟨l2.mo,l2.p⟩;have hi3:m3 (Yc "index")=some (.int (i:Nat) t):=ae hm SZ;have hb3:m3 (Yc "bit")=some (.int p.bit p.tb):=ae hm rfl;have hc3:m3 (Yc "char")=some (.str (Yc p.ch) p.tc):=ae hm rfl;clear hm l2 SZ;have QE:ek mode i p=true->∀ l2 k2,StrsAre l2 (ys++[Yc p.ch])->l2.length<=1000->K3 .next m3 [(e,oe),(it,oi),(pl,lO l2 k2)]:=fun h l4 k4 h1 h2=>by
      rw[zY hp Q6 h] at RU;exact RU _ _ _ ⟨rfl,_,rfl,l3,l4,k4,rfl,h1,h2⟩
     have nxt:ek mode i p=false->KT .next m3 [(I,oI),(e,oe),(it,oi),(pl,lO l k)]:=fun h=>RV _ _ _ ⟨_,rfl,l3,hi3,rfl,fun q hq=>by
      rw[Mm,hp] at hq;rcases KK.mp hq with hq|hq
      ·exact Q6 q hq
      ·refine aa (KD.mp hq) ?_;exact h⟩
     have brk:∀ m n,K3 .next m n->KT .brk m n:=fun _ _ h=>RV _ _ _ h;refine Gk (Gb (FX hi3 (F7 fun t0=>GY (F9 ?_))))
     by_cases h0:i=0
     ·refine aa (show (((i:Nat):Int)==0)=true by simpa using h0) ?_
      have hb:ek mode i p=(Builtin.bitAnd mode 61440==p.bit):=by unfold ek;exact aa (KW h0) rfl
      refine Gk (Gb (GE (f:=175) (fun J h=>Gz (by k_is) h) (by k_is) (FX l3.mo ((tL mode tk).to (by show 2<=5;decide) ?_))));rintro _ ⟨t4,rfl⟩;refine FX hb3 (GY (F9 ?_));refine ae hb ?_
      cases hh:ek mode i p
      ·exact F6 (F6 (F6 (nxt hh)))
      ·exact Ge (Ga (FX l3.p (Gj ir Lo Lg (Gq (FZ (FX hc3 (FY (GW (Lq _ _) (Yt fun l4 k4 h1 h2=>Jp (brk _ _ (QE hh l4 k4 h1 h2)))))))))))
     ·refine aa (show (((i:Nat):Int)==0)=false by simpa using h0) ?_
      have hb:ek mode i p=(Builtin.bitAnd mode p.bit==p.bit):=by unfold ek;exact aa (KM h0) rfl
      refine Gk (Gb (F8 (FX l3.mo (FX hb3 (Iz fun t4=>FX hb3 (GY (F9 ?_)))))));refine ae hb ?_
      cases hh:ek mode i p
      ·exact F6 (F6 (F6 (nxt hh)))
      ·exact Ge (Ga (FX l3.p (Gj ir Lo Lg (Gq (FZ (FX hc3 (FY (GW (Lq _ _) (Yt fun l4 k4 h1 h2=>Jp (brk _ _ (QE hh l4 k4 h1 h2)))))))))))
theorem A4:Slot "method_descriptor" "__get__" "method_descriptor.__get__":=
 .of (owner:="method_descriptor") (n:="__get__") (by refine aa (Oj _ _) (aa Nc ?_);kernel_rfl) (by decide+kernel) (by decide+kernel) (by decide+kernel)
  (by first|exact .inl (by decide+kernel)|exact .inr (by decide+kernel)) (by refine aa (NW _ _) ?_;kernel_rfl)
theorem Al:typeLookup (.type "method_descriptor") "__set__"=Pure.pure none:=by refine aa (Oj _ _) (aa Nc ?_);kernel_rfl
theorem Ak:typeLookup (.type "method_descriptor") "__delete__"=Pure.pure none:=by refine aa (Oj _ _) (aa Nc ?_);kernel_rfl
theorem oO:entryFor table "method_descriptor.__get__"=some Builtin.«method_descriptor.__get__»:=OI (by kernel_rfl)
theorem qa(a b c:Value):argsOk "method_descriptor.__get__" ⟨[a,b,c],[]⟩:=by unfold argsOk;kernel_rfl
theorem je:(".".intercalate ("list.append".cutAt '.').dropLast)="list":=by
 have e0:"list.append".cutAt '.'=["list","append"]:=by first|rfl|decide+kernel
 refine aa e0 ?_;decide+kernel
theorem mJ:isSubtype (.type "list") (.type (".".intercalate ("list.append".cutAt '.').dropLast))=Pure.pure true:=by
 refine aa je (aa (NW _ _) ?_);kernel_rfl
theorem qC:Manifest.toldItsClass.contains "list.append"=false:=by decide+kernel
theorem uE:typeLookup (.type "list") "append"=Pure.pure (some (.builtin "list.append")):=by refine aa (Oj _ _) (aa Nc ?_);kernel_rfl
section
variable{A:Around}{E:X6}{hp:Heap}{g:Array GenState}{d:Drawn}{tk:Nat}{os:OsState}{a:Addr}{xs:Array Value}{k:Nat}
theorem rJ(hx:hp.get? a=some (listOf xs k))(hq:R (.ok (.ret (.ref hp.objs.size))) ⟨hp.push (be "list.append" (.ref a)),g,d,tk,os⟩):
  codeAny MP A (.call (.builtin "method_descriptor.__get__") ⟨[.builtin "list.append", .ref a, .type "list"],[]⟩) R ⟨hp,g,d,tk,os⟩:=by
 have hT:(⟨hp,g,d,tk,os⟩:Shared).TypeIs (.ref a) "list":=⟨_,hx,rfl⟩;have hT5:(⟨hp,g,d,tk,os⟩:Shared).TypeIs (.builtin "list.append") "method_descriptor":=Lg;have f8:=mJ;have f9:=qC;refine OG A4.plain oO (A4.check _ _ _ _ _ _ _ _ hT5 (qa _ _ _) ?_);unfold Builtin.«method_descriptor.__get__»
 repeat (any_goals (first|assumption|wp_step))
theorem oA(hx:hp.get? a=some (listOf xs k))(hq:Q (.done (.ret (.ref hp.objs.size))) ⟨hp.push (be "list.append" (.ref a)),g,d,tk,os⟩):
  wpAny MP A (Builtin.«object.__getattribute__» ⟨[.ref a, .str "append" t],[]⟩) Q E ⟨hp,g,d,tk,os⟩:=by
 have hT:(⟨hp,g,d,tk,os⟩:Shared).TypeIs (.ref a) "list":=⟨_,hx,rfl⟩;have hT5:(⟨hp,g,d,tk,os⟩:Shared).TypeIs (.builtin "list.append") "method_descriptor":=Lg;have f4:=uE;have f5:=Lg;have f6:=A4.lookup;have f7:=Al;have f8:=Ak;unfold Builtin.«object.__getattribute__»
 repeat (any_goals (first|assumption|wp_step))
 refine rJ hx ?_
 repeat (any_goals (first|assumption|wp_step))
theorem pZ(hx:hp.get? a=some (listOf xs k))(hq:R (.ok (.ret (.ref hp.objs.size))) ⟨hp.push (be "list.append" (.ref a)),g,d,tk,os⟩):
  codeAny MP A (.call (.builtin "list.__getattribute__") ⟨[.ref a, .str "append" t],[]⟩) R ⟨hp,g,d,tk,os⟩:=
 OG Nl.plain am_entry_list_getattribute (Nl.check _ _ _ _ _ _ _ _ (show (⟨hp,g,d,tk,os⟩:Shared).TypeIs (.ref a) "list" from⟨_,hx,rfl⟩) (PySem.F.args_list_getattribute_2 _ _) (oA hx hq))
theorem mv(hx:hp.get? a=some (listOf xs k))(hq:Q (.ref hp.objs.size) ⟨hp.push (be "list.append" (.ref a)),g,d,tk+1,os⟩):wpAny MP A (getAttr (.ref a) "append" true) Q E ⟨hp,g,d,tk,os⟩:=by
 have hT:∀ TV,(⟨hp,g,d,TV,os⟩:Shared).TypeIs (.ref a) "list":=fun _=>⟨_,hx,rfl⟩;have f3:=Nl.lookup;have f4:=Nl.bind (.ref a);unfold getAttr getAttrBy
 repeat (any_goals (first|assumption|exact hT _|wp_step))
 refine pZ hx ?_
 repeat (any_goals (first|assumption|wp_step))
end
section
variable{c:Fx}{E:X6}{m:X5}{n:X4}{J:ad Value}
theorem I7(hm:(a,listOf xs k)∈n)(h:∀ q:Nat,J (.ref q) m ((q,be "list.append" (.ref a))::n)):Tr c E m n (getAttr (.ref a) "append" true) J:= .mk fun s l=>
 mv (l.N _ hm).1 ⟨m,_,(l.push (be "list.append" (.ref a))).tok,h _⟩
variable{K:ad Flow}{env:Env}
theorem JA(h:Tr c E m n (eval o env) fun v m' n'=>gR (fun(l:Nat) (vs:X8) (k:Nat)=>v=.ref l) (fun l vs k=>(l,lO vs k)∈n') (fun _ vs _=>vs.length<=1000) (fun _ vs _=>∀ D:Nat,J (.ref D) m' ((D,lO (vs.drop j) 0)::n')))
  (hs:∀ l r,subscripted (.Slice (some (.Constant (.int (j:Int)) kk pc)) none none ps) false (.ref l) (.ref r)=operate [.ref r, .ref l] (getItem (.ref l) (.ref r)):=by intro l r;with_unfolding_all rfl) (ht:∀ l r,letTemporaryGo o (.ref l) r=Pure.pure ():=by intro _ _;with_unfolding_all rfl):
  Tr c E m n (eval (.Subscript o (.Slice (some (.Constant (.int (j:Int)) kk pc)) none none ps) p) env) J:= .mk fun s l=>
 Oa (up (h.go s l) fun v s1 hv=>wpAny_Slice (by
  obtain⟨m',n',l1,a,vs,k,e,hm,hz,q⟩:=hv;subst e;refine Nd (k:=kk) (pos:=pc) (KC (KC ?_));refine slice_list (s:={s1 with toks:=_}) l1.F l1.N ⟨_,(l1.N _ hm).1,rfl,k,rfl⟩ (.int _ _) .none (fun h' F' N'=>?_) (hs a _) (ht a) (by refine aa Lf (aa Lu ?_);exact bd hz);rw[slicePick_from'] at N';exact⟨m',_,l1.to F' N' (l1.D.fresh fun p hp=>LG (KO (l1.N p hp).1)) l1.G rfl,q _⟩))
theorem G2(hf:∀ J:ad Value,J (.ref f) m n->Tr c E m n (eval (.Name x xp) env) J)(hk:keepIn (am w.params) (.ref f)=true)(h:Tr c E m n (spliced (backTo p (starEach (e::r) env))) (kT c E (fun vs=>call (.ref f) vs) J))
  (he:starEach (e::r) env=(false,eval e env)::starEach r env:=by rfl) (hp:(backTo p (starEach r env)).any (·.1)=false:=by rfl):Tr c E m n (eval (.Call (.Name x xp) (e::r) [] p) env) J:= .mk fun s l=>
 LB rfl (c6 ((hf (fun v m' n'=>v=.ref f/\m'=m/\n'=n) ⟨rfl,rfl,rfl⟩).go s l) fun _ s' _ _ l' hv=>by
  obtain⟨e1,e2,e3⟩:=hv;subst e1 e2 e3;exact callWith_K l'.X hk (F0 l' h fun vs s1 _ _ l1 q=>by
   exact⟨l1.X.keeps l1.F.keep,q.go _ l1⟩) he hp)
theorem I8(hf:∀ J:ad Value,J (.ref f) m n->Tr c E m n (eval (.Name x xp) env) J)(hk:keepIn (am w.params) (.ref f)=true)
  (h:Tr c E m n (eval e env) fun v m n=>Tr c E m n (eval e1 env) fun v1 m n=>Tr c E m n (eval e2 env) fun v2 m n=>Tr c E m n (call (.ref f) [v] [(k1,v1),(k2,v2)]) J)
  (he:starEach [e] env=(false,eval e env)::starEach [] env:=by rfl):Tr c E m n (eval (.Call (.Name x xp) [e] [⟨some k1,e1,p1⟩,⟨some k2,e2,p2⟩] p) env) J:= .mk fun s l=>
 wpAny_Call_Name_kw (c6 ((hf (fun v m' n'=>v=.ref f/\m'=m/\n'=n) ⟨rfl,rfl,rfl⟩).go s l) fun _ s' _ _ l' hv=>by
  obtain⟨e1,e2,e3⟩:=hv;subst e1 e2 e3;refine callWith_KW l'.X hk rfl (Ll (up (h.go s' l') fun v s1 hv=>Lz ?_) he) (by refine aa he ?_;rfl) he;obtain⟨_,_,l1,q⟩:=hv;refine kws_cons (F0 l1 q fun v1 s2 _ _ l2 q=>?_);refine kws_cons (up (q.go s2 l2) fun v2 s3 hv=>kws_nil ?_);obtain⟨_,_,l3,q⟩:=hv;exact⟨l3.X.keeps l3.F.keep,q.go s3 l3⟩)
abbrev Eh(x:Str)(K:ad Flow):ad Value:=fun v m n=>K .next (fun y=>if y=x then some v else m y) n
theorem IT(h:Tr c E m n (eval e c.env) (Eh x K))(hx:c.env.kindOf x=some .local:=by rfl)(hs:swapsWith e (some (.Name x p')) p.line c.env=Pure.pure false:=by rfl):
  Tr c E m n (exec (.Assign [.Name x p'] e p) c.env) K:= .mk fun s l=>
 Pc (F0 l h fun _ s' _ _ l' q=>by
  exact storeX_L l'.F l'.N (fun _ F' N'=>⟨_,_,l'.to F' N' l'.D l'.G rfl,q⟩) l'.hk hx) hs
theorem Ju
  (h:Tr c E m n (eval iter c.env) (rq c PM P8 P0 scope cls c.env fun D _ m' n'=>K .next (fun z=>if z=y then some (.ref D) else m' z) n'))
  (Rw:swapsWith (.ListComp P0 [⟨PM,iter,P8,0⟩] scope pos) (some (.Name y py)) Q9.line c.env=Pure.pure true:=by rfl)
  (Qj:closureFor scope c.env=Pure.pure cls:=by rfl) (P4:scope.kind=.function:=by rfl) (P7:∀ x∈scope.names,x.2=.local->scope.names.lookup x.1=some .local:=by decide) (P6:∀ y∈scope.names,y.2≠ .cell:=by decide)
  (hy:c.env.kindOf y=some .local:=by rfl) (hp:(c.env.scope.kind== .class||(c.env.scope.kind== .module&&c.env.locals !=c.env.globals))=false:=by rfl) (RY:∀ x,foldedSetIterable iter c.env x=Pure.pure x:=by intro _;rfl):
  Tr c E m n (exec (.Assign [.Name y py] (.ListComp P0 [⟨PM,iter,P8,0⟩] scope pos) Q9) c.env) K:= .mk fun s l=>by
 refine fF (h₀:=c.h₀) Rw Qj P4 P7 P6 hy rfl hp (F0 l h fun v s' m' n' l' hv=>?_) RY;obtain⟨S,P,rfl,hm,hz,Sz,turn,last⟩:=hv;exact HB S _ l' hm ⟨Sz,KZ 0⟩ hz (turn.toB (by exact L1 [_] (.a W0 V0) (.n 100000) 1 V0 (.n 1000) rfl hz)) fun D C mC PL g cD s2 hp l2 Rt=>fun h' tk F3 N3=>⟨_,_,l2.to F3 N3 l2.D l2.G rfl,last D mC PL g cD (by have:=hp.2;exact L1 [_,_] V0 V1 1 V0 (.a W0 V1) rfl hp.2) hp.1⟩
def a0:AW:={decl:=[[bq]],ns:=[[]],pm:=[],Yh:=[],Yg:=none,data:=none,seen:=false}
def nV(row:Str):Str:=Yc "{"++row++Yc "}t"
def bL(aA:List Str)(k:Str):Bool:=decide (k∈(aA.drop 1).map nV)
def dB(aA:List Str)(Yi ag:X9):Str×Str:=match dQ (bL aA) Yi ag aA a0 with
 | .ok a=>(Txt.join (Yc "") a.Yh,Yc "none")
 | .error (e,PY)=>(Txt.join (Yc "") PY,e)
def dD(PY:List Str):Prop:=(PY.map (·.length)).sum+PY.length<=1048576
structure ke(aA:List Str)(Yi ag:X9):Prop where
 hP:∀ j st,j<aA.length->b9 (bL aA) Yi ag aA (a0,[]) j=.ok st->mi (bL aA) j (Yi.getD j 0) (ag.getD j 0) (aA.getD j ⟨#[]⟩) st
 hD:∀ st,b9 (bL aA) Yi ag aA (a0,[]) aA.length=.ok st->fy st.2.reverse st.1/\st.2.length<=1000/\∀ ut∈st.2,PyData.strOk (ah ut.1 ut.2)=true
 w1:∀ a,dQ (bL aA) Yi ag aA a0=.ok a->dD a.Yh
 w2:∀ e PY,dQ (bL aA) Yi ag aA a0=.error (e,PY)->dD PY
theorem oN:∀ (l PN:List (Str×Value)),x∈(l.foldl cj PN).map (·.1)↔x∈PN.map (·.1)∨x∈l.map (·.1)
 |[],PN=>by simp
 |y::l,PN=>by
  (refine aa L7 ?_;rw[oN l])
  unfold cj
  split
  ·rename_i h
   simp only[LA,KG]
   constructor
   ·rintro(h|h)
    ·exact .inl h
    ·exact .inr (.inr h)
   ·rintro(h1|rfl|h1)
    ·exact .inl h1
    ·exact .inl h
    ·exact .inr h1
  ·simp only[KN,LA,OU,KK,KG,Lw,O0,or_assoc]
theorem wA{n:X4}(h:aw n){idx:List Nat}(hi:idx.Nodup):aw (idx.filterMap (n[·]?)):=by
 unfold aw at*
 induction idx with
 |nil=>exact MC
 |cons i idx ih=>
  obtain⟨h1,h2⟩:=Lx.mp hi;refine aa List.filterMap_cons ?_
  split
  ·exact ih h2
  ·rename_i p hp
   refine Lx.mpr ⟨fun hm=>?_,ih h2⟩;obtain⟨q,hq,e⟩:=KI.mp hm;obtain⟨j,hj,hq⟩:=OV.mp hq;obtain⟨Th,hie⟩:=Lj.mp hp;obtain⟨Vs,S1⟩:=Lj.mp hq;have:j=i:=(List.getElem_inj (xs:=n.map (·.1)) (h₀:=by rwa [KE]) (h₁:=by rwa [KE]) h).mp (by refine aa (NY _) (aa (NY _) (aa hie (aa S1 ?_)));exact e);exact h1 (this▸hj)
end
theorem ax.idx(l:ax c s m n)(idx:List Nat)(hi:idx.Nodup):ax c s m (idx.filterMap (n[·]?)):=
 l.to l.F (fun p hp=>by obtain⟨i,_,hp⟩:=OV.mp hp;exact l.N p (LJ hp)) (wA l.D hi) l.G rfl
theorem IH{c:Fx}{E:X6}{m:X5}{n:X4}{α:Type}{p:Sem α}{K:ad α}(idx:List Nat)(hi:idx.Nodup)(h:Tr c E m (idx.filterMap (n[·]?)) p K):Tr c E m n p K:= .mk fun s l=>h.go s (l.idx idx hi)
theorem Cd{t:Nat->Tok}{dl YH nl:Nat}{tu tp:Tok}{po:Obj}(hp:po.IsDictOf (PySem.strKind PR w) ([]:List (Str×Value))):
  bB ⟨t, .none,false,false,17,[(dl,[⟨YH,bq.1,bq.2,tu,tp⟩],0)],0,po,[],0,[.bool false],0,[(nl,[],0)],1,[],0,#[],[],[]⟩ a0:=
 ⟨rfl,rfl,⟨[],hp, .nil⟩, .nil,rfl, .inl ⟨rfl,rfl⟩,rfl,⟨rfl,rfl⟩,rfl⟩
theorem sw{vs:X8}{ys:List Str}(h:StrsAre vs ys):fJ (fun(xs:List (Str×Value))=>vs=xs.map (·.2)) (fun xs=>ys=xs.map (·.1)) (fun xs=>∀ p∈xs,∃ t,p.2=.str p.1 t):=by
 induction h with
 |nil=>exact⟨[],rfl,rfl,fun _ h=>absurd h Lw⟩
 |cons y t h ih=>
  obtain⟨xs,rfl,rfl,h2⟩:=ih;exact⟨(y, .str y t)::xs,rfl,rfl,fun p hp=>(KG.mp hp).elim (fun e=>⟨t,by exact aa e rfl⟩) (h2 p)⟩
theorem lS(h:StrsAre vs ys):StrsAre (vs.drop 1) (ys.drop 1):=by
 cases h with
 |nil=>exact .nil
 |cons y t h=>exact h
structure A6(c:Fx)(Uy:X4)(m:X5)(J:ad Value)(Q:Flow->Shared->Prop):Prop where
 B:Below c.A₀ c.base c.outer c.h₀
 X:(am w.params).In c.base
 T:rv (fun Qt mg mb=>TT Qt mg mb c.base)
 D:KtsDicts (c.outer.filterMap (·.frame)) c.h₀
 out:∀ fl s' m' n',ax c s' m' n'->J (cv fl) m n'->Q fl s'
 turned:∀ v s' g' m' n',KtsTurn (c.outer.filterMap (·.frame)) c.h₀ g'->Fr g' c.L s'.heap m'->News g' c.L s'.heap n'->aw n'->AllBare s'.gens->s'.os=c.os->J v m n'->Q (.ret v) s'
theorem zV{A₀:Around}{h₀:Heap}{k dp un:Nat}{gd:Option (List Code)}{cn:Str}{cs:Scope}{L a:Addr}{ccd:Value}{os:OsState}{E:X6}{m:X5}{J:ad Value}{f:Addr}{args:X8}{n:X4}
  {name qual:Str} {params:Arguments} {body:Yb} {scope:Scope} {dV kV doc pm PV ct oc:Value} {an od:Option Addr} {RL:Array (Option Value)} {binds:List (Str×Value)}
  (ho:(am w.params).lookup f=some ⟨oc,od, .func (fnOf name qual params body scope dV kV doc pm an PV ct),RL⟩) (QZ:codeIn (am w.params) PV qual=true)
  (Qv:∀ s:Shared,(am w.params).In s.heap->BindsTo s (fnOf name qual params body scope dV kV doc pm an PV ct) ⟨args,[]⟩ binds) (Rz:∀ y∈binds,scope.names.lookup y.1=some .local)
  (Q0:scope.isCoroutine=false) (QV:scope.isGenerator=false) (hk:scope.kind=.function) (P6:∀ x∈scope.names,x.2≠ .cell)
  (hb:∀ g L' g₀,let c:Fx:=⟨ktrTop dp un gd cn cs L a ccd [] [],h₀,k,dp+1,un+3,gd,qual,scope,L',f,PV,[],[envX cn cs L a ccd []],g,os,g₀⟩;∀ Q E2,A6 c n m J Q->∀ s2,ax c s2 (fun y=>binds.reverse.lookup y) n->wpAny MP c.A (execs body c.env) Q E2 s2):
  Tr (⟨A₀,h₀,k+1,dp,un,gd,cn,cs,L,a,ccd,[],[],h₀,os,#[]⟩:Fx) E m n (call (.ref f) args) J:=by
 refine .mk fun s l=>?_;have hd:dp+(k+1)<recursionLimit:=l.hd;have hu:un+20*(k+1)<cLine:=l.hu;obtain⟨Qt,mg,mb,T⟩:=l.T;refine OJ ?_;refine code_defS0 l.B l.F l.X l.N T rfl ho QZ (by show dp<recursionLimit;exact iR hd) (Qv s (l.X.keeps l.F.keep)) Rz ?_ l.hk Q0 QV hk P6;intro g L' h₁ FG F' N' B' X' T' D';have fin:∀ {s' m' n' g' v},KtsTurn ([envX cn cs L a ccd []].filterMap (·.frame)) g g'->Fr g' L' s'.heap m'->News g' L' s'.heap n'->aw n'->AllBare s'.gens->s'.os=os->J v m n'->
   LeaveS0 ([envX cn cs L a ccd []].filterMap (·.frame)) h₀ L m g (wants (fun v s'=>bG (fun m' n'=>ax (⟨A₀,h₀,k+1,dp,un,gd,cn,cs,L,a,ccd,[],[],h₀,os,#[]⟩:Fx) s' m' n') (fun m' n'=>J v m' n')) E) v s':=fun t F N D G O q=>
  leaveS0_ F N t fun F2 N2=>⟨m,_,⟨l.B,l.X,l.T,l.hk,l.hd,l.hu,F2,N2,D,⟨G,fun h=>absurd h (Pm _)⟩,O⟩,q⟩
 refine K7 (hb g L' s.gens _ (fun e s'=>wpAny MP (Around.deeper _ _) (leaving _ e) (fun _ Qh=>E e Qh) (fun e' Qh=>E e' Qh) s') ⟨B',l.X,l.T,D',fun fl s' m' n' l' q=>?_,fun v s' g' m' n' t F N D G O q=>fin t F N D G O q⟩ _ ⟨B',X',⟨_,_,_,T'⟩,hk,by show dp+1+k<recursionLimit;exact L1 [_,_,_] (.a (.a (.a V0 W1) V1) W1) V2 1 (.a (.a V0 (.a V1 W1)) W1) V2 rfl hd,by show un+3+20*k<cLine;exact L1 [_,_,_] (.a (.a (.a V0 (.n 3)) (.m 20 V1)) W1) V2 1 (.a (.a V0 (.m 20 (.a V1 W1))) W1) V2 rfl hu,F',N',l.D,⟨l.G.1,fun _=>rfl⟩,l.O⟩) (fun _ _ z=>z) fun _ _ z=>z
 cases fl<;>exact fin KtsTurn.refl l'.F l'.N l'.D l'.G.1 l'.O q
theorem sL
(F:Fr h₀ L s.heap m) (N:News h₀ L s.heap news) (N3:News h₀ L s.heap Vd) (G:Got Vd e t (.type "ValueError") [.str PO tw]) (X:(am w.params).In h₀) (T:TT Qt mg mb h₀) (hu:B.units+2<cLine) (hk:cs.kind=.function)
  (hp:m (Yc "page")=some (.ref pa)) (he:m (Yc "error")=some (.ref e)) (hpa:(pa,lO pg cg)∈news) (hs:StrsAre pg PY) (hw:dD PY)
  (hkp:(envX cn cs L a ccd []).kindOf (Yc "page")=some .local) (SE:(envX cn cs L a ccd []).kindOf (Yc "error")=some .local) (SF:(envX cn cs L a ccd []).kindOf (Yc "str")=some .globalImplicit)
(hec:eval (.Call (.Attribute (.Constant (.str (Yc "")) kc p1) (Yc "join") p2) [.Name (Yc "page") p3] [] p4) (envX cn cs L a ccd [])=(do
   let ov←eval (.Constant (.str (Yc "")) kc p1) (envX cn cs L a ccd [])
   standAt p2.atName
   let (f,first)←holding [ov] (getMethod ov (Yc "join") pl)
   callWith p4 f first (backTo p4 (starEach [.Name (Yc "page") p3] (envX cn cs L a ccd []))) []))
  (h:∀ T t1 h' tk,T=s.heap.objs.size->h'=s.heap.push (bl (.str (Txt.join (Yc "") PY) t1) (.str PO tw) 0)->Q (.ret (.ref T)) {s with heap:=h',toks:=tk}):
  wpAny MP B (execs (.Return (some (.Tuple [.Call (.Attribute (.Constant (.str (Yc "")) kc p1) (Yc "join") p2) [.Name (Yc "page") p3] [] p4, .Call (.Name (Yc "str") p5) [.Name (Yc "error") p6] [] p7] kk p8)) p9::r) (envX cn cs L a ccd [])) Q E s:=by
 refine Lp (wpAny_Return_some (wpAny_Tuple (Ll (MethodCall_ (wpAny_Constant_str ?_) hec))));refine Pb (typeIs_str _ _ _) Pg Ow Ox (fun a e=>by cases e) ?_;refine N7 (Ll (nameX_L (s:={s with toks:=_}) F hp (Lz ?_) hk hkp));refine join_listW ⟨_,(N _ hpa).1,rfl,cg,rfl⟩ hs (by decide) hw fun _ t1=>?_;refine Ll (LB rfl (nameX_B (s:={s with toks:=_}) F X (topRead_of T) (by k_is) PyProof.Rows.Boot.«str» (by decide) ?_ hk SF));refine callWith_type1 (Ll (nameX_L (s:={s with toks:=_}) F he (Lz ?_) hk SE));refine str_got_one PySem.F.excStr_ValueError N3 G hu (Lz ⟨by refine aa Lf ?_;exact KA rfl,?_⟩);exact h _ _ _ _ rfl rfl
theorem wK:Nonempty Around:=⟨callerA⟩
namespace TOk
def Q(A₀:Around)(h₀:Heap)(k dp un:Nat)(gd:Option (List Code))(cn:Str)(cs:Scope)(L a:Addr)(ccd:Value)(os:OsState)(E:X6)(m:X5)(J:ad Value)(Yi ag:X9)(aR Yo:X8)(kd km dl ml:Nat):Prop:=∀ (hk:13<=k) (RO:IntsAre aR Yi) (QQ:IntsAre Yo ag) (hz:ag.length<=Yi.length/\Yi.length<=100) (P2:2<=ag.length) (Sp:∀ y∈ag,(aO y).length<=100) (hT:ke (ag.map aO) Yi ag) (hJ:∀ (T:Nat) t1 t2 tb,J (.ref T) m [(T,bl (.str (dB (ag.map aO) Yi ag).1 t1) (.str (dB (ag.map aO) Yi ag).2 t2) 0),(123,tabObj tb),(dl,lO aR kd),(ml,lO Yo km)]),Tr (⟨A₀,h₀,k+1,dp,un,gd,cn,cs,L,a,ccd,[],[],h₀,os,#[]⟩:Fx) E m [(dl,lO aR kd),(ml,lO Yo km),(123,tabObj #[])] (call (.ref 248) [.ref dl, .ref ml]) J
def P_(y:((((Around×Heap)×Nat)×(Nat×Nat)×(Option (List Code)))×((Str×Scope)×Addr)×(Addr×Value)×OsState)×(((X6×X5)×(ad Value))×(X9×X9)×X8)×((X8×Nat)×Nat)×Nat×Nat):Prop:=Q y.1.1.1.1.1 y.1.1.1.1.2 y.1.1.1.2 y.1.1.2.1.1 y.1.1.2.1.2 y.1.1.2.2 y.1.2.1.1.1 y.1.2.1.1.2 y.1.2.1.2 y.1.2.2.1.1 y.1.2.2.1.2 y.1.2.2.2 y.2.1.1.1.1 y.2.1.1.1.2 y.2.1.1.2 y.2.1.2.1.1 y.2.1.2.1.2 y.2.1.2.2 y.2.2.1.1.1 y.2.2.1.1.2 y.2.2.1.2 y.2.2.2.1 y.2.2.2.2
def y_:((((Around×Heap)×Nat)×(Nat×Nat)×(Option (List Code)))×((Str×Scope)×Addr)×(Addr×Value)×OsState)×(((X6×X5)×(ad Value))×(X9×X9)×X8)×((X8×Nat)×Nat)×Nat×Nat:=pk (cC (cC (cC (cC (cC wK inferInstance) inferInstance) inferInstance) inferInstance) inferInstance) P_
def A₀:Around:=y_.1.1.1.1.1
def h₀:Heap:=y_.1.1.1.1.2
def k:Nat:=y_.1.1.1.2
def dp:Nat:=y_.1.1.2.1.1
def un:Nat:=y_.1.1.2.1.2
def gd:Option (List Code):=y_.1.1.2.2
def cn:Str:=y_.1.2.1.1.1
def cs:Scope:=y_.1.2.1.1.2
def L:Addr:=y_.1.2.1.2
def a:Addr:=y_.1.2.2.1.1
def ccd:Value:=y_.1.2.2.1.2
def os:OsState:=y_.1.2.2.2
def E:X6:=y_.2.1.1.1.1
def m:X5:=y_.2.1.1.1.2
def J:ad Value:=y_.2.1.1.2
def Yi:X9:=y_.2.1.2.1.1
def ag:X9:=y_.2.1.2.1.2
def aR:X8:=y_.2.1.2.2
def Yo:X8:=y_.2.2.1.1.1
def kd:Nat:=y_.2.2.1.1.2
def km:Nat:=y_.2.2.1.2
def dl:Nat:=y_.2.2.2.1
def ml:Nat:=y_.2.2.2.2
theorem go:Q A₀ h₀ k dp un gd cn cs L a ccd os E m J Yi ag aR Yo kd km dl ml:=by
 intro hk RO QQ hz P2 Sp hT hJ;refine' zV (binds:=[(Yc "deeds", .ref dl),(Yc "modes", .ref ml)]) (by k_is) (by k_is) (by exact fun s X=>LH rfl) (by exact aZ rfl) (by rfl) (by rfl) (by rfl) (by decide) ?_;intro g L' g₀ c Q E2 hI s2 l2;have Rq:=QQ.length;have SX:=RO.length;have WM:∀ y∈ag.map aO,y.length<=100:=fun y hy=>by obtain⟨z,hz,rfl⟩:=KI.mp hy;exact Sp z hz
 generalize Wo:ag.map aO=aA at hT hJ WM;revert aA;refine wrap ?_;intro aA Wo hT hJ WM;have Sr:aA.length=ag.length:=by exact ae Wo (aa (KE _) rfl)
 generalize P5:(fun y=>[(Yc "deeds",Value.ref dl),(Yc "modes",Value.ref ml)].reverse.lookup y)=m0 at l2;revert m0;refine wrap ?_;intro m0 P5 l2;have d0:m0 (Yc "deeds")=some (.ref dl):=ae P5 rfl;have e0:m0 (Yc "modes")=some (.ref ml):=ae P5 rfl;clear P5;refine Lp (F0 l2 (Ju (K:=fun fl m n=>fl=.next/\eg (fun(rl:Nat) (dm:X8) (kr:Nat)=>StrsAre dm aA) (fun rl _ _=>m=(fun z=>if z=Yc "rows" then some (.ref rl) else m0 z)) (fun rl dm kr=>n=[(rl,lO dm kr),(dl,lO aR kd),(ml,lO Yo km),(123,tabObj #[])]))
  (FX e0 ⟨.list ml Yo km,fun j mC PL g=>g=[]/\StrsAre PL ((ag.take j).map aO),rfl, .inl aJ,by show Yo.length<=1000;exact L3 [_,_,_] V2 (.n 1000) 1 V0 V1 1 V1 (.n 100) 1 V2 V0 rfl hz.1 hz.2 (eL Rq),⟨rfl, .nil⟩,?YI,fun D mC PL g cD _ hp=>⟨rfl,D,PL,cD,?rows1,rfl,by refine aa hp.1 ?_;rfl⟩⟩)) fun fl s3 m3 n3 l3 q3=>?_)
 case rows1=>
  have:=hp.2;rw[show dv.N (.list ml Yo km)=ag.length from Rq,Lk,Wo] at this;exact this
 case YI=>
  rintro E' j x PL g I D C oI oC mC cD Y N hj hx ⟨rfl,hs⟩ xC hY hN;have hj:j<ag.length:=ae Rq hj;obtain⟨t,e⟩:=dr QQ hj;have hx:Yo[j]?=some x:=hx;rw[e] at hx
  cases hx;refine GB (pre:=[_]) rfl xC fun Qo SP=>GI (GE (f:=222) (fun J h=>H7 (by k_is) h) (by k_is) (Gh aJ SP rfl ((rO _ t).to (by show 6<=k;exact L1 [_] (.n 6) V0 1 (.n 13) V0 rfl hk) ?_)));rintro _ ⟨t',rfl⟩;refine hY _ _ _ ⟨rfl,Qo,_,[],SP, .refl _,rfl,?_⟩;refine aa Mm (aa (KJ hj) (aa (NL _) (aa KN ?_)));have e2:ag.getD j 0=ag[j]:=aa KR (aa (KJ hj) rfl);exact aa e2 (MZ hs (.cons _ _ .nil))
 obtain⟨rfl,rl,dm,kr,UZ,US,rfl⟩:=q3;have d3:m3 (Yc "deeds")=some (.ref dl):=aa US d0;have e3:m3 (Yc "modes")=some (.ref ml):=aa US e0;have r3:m3 (Yc "rows")=some (.ref rl):=aa US rfl;clear US d0 e0 l2;have hvn:=UZ.length;refine Lp (F0 l3 (IT (K:=fun fl m n=>fl=.next/\aM (fun(pg:Nat)=>m=(fun z=>if z=Yc "page" then some (.ref pg) else m3 z)) (fun pg=>n=[(pg,listOf #[] 0),(rl,lO dm kr),(dl,lO aR kd),(ml,lO Yo km),(123,tabObj #[])])) (Gx (FY ⟨K0 _,fun pg=>⟨rfl,pg,rfl,rfl⟩⟩))) fun fl s4 m4 n4 l4 q4=>?_);obtain⟨rfl,pg,hm4,rfl⟩:=q4;have d4:m4 (Yc "deeds")=some (.ref dl):=aa hm4 d3;have e4:m4 (Yc "modes")=some (.ref ml):=aa hm4 e3;have r4:m4 (Yc "rows")=some (.ref rl):=aa hm4 r3;have p4:m4 (Yc "page")=some (.ref pg):=aa hm4 rfl;clear hm4 d3 e3 r3 l3;refine Lp (F0 l4 (IT (K:=fun fl m n=>fl=.next/\vO (fun(x:Wr) (wa:aE) (aC:Obj) (ks:Nat) (idx:List Nat)=>idx.Nodup) (fun x _ _ _ _=>bB x a0) (fun _ wa _ _ _=>wa.Yh=pg) (fun _ _ aC ks _=>aC.SetObjOf (PySem.strKind PR w) (bL aA) ks) (fun _ _ _ ks _=>ks<=1000) (fun _ wa _ _ _=>(wa.YB==sysModules)=false) (fun _ wa _ _ _=>m=(fun z=>if z=Yc "writer" then some (.ref wa.W) else m4 z)) (fun x wa aC _ idx=>idx.filterMap (n[·]?)=x.led wa++[(wa.Yu,aC),(dl,lO aR kd),(ml,lO Yo km),(rl,lO dm kr)])) ?wr) fun fl s5 m5 n5 l5 q5=>?_)
 case wr=>
  refine I8 (f:=150) (fun J h=>Gz (by k_is) h) (by k_is) (HZ (FX p4 (I7 (.head _) fun Yt=>HA (GU (JA (FX r4 ⟨rl,dm,kr,rfl,co,by exact L4 [_,_,_,_] V3 (.n 1000) 1 V0 V1 1 V1 (.n 100) 1 V2 V0 1 V3 V2 rfl hz.1 hz.2 (eL Sr) (eL hvn),fun sl=>
   ⟨.list sl (dm.drop 1) 0,fun j mC PL g=>g=[]/\StrsAre PL (((aA.drop 1).take j).map nV),rfl, .inl (.head _),?sz,⟨rfl, .nil⟩,?YG,?last2⟩⟩))))))
  case sz=>show (dm.drop 1).length<=1000;refine aa Nx ?_;exact L5 [_,_,_,_,_] (.v 4) (.n 1000) 1 V0 V1 1 V1 (.n 100) 1 V2 V0 1 V3 V2 1 (.v 4) V3 rfl hz.1 hz.2 (eL Sr) (eL hvn) (Nat.sub_le _ _)
  case YG=>
   rintro E' j x PL g I D C oI oC mC cD Y N hj hx ⟨rfl,hs⟩ xC hY hN;have hv1:=lS UZ;have hj:j<(aA.drop 1).length:=ae hv1.length hj;obtain⟨t,e⟩:=ro hv1 hj;have hx:(dm.drop 1)[j]?=some x:=hx;rw[e] at hx
   cases hx;have e2:(aA.drop 1).getD j ⟨#[]⟩=(aA.drop 1)[j]:=aa KR (aa (KJ hj) rfl);refine aa e2 ?_;have hy:=WM _ (OA (M5 hj));refine GB (pre:=[_]) rfl xC fun Qo SP=>GI (F8 (F8 (Gc fun t1=>Gh aJ SP rfl (Gm (KA rfl) (bd hy) fun t2=>Gc fun t3=>Gm ?l1 (KA rfl) fun t4=>hY _ _ _ ⟨rfl,Qo,_,[],SP, .refl _,rfl,?st⟩))))
   case l1=>refine aa (KB _ _) (aa uG ?_);exact L1 [_] (.a W1 V0) (.n 1000000) 1 V0 (.n 100) rfl hy
   case st=>
    exact aa Mm (aa (KJ hj) (aa (NL _) (aa KN (MZ hs (.cons _ _ .nil)))))
  case last2=>
   rintro D mC PL g cD _ ⟨rfl,hs⟩;rw[show dv.N (.list sl (dm.drop 1) 0)=(aA.drop 1).length from(lS UZ).length,Lk] at hs;obtain⟨xs,rfl,U6,hxv⟩:=sw hs;have Ts:xs.length=aA.length-1:=by
    have:=congrArg List.length U6;rw[KE,KE,Nx] at this;exact this.symm
   have Qz:∀ y∈xs,(PySem.strKind PR w).is y.1 y.2=true/\y.2.scannable=true:=fun y hy=>by
    obtain⟨t,e⟩:=hxv y hy;exact aa e ⟨NE _ _ _ _,rfl⟩
   refine Kj (C:=150) (fI:=67) (k:=1) (n:=[(D,lO (xs.map (·.2)) cD)]) (by k_is) (by k_is) (by k_is) (fun x dx=>zJ x dx Yt D cD xs Qz (by exact L6 [_,_,_,_,_] V3 (.n 1000) 1 V0 V1 1 V1 (.n 100) 1 V2 V0 2 V3 (.v 4) 1 (.v 4) V3 1 (.v 4) V2 rfl hz.1 hz.2 (eL Sr) (eL Ts) (eG Ts) (Nat.sub_le _ _)) (by intro e;rw[e] at Ts;simp at Ts;exact f0 (L5 [_,_,_] W1 W0 1 (.n 2) V0 2 V1 V0 3 V0 V1 1 V2 W0 1 V1 (.a V2 W1) rfl P2 (eL Sr) (eG Sr) (eG Ts) (Ou.mp (KZ _))))) ?hk1 (fun x dx n' hP=>?_) dC.no
   case hk1=>show 2<=k;exact L1 [_] (.n 2) V0 1 (.n 13) V0 rfl hk
   obtain⟨data,decl,dl',YH,ns,nl,pm,Yn,Yu,aC,po,t,tu,tp,hW,VD,Yw,rfl⟩:=hP;refine⟨rfl,_,⟨x,dx,data,decl,ns,pm,Yn,pg,Yt,Yu⟩,aC,(xs.foldl cj []).length,[9,10,4,1,14,13,0,3,8,18,5,6,2,7,16,17,15],by decide,Cd (t:=t) (dl:=dl') (YH:=YH) (nl:=nl) (tu:=tu) (tp:=tp) VD,rfl,?so,?ks,Yw,rfl,rfl⟩
   case so=>
    have:=hW.obj;have e:(fun k=>decide (k∈(xs.foldl cj []).map (·.1)))=bL aA:=by
     funext k
     unfold bL;refine aa U6 ?_;exact OH.mpr ((oN xs []).trans (by simp))
    rw[e] at this;exact this
   case ks=>
    have:=jK xs [];rw[List.length_nil] at this
    lia
 obtain⟨rfl,x,wa,aC,ks,idx,hidx,hA,rfl,hS,SF,Yw,UT,hn5⟩:=q5;have l6:=l5.idx idx hidx;rw[hn5] at l6;clear l5 hn5;generalize hm6:m5=m6 at l6 UT;revert m6;refine wrap ?_;intro m6 hm6 l6 UT;have d5:m6 (Yc "deeds")=some (.ref dl):=aa UT d4;have e5:m6 (Yc "modes")=some (.ref ml):=aa UT e4;have r5:m6 (Yc "rows")=some (.ref rl):=aa UT r4;have p5:m6 (Yc "page")=some (.ref wa.Yh):=aa UT p4;have w5:m6 (Yc "writer")=some (.ref wa.W):=aa UT rfl;clear hm6 UT d4 e4 r4 p4 l4 m5;have htell:=zM wa x a0 Yi ag aA aR Yo dm kd km kr dl ml rl aC (bL aA) ks Yw hA RO QQ UZ (q7 hz.1 Sr) (eL Sr) (E5 hz.2 hz.1 Sr) hS SF hT.hP hT.hD;refine Lp (wpAny_Try_except (F0 l6 (Ge (G2 (f:=243) (fun J h=>Gz (by k_is) h) (by k_is) (FZ (FX w5 (FZ (FX d5 (FZ (FX e5 (FZ (FX r5 (FY ?tell)))))))))):Tr c _ m6 _ _ fun fl m n=>fl=.next/\m=m6/\bV (fun x' a'=>dQ (bL aA) Yi ag aA a0=.ok a') (fun x' a'=>bB x' a') (fun x' _=>n=x'.led wa++[(wa.Yu,aC),(dl,lO aR kd),(ml,lO Yo km),(rl,lO dm kr)])) ?k6))
 case k6=>
  rintro fl s7 m7 n7 l7 ⟨rfl,rfl,x',a',ha,Qk,rfl⟩;have hJ1:(dB aA Yi ag).1=Txt.join (Yc "") a'.Yh:=by unfold dB;exact aa ha rfl
  have hJ2:(dB aA Yi ag).2=Yc "none":=by unfold dB;exact aa ha rfl
  rw[hJ1,hJ2] at hJ;refine wpAny_execs_nil ?_;refine F0 l7 (K:=fun fl m n=>l9 (fun T t1 t2 tb n0=>fl=.ret (.ref T)) (fun T t1 t2 _ n0=>n=(T,bl (.str (Txt.join (Yc "") a'.Yh) t1) (.str (Yc "none") t2) 0)::n0) (fun _ _ _ tb n0=>[(123,tabObj tb),(dl,lO aR kd),(ml,lO Yo km)].Sublist n0)) ?h8 ?k8
  case h8=>
   refine GM (GA (FZ (Ga (Gc fun t1=>HM Ow Ox (Gq (FZ (FX p5 (FY (Io (Ky _ (x'.mPage wa)) Qk.Yh (by decide) (hT.w1 _ ha) fun t2=>FZ (Gc fun t3=>FY ⟨KA rfl,fun T=>?k7⟩))))))))));exact⟨T,t2,t3,x'.YD,_,rfl,rfl,(List.singleton_sublist.mpr (x'.mTab wa)).append (show List.Sublist [(dl,lO aR kd),(ml,lO Yo km)] [(wa.Yu,aC),(dl,lO aR kd),(ml,lO Yo km),(rl,lO dm kr)] from .cons _ (.cons_cons _ (.cons_cons _ (.cons _ .slnil))))⟩
  case k8=>
   rintro fl s8 m8 n8 l8 ⟨T,t1,t2,tb,n0,rfl,rfl,hs⟩;exact hI.out _ _ _ _ (l8.sub (hs.cons_cons _)) (hJ T t1 t2 tb)
 case tell=>
  refine ae (Lh (x.led wa++[(wa.Yu,aC),(dl,lO aR kd),(ml,lO Yo km),(rl,lO dm kr)])) ?_;refine htell.to c _ m6 [] _ (by show 12<=k;exact AL hk) ?_ ?_
  ·rintro v n' ⟨-,x',a',ha,Qk,rfl⟩
   exact aa (Lh _) (F6 ⟨rfl,rfl,x',a',ha,Qk,rfl⟩)
  ·intro PO Yp hRs e t h' TA Qe d' TV tw F2 hr2 R2 U2 Ub
   obtain⟨PY,Qm,pg,cg,tb,rfl,hst⟩:=hRs;have hJ1:(dB aA Yi ag).1=Txt.join (Yc "") PY:=by unfold dB;exact aa Qm rfl
   have hJ2:(dB aA Yi ag).2=PO:=by unfold dB;exact aa Qm rfl
   rw[hJ1,hJ2] at hJ;obtain⟨Qt,mg,mb,TB⟩:=hI.T;have hu:c.un+20*k<cLine:=l6.hu;refine caught_SB (T':="ValueError") R2 F2 hI.B U2 hI.X TB hI.D KtsTurn.refl (by k_is) PyProof.Rows.Boot.«ValueError» (by decide) PySem.F.isExc_ValueError PySem.F.notTuple_ValueError ?hs ?_
   case hs=>kts_sub
   intro h3 g3 n3 tk3 T3 F3 N3 G3 N4 B3 X3 P3 D3;refine sL F3 N4 N3 G3 X3 P3 (by show c.un+2<cLine;exact L2 [_,_,_] (.a (.a V1 (.n 2)) W1) V2 1 (.n 13) V0 1 (.a (.a V1 (.m 20 V0)) W1) V2 rfl hk hu) rfl p5 rfl (.head _) hst (hT.w2 _ _ Qm) rfl rfl rfl (by rfl) ?_;rintro T t1 h4 tk4 rfl rfl;have N5:=NU F3 N4 (bl (.str (Txt.join (Yc "") PY) t1) (.str PO tw) 0);have VI:[(123,tabObj tb),(dl,lO aR kd),(ml,lO Yo km)].Sublist ((wa.Yh,lO pg cg)::(123,tabObj tb)::[(dl,lO aR kd),(ml,lO Yo km),(rl,lO dm kr)]):= .cons _ (.cons_cons _ (.cons_cons _ (.cons_cons _ (.cons _ .slnil))));have hD:aw [(123,tabObj tb),(dl,lO aR kd),(ml,lO Yo km)]:=List.Nodup.sublist (((List.singleton_sublist.mpr (x.mTab wa)).append (show List.Sublist [(dl,lO aR kd),(ml,lO Yo km)] [(wa.Yu,aC),(dl,lO aR kd),(ml,lO Yo km),(rl,lO dm kr)] from .cons _ (.cons_cons _ (.cons_cons _ (.cons _ .slnil))))).map (·.1)) l6.D;refine name_goes (F3.push _) (news:=(h3.objs.size,bl (.str (Txt.join (Yc "") PY) t1) (.str PO tw) 0)::[(123,tabObj tb),(dl,lO aR kd),(ml,lO Yo km)]) (fun p hp=>N5 p ((VI.cons_cons _).subset hp)) fun h5 m5 F5 N6=>?_;exact hI.turned _ _ g3 m5 _ T3 F5 N6 (hD.fresh fun p hp=>KO (N4 p (VI.subset hp)).1) Ub rfl (hJ _ t1 tw tb)
end TOk
theorem zO(A₀:Around)(h₀:Heap)(k dp un:Nat)(gd:Option (List Code))(cn:Str)(cs:Scope)(L a:Addr)(ccd:Value)(os:OsState)(E:X6)(m:X5)(J:ad Value)(Yi ag:X9)(aR Yo:X8)(kd km dl ml:Nat):TOk.Q A₀ h₀ k dp un gd cn cs L a ccd os E m J Yi ag aR Yo kd km dl ml:=cT (P:=TOk.P_) TOk.go (((((A₀,h₀),k),((dp,un),gd)),(((cn,cs),L),((a,ccd),os))),((((E,m),J),((Yi,ag),aR)),(((Yo,kd),km),(dl,ml))))
theorem di(a:Int)(hb:0<b):0<=a.fmod b/\a.fmod b<b:=⟨Int.fmod_nonneg_of_pos a hb,Int.fmod_lt_of_pos a hb⟩
theorem gJ{a b c:Int}(h0:0<=a)(hb:0<b)(h1:a<c*b):0<=a.fdiv b/\a.fdiv b<c:=by
 exact aa (LI _ (Nh hb)) ⟨Int.ediv_nonneg h0 (Nh hb),Int.ediv_lt_of_lt_mul hb h1⟩
noncomputable def gG (mode:Int):Nat->Int
 |0=>[1,6,3,1,4,1,2,1,0,1,5,1,7,1,1,1].getD (mode.fdiv 4096).toNat 0
 |j+1=>cf mode (gG mode j) (2-j)
theorem pR{a b d:Tok}{j:Nat}{x:Value}(h:[Value.int 2 a, .int 1 b, .int 0 d][j]?=some x):ru (fun t p=>x=.int p t) (fun _ p=>p=2-(j:Int)) (fun _ p=>0<=p) (fun _ p=>p<=2):=by
 match j,h with
 |0,h=>cases h;exact⟨a,2,rfl,rfl,by decide,by decide⟩
 |1,h=>cases h;exact⟨b,1,rfl,rfl,by decide,by decide⟩
 |2,h=>cases h;exact⟨d,0,rfl,rfl,by decide,by decide⟩
 |j+3,h=>simp at h
theorem sm{p:Int}(h0:0<=p)(h1:p<=2){P:Int->Prop}(a:P 0)(b:P 1)(d:P 2):P p:=by
 have:p=0∨p=1∨p=2:=EK h0 h1;rcases this with rfl|rfl|rfl<;>assumption
def rz(mode:Int)(tk:Tok)(c:Int)(j:Nat)(m:X5):Prop:=m (Yc "mode")=some (.int mode tk)/\(∃ t,m (Yc "code")=some (.int c t))/\0<=c/\c<16^(j+1)
theorem xY(mode:Int)(tk:Tok)(h0:0<=mode)(h1:mode<65536):dT 3 255 [.int mode tk] (rC (bf mode)):=by
 refine' GD (binds:=[(Yc "mode", .int mode tk)]) (by k_is) (by k_is) (by exact fun s X=>LH rfl) (by exact aZ rfl) (by rfl) (by rfl) (by rfl) (by decide) (by exact fun _ _ h=>h.elim) ?_;intro A₀ base dp un gd L outer h₀ os g₀ c E K hE QP hK;have hq:=gJ (b:=4096) (c:=16) h0 (by decide) (BU h1);refine Gf (GT (by k_is) (by boot_fast) (by decide) (Gg (Gc fun t1=>F8 (FX rfl (F7 fun t2=>GF (by decide) (by decide) fun t3=>G5 hq.1 (by exact hq.2) (by decide) fun t4=>?_)))));refine .mk fun s l=>KTb.int_sign (zs:=[1,6,3,1,4,1,2,1,0,1,5,1,7,1,1,1]) (n:=16) hq.1 (by exact hq.2) (by decide+kernel) fun t5 k5=>⟨_,_,l.tok,?_⟩;have hg:rz mode tk (gG mode 0) 0 (fun y=>if y=Yc "code" then some (.int (gG mode 0) t5) else[(Yc "mode",Value.int mode tk)].reverse.lookup y):=by
  refine⟨rfl,⟨t5,rfl⟩,?_⟩;show 0<=[(1:Int),6,3,1,4,1,2,1,0,1,5,1,7,1,1,1].getD (mode.fdiv 4096).toNat 0/\[(1:Int),6,3,1,4,1,2,1,0,1,5,1,7,1,1,1].getD (mode.fdiv 4096).toNat 0<16;exact(by decide:∀ k,k<16->0<=[(1:Int),6,3,1,4,1,2,1,0,1,5,1,7,1,1,1].getD k 0/\[(1:Int),6,3,1,4,1,2,1,0,1,5,1,7,1,1,1].getD k 0<16) _ (by lia)
 show Tr c E (fun y=>if y=Yc "code" then some (.int (gG mode 0) t5) else _) [] (execs _ c.env) K;generalize (fun y=>if y=Yc "code" then some (Value.int (gG mode 0) t5) else _)=m0 at hg⊢;revert m0;refine wrap ?_;intro m0 hg;refine Gu (GH (K₁:=fun fl m n=>fl=.next/\rz mode tk (gG mode 3) 3 m) ?sF ?sR)
 case sR=>
  rintro _ m n ⟨rfl,hm,⟨t,hc⟩,_⟩;exact GM (FX hc (hK _ _ _ [] (Mw _) ⟨⟨t,rfl⟩,rfl⟩))
 case sF=>
  intro K2 hK2;refine Hw (fun S j m n=>rz mode tk (gG mode j) j m/\S.ent∈n) QP (GA (FZ (F7 fun a=>FZ (F7 fun b=>FZ (F7 fun d=>FY ⟨KA rfl,fun T=>⟨.YH T [.int 2 a, .int 1 b, .int 0 d] 0,rfl,KA rfl,⟨hg, .head _⟩,fun _ _ _ h=> .inl h.2,?turn,fun m n h=>F6 (hK2 _ _ _ ⟨rfl,h.1⟩)⟩⟩)))));rintro j x I oI m n KT hj hx ⟨⟨hm,⟨t,hc⟩,Tf,Vm⟩,hn⟩ RV;obtain⟨tp,p,rfl,hp,S5,Ru⟩:=pR hx;have hj:j<3:=hj;have hcz:gG mode j<65536:=LR Vm ((by decide:∀ j,j<3->(16:Int)^(j+1)<=65536) j hj);refine Go ?_;show Tr _ _ _ _ _ _;generalize PQ:(fun y=>if y=Yc "power" then some (Value.int p tp) else m y)=m1;revert m1;refine wrap ?_;intro m1 PQ;have a1:m1 (Yc "mode")=some (.int mode tk):=ae PQ hm;have a2:m1 (Yc "code")=some (.int (gG mode j) t):=ae PQ hc;have a3:m1 (Yc "power")=some (.int p tp):=ae PQ rfl;clear PQ hm hc;have e8:(8:Int)^p.toNat≠0/\((8:Int)^p.toNat).natAbs<1073741824:=sm (P:=fun p=>(8:Int)^p.toNat≠0/\((8:Int)^p.toNat).natAbs<1073741824) S5 Ru (by decide) (by decide) (by decide);have e2:(2:Int)^(9+p).toNat≠0/\((2:Int)^(9+p).toNat).natAbs<1073741824:=sm (P:=fun p=>(2:Int)^(9+p).toNat≠0/\((2:Int)^(9+p).toNat).natAbs<1073741824) S5 Ru (by decide) (by decide) (by decide);refine Gf (F8 (F8 (FX a1 (F8 (F7 fun t1=>FX a3 (H2 S5 (by lia) (by decide) fun t2=>GF e8.1 e8.2 fun t3=>F7 fun t4=>GO (by decide) fun t5=>?_))))));have hf:=di (mode.fdiv (8^p.toNat)) (b:=8) (by decide);have Sg:=di (mode.fdiv (2^(9+p).toNat)) (b:=2) (by decide);have hst:cf mode (gG mode j) p=gG mode (j+1):=aa hp rfl;unfold cf at hst;generalize (mode.fdiv (8^p.toNat)).fmod 8=f at hf hst⊢;revert f;refine wrap ?_;intro f hf hst;show Tr _ _ _ _ _ _;generalize PQ:(fun y=>if y=Yc "figure" then some (Value.int f t5) else m1 y)=m2;revert m2;refine wrap ?_;intro m2 PQ;have b1:m2 (Yc "mode")=some (.int mode tk):=ae PQ a1;have b2:m2 (Yc "code")=some (.int (gG mode j) t):=ae PQ a2;have b3:m2 (Yc "power")=some (.int p tp):=ae PQ a3;have b4:m2 (Yc "figure")=some (.int f t5):=ae PQ rfl;clear PQ a1 a2 a3;refine Gf (F8 (F8 (FX b1 (F8 (F7 fun t6=>F8 (F7 fun t7=>FX b3 (Hd fun t8=>H2 (E7 S5) (E6 hp) (by decide) fun t9=>GF e2.1 e2.2 fun ta=>F7 fun tb=>GO (by decide) fun tc=>?_)))))));generalize (mode.fdiv (2^(9+p).toNat)).fmod 2=ab at Sg hst⊢;revert ab;refine wrap ?_;intro ab Sg hst;show Tr _ _ _ _ _ _;generalize PQ:(fun y=>if y=Yc "above" then some (Value.int ab tc) else m2 y)=m3;revert m3;refine wrap ?_;intro m3 PQ;have d1:m3 (Yc "mode")=some (.int mode tk):=ae PQ b1;have d2:m3 (Yc "code")=some (.int (gG mode j) t):=ae PQ b2;have d4:m3 (Yc "figure")=some (.int f t5):=ae PQ b4;have d5:m3 (Yc "above")=some (.int ab tc):=ae PQ rfl;clear PQ b1 b2 b3 b4;have hg2:=di f (b:=2) (by decide);have UM:=gJ hf.1 (b:=2) (c:=4) (by decide) (BV hf.2);refine Gf (F8 (F8 (F8 (F8 (FX d2 (F7 fun u1=>Hx (tA Tf hcz) fun u2=>F8 (F8 (FX d4 (F7 fun u3=>GF (by decide) (by decide) fun u4=>F7 fun u5=>Hx (tA UM.1 UM.2) fun u6=>Hd fun u7=>FX d5 (Hd fun u8=>F8 (F8 (FX d4 (F7 fun u9=>GO (by decide) fun ua=>F8 (F7 fun ub=>F8 (F7 fun uc=>FX d5 (Hx (by decide) fun ud=>Hm fun ue=>Hx (by lia) fun uf=>Hd fun ug=>?_))))))))))))))));refine aa hst ?_;have hmul:0<=f.fmod 2*(3-2*ab)/\ab+f.fmod 2*(3-2*ab)<=3:=by
   have h2:f.fmod 2=0∨f.fmod 2=1:=by lia
   rcases h2 with h2|h2<;>refine aa h2 ?_<;>lia
  have hpw:(16:Int)^(j+1+1)=16^(j+1)*16:=Int.pow_succ ..;refine F6 (RV _ _ _ ⟨n,rfl,⟨d1,⟨ug,rfl⟩,?_,?_⟩,hn⟩)
  ·refine ae hst ?_;exact E8 Tf Sg.1 UM.1 hmul.1
  ·refine ae hst (aa hpw ?_);lia
def gn(code:Int):Nat->Str
 |0=>Txt.item (Yc "-?bcdlps") (code.fdiv 4096)
 |j+1=>ey (gn code j) code (2-j) (if j=2 then "-Ttx" else "-Ssx")
def rA(code:Int)(tk:Tok)(x:Str)(m:X5):Prop:=m (Yc "code")=some (.int code tk)/\(∃ t,m (Yc "row")=some (.str x t))/\x.length<=10000
theorem fR(x:Str)(i:Int):(Txt.item x i).length<=1:=KZ 1
theorem oF(code:Int)(tk:Tok)(h0:0<=code)(h1:code<32768):dT 3 262 [.int code tk] (fe (ac code)):=by
 refine' GD (binds:=[(Yc "code", .int code tk)]) (by k_is) (by k_is) (by exact fun s X=>LH rfl) (by exact aZ rfl) (by rfl) (by rfl) (by rfl) (by decide) (by exact fun _ _ h=>h.elim) ?_;intro A₀ base dp un gd L outer h₀ os g₀ c E K hE QP hK;have hq:=gJ (b:=4096) (c:=8) h0 (by decide) (EP h1);refine Gf (Gg (Gc fun t1=>F8 (FX rfl (F7 fun t2=>GF (by decide) (by decide) fun t3=>G5 hq.1 (by exact hq.2) (by decide) fun t4=>?_))));have hg:rA code tk (gn code 0) (fun y=>if y=Yc "row" then some (.str (gn code 0) t4) else[(Yc "code",Value.int code tk)].reverse.lookup y):=⟨rfl,⟨t4,rfl⟩,KF (fR _ _) (by decide)⟩;show Tr c E (fun y=>if y=Yc "row" then some (.str (gn code 0) t4) else _) [] (execs _ c.env) K;generalize (fun y=>if y=Yc "row" then some (Value.str (gn code 0) t4) else _)=m0 at hg⊢;revert m0;refine wrap ?_;intro m0 hg;refine Gu (GH (K₁:=fun fl m n=>fl=.next/\rA code tk (gn code 3) m) ?sF ?sR)
 case sR=>
  rintro _ m n ⟨rfl,hm,⟨t,hc⟩,_⟩;exact GM (FX hc (hK _ _ _ [] (Mw _) ⟨⟨t,rfl⟩,rfl⟩))
 case sF=>
  intro K2 hK2;refine Hw (fun S j m n=>(rA code tk (gn code j) m/\(gn code j).length<=3*j+1)/\S.ent∈n) QP (GA (FZ (F7 fun a=>FZ (F7 fun b=>FZ (F7 fun d=>FY ⟨KA rfl,fun T=>⟨.YH T [.int 2 a, .int 1 b, .int 0 d] 0,rfl,KA rfl,⟨⟨hg,fR _ _⟩, .head _⟩,fun _ _ _ h=> .inl h.2,?turn,fun m n h=>F6 (hK2 _ _ _ ⟨rfl,h.1.1⟩)⟩⟩)))));rintro j x I oI m n KT hj hx ⟨⟨⟨hm,⟨t,hc⟩,_⟩,hl⟩,hn⟩ RV;obtain⟨tp,p,rfl,hp,S5,Ru⟩:=pR hx;have hj:j<3:=hj;refine Go ?_;show Tr _ _ _ _ _ _;generalize PQ:(fun y=>if y=Yc "power" then some (Value.int p tp) else m y)=m1;revert m1;refine wrap ?_;intro m1 PQ;have a1:m1 (Yc "code")=some (.int code tk):=ae PQ hm;have a2:m1 (Yc "row")=some (.str (gn code j) t):=ae PQ hc;have a3:m1 (Yc "power")=some (.int p tp):=ae PQ rfl;clear PQ hm hc;have e8:(16:Int)^p.toNat≠0/\((16:Int)^p.toNat).natAbs<1073741824:=sm (P:=fun p=>(16:Int)^p.toNat≠0/\((16:Int)^p.toNat).natAbs<1073741824) S5 Ru (by decide) (by decide) (by decide);refine Gf (F8 (F8 (FX a1 (F8 (F7 fun t1=>FX a3 (H2 S5 (by lia) (by decide) fun t2=>GF e8.1 e8.2 fun t3=>F7 fun t4=>GO (by decide) fun t5=>?_))))));have hf:=di (code.fdiv (16^p.toNat)) (b:=16) (by decide);have hst:∀ s,(if j=2 then "-Ttx" else "-Ssx")=s->ey (gn code j) code p s=gn code (j+1):=fun s hs=>aa hp (ae hs rfl);unfold ey at hst;generalize (code.fdiv (16^p.toNat)).fmod 16=f at hf hst⊢;revert f;refine wrap ?_;intro f hf hst;show Tr _ _ _ _ _ _;generalize PQ:(fun y=>if y=Yc "four" then some (Value.int f t5) else m1 y)=m2;revert m2;refine wrap ?_;intro m2 PQ;have b1:m2 (Yc "code")=some (.int code tk):=ae PQ a1;have b2:m2 (Yc "row")=some (.str (gn code j) t):=ae PQ a2;have b3:m2 (Yc "power")=some (.int p tp):=ae PQ a3;have b4:m2 (Yc "four")=some (.int f t5):=ae PQ rfl;clear PQ a1 a2 a3;have g8:=gJ hf.1 (b:=8) (c:=2) (by decide) (EQ hf.2);have g4:=di (f.fdiv 4) (b:=2) (by decide);have g1:=di f (b:=4) (by decide);have i1:=fR (Yc "-r") (f.fdiv 8);have i2:=fR (Yc "-w") ((f.fdiv 4).fmod 2);have hpn:p=((p.toNat:Nat):Int):=tE S5;refine Gf (F8 (F8 (F8 (FX b2 (Gg (Gc fun u1=>F8 (FX b4 (F7 fun u2=>GF (by decide) (by decide) fun u3=>G5 g8.1 (by exact g8.2) (by decide) fun u4=>Gm (by lia) (bd i1) fun u5=>Gg (Gc fun u6=>F8 (F8 (FX b4 (F7 fun u7=>GF (by decide) (by decide) fun u8=>F7 fun u9=>GO (by decide) fun ua=>G5 g4.1 (by exact g4.2) (by decide) fun ub=>Gm (by refine aa (KB _ _) ?_;lia) (bd i2) fun uc=>Gg (Gg (GA (FZ (Gc fun v1=>FZ (Gc fun v2=>FZ (Gc fun v3=>FY ⟨KA rfl,fun TT=>FX b3 ?_⟩))))))))))))))))));obtain⟨s3,tt,TQ,QM,hsj⟩:bV (fun(s3:String) (tt:Tok)=>[Value.str (Yc "-Ttx") v1, .str (Yc "-Ssx") v2, .str (Yc "-Ssx") v3][p.toNat]?=some (.str (Yc s3) tt)) (fun s3 _=>(Yc s3).length=4) (fun s3 _=>(if j=2 then "-Ttx" else "-Ssx")=s3):=by
   have:j=0∨j=1∨j=2:=FJ hp S5;rcases this with rfl|rfl|rfl<;>(subst hp;exact⟨_,_,rfl,by decide,rfl⟩)
  have i3:=fR (Yc s3) (f.fmod 4);have l2:(gn code j++Txt.item (Yc "-r") (f.fdiv 8)++Txt.item (Yc "-w") ((f.fdiv 4).fmod 2)).length<=3*j+3:=by refine aa (KB _ _) (aa (KB _ _) ?_);exact L3 [_,_,_,_] (.a (.a V0 V2) V3) (.a (.m 3 V1) (.n 3)) 1 V0 (.a (.m 3 V1) W1) 1 V2 W1 1 V3 W1 rfl hl i1 i2
  have l3:(gn code (j+1)).length<=3*(j+1)+1:=by refine ae (hst s3 hsj) (aa (KB _ _) ?_);exact L2 [_,_,_] (.a V1 V0) (.a (.m 3 (.a V2 W1)) W1) 1 V0 W1 1 V1 (.a (.m 3 V2) (.n 3)) rfl i3 l2
  refine Hj (.head _) hpn TQ (by exact KA rfl) (F8 (FX b4 (F7 fun v4=>GO (by decide) fun v5=>G5 g1.1 (by refine aa QM ?_;exact g1.2) (by refine aa QM ?_;decide) fun v6=>Gm (by lia) (bd i3) fun v7=>?_)));refine aa (hst s3 hsj) ?_;exact GW (Lq _ _) (F6 (RV _ _ _ ⟨_,rfl,⟨⟨b1,⟨v7,rfl⟩,by lia⟩,l3⟩,hn⟩))
noncomputable def bw (Ye:X9):Nat->Int->X9
 |0,_=>[]
 |f+1,s=>if s=-1 then[] else s::bw Ye f (Ye.getD s.toNat (-1))
theorem ej(Ye:X9)(f:Nat)(s:Int):bw Ye (f+1) s=if s=-1 then[] else s::bw Ye f (Ye.getD s.toNat (-1)):=rfl
def aj(Ye:X9)(s:Int):X9:=bw Ye (Ye.length+1) s
def bP(Ye:X9):Prop:=∀ i:Nat,i<Ye.length->-1<=Ye.getD i (-1)/\Ye.getD i (-1)<i
theorem kl(Ye:X9):∀ f,bw Ye f (-1)=[]
 |0=>rfl
 |_+1=>KW rfl
theorem aH(h:IntsAre vs ns):IntsAre (vs++[.int i t]) (ns++[i]):=by
 induction h with
 |nil=>exact .cons _ _ .nil
 |cons n t h ih=>exact .cons _ _ ih
theorem fQ(h:IntsAre vs ns)(hj:j<ns.length)(d:Int):∃ t,vs[j]?=some (.int (ns.getD j d) t):=by
 obtain⟨t,e⟩:=dr h hj;rw[KR,KJ hj] at*;exact⟨t,e⟩
def Ca(Ye:X9)(s:Int)(hl C:Nat)(Yx:X8)(kh:Nat)(k:Nat)(m:X5)(n:X4):Prop:=
 xu (fun Yr kc done cur tc fu=>n=[(C,lO Yr kc),(hl,lO Yx kh)]) (fun Yr _ done _ _ _=>IntsAre Yr done) (fun _ _ done _ _ _=>done.length+k<=1001) (fun _ _ done cur _ fu=>aj Ye s=done++bw Ye fu cur) (fun _ _ _ cur _ fu=>cur<(fu:Nat)) (fun _ _ _ cur _ _=>-1<=cur) (fun _ _ _ cur _ _=>cur<Ye.length) (fun _ _ _ cur _ _=>k=(cur+1).toNat) (fun _ _ _ _ _ _=>m (Yc "homes")=some (.ref hl)) (fun _ _ _ _ _ _=>m (Yc "chain")=some (.ref C)) (fun _ _ _ cur tc _=>m (Yc "spot")=some (.int cur tc))
theorem qJ(Ye:X9)(Yx:X8)(hl kh:Nat)(hh:IntsAre Yx Ye)(Qc:bP Ye)(hz:Ye.length<=1000)(s:Int)(ts:Tok)(h0:-1<=s)(h1:s<Ye.length):
  bD 3 269 [.ref hl, .int s ts] [(hl,lO Yx kh)] (fun v n'=>eg (fun(C:Nat) (Yr:X8) (kc:Nat)=>v=.ref C) (fun _ Yr _=>IntsAre Yr (aj Ye s)) (fun C Yr kc=>n'=[(C,lO Yr kc),(hl,lO Yx kh)])) eT:=by
 have Um:=hh.length;refine' GD (binds:=[(Yc "homes", .ref hl),(Yc "spot", .int s ts)]) (by k_is) (by k_is) (by exact fun s X=>LH rfl) (by exact aZ rfl) (by rfl) (by rfl) (by rfl) (by decide) (by exact fun _ _ h=>h.elim) ?_;intro A₀ base dp un gd L outer h₀ os g₀ c E K hE QP hK;refine Gf (Gx (FY ⟨K0 _,fun C=>?_⟩));refine Gu (Iw (Ca Ye s hl C Yx kh) QP ?turn (s+1).toNat ⟨[],0,[],s,ts,Ye.length+1,rfl, .nil,by show 0+_<=_;exact Fp h1 hz,rfl,A1 h1,h0,h1,rfl,rfl,rfl,rfl⟩);rintro k m n ⟨Yr,kc,done,cur,tc,fu,rfl,Rh,Qy,QD,hfu,Tf,Vm,rfl,mh,mc,ms⟩;refine Gb (FX ms (G6 fun t1=>Kt (F9 ?_)))
 by_cases QN:cur=-1
 ·refine aa (show (cur !=-1)=false by simpa using QN) ?_
  subst QN;rw[kl,Lh] at QD;exact F6 (GM (FX mc (hK _ _ _ _ (.refl _) ⟨C,Yr,kc,rfl,by refine aa QD ?_;exact Rh,rfl⟩)))
 ·refine aa (show (cur !=-1)=true by simpa using QN) ?_
  obtain⟨i,rfl⟩:∃ i:Nat,cur=(i:Int):=⟨cur.toNat,Fd Tf QN⟩;obtain⟨fu,rfl⟩:∃ f,fu=f+1:=⟨fu-1,FK hfu⟩;have hi:i<Ye.length:=FV Vm;obtain⟨th,eh⟩:=fQ hh hi (-1);obtain⟨g0,g1⟩:=Qc i hi;have QU:=Rh.length;have hch2:aj Ye s=(done++[(i:Int)])++bw Ye fu (Ye.getD i (-1)):=by
   refine aa QD (aa (KQ _ _ _) ?_);refine congrArg _ ?_;show (if (i:Int)=-1 then[] else(i:Int)::bw Ye fu (Ye.getD (i:Int).toNat (-1)))=_;exact aa (KM QN) (aa (K8 _) rfl)
  refine⟨(Ye.getD i (-1)+1).toNat,B2 g1,?_⟩;refine Ge (Ga (FX mc (Gj (.head _) Lo Lg (Gq (FZ (FX ms (FY (Gs (pre:=[]) rfl (by exact L2 [_,_,_] V2 (.n 100000) 1 (.a V0 V1) (.n 1001) 1 V2 V0 rfl Qy (eL QU)) ?_))))))));refine Gf (Gg (FX mh (FX ms (Gi aJ rfl eh (by exact L2 [_,_] V1 (.n 100000) 1 V0 (.n 1000) 1 V1 V0 rfl hz (eL Um)) ?_))));exact F6 ⟨_,_,_,Ye.getD i (-1),th,fu,rfl,aH Rh,by refine aa KH ?_;show done.length+1+_<=_;exact tC Qy g1,hch2,FL hfu g1,g0,z1 g1 Vm,rfl,mh,mc,rfl⟩
def kO:Value->Int| .int i _=>i|_=>0
theorem jr:∀ {vs:X8},(∀ v∈vs,lY (fun i t=>v=.int i t))->IntsAre vs (vs.map kO)
 |[],_=> .nil
 |v::vs,h=>by
  obtain⟨i,t,rfl⟩:=h v (.head _);exact .cons _ _ (jr fun v hv=>h v (.tail _ hv))
section
variable{A:Around}{E:X6}{s:Shared}
theorem qA(hh:A.handled=none)(ho:s.heap.get? a=some o)(hS:ba (PySem.intKind PR w) o PN)(hz:PN.length<=60)
  (h:∀ (R:Nat) PL ns kk h' d,IntsAre PL ns->ns.Perm (PN.map (·.1))->ns.Pairwise (·<=·)->h'.get? R=some (lO PL kk)->(∀ b o,s.heap.get? b=some o->h'.get? b=some o)->s.heap.get? R=none->Q (.ref R) {s with heap:=h',drawn:=d}):
  wpAny MP A (call (.builtin "sorted") [.ref a]) Q E s:=by
 refine Calls.call_function_entry kind_sorted plain_sorted entry_sorted (args_sorted1 _) ?_;unfold Builtin.«sorted»;refine Kx (m:=checkCount "sorted" 1 1 _) (KC ?_);refine Kx (jj hh ho hS (bd hz) fun vs h1 d hp hk=>?_);have hI:IntsAre vs (vs.map kO):=jr fun v hv=>by
  obtain⟨x,hx,rfl⟩:=KI.mp (hp.mem_iff.mp hv);obtain⟨_,_,_,_,_,_,q4,_⟩:=hS.2;obtain⟨t,e⟩:=Value.isInt_shape (q4 x hx);exact⟨x.1,t,e⟩
 have hpn:(vs.map kO).Perm (PN.map (·.1)):=by
  refine(hp.map kO).trans (List.Perm.of_eq ?_);refine aa M1 ?_;refine MI fun x hx=>?_;obtain⟨_,_,_,_,_,_,q4,_⟩:=hS.2;obtain⟨t,e⟩:=Value.isInt_shape (q4 x hx);show kO x.2=x.1;exact aa e rfl
 have hl:vs.length=PN.length:=by have:=hp.length_eq;rwa [KE] at this
 refine Kx (wpAny_newList ?_);have hoL:(h1.push (seqObj "list" vs.toArray 0)).get? h1.objs.size=some (seqObj "list" vs.toArray 0):=La _ rfl;refine Kx (Li (LQ slot_list_sort ⟨_,hoL,rfl⟩ OQ (list_sort_tree hoL hI (by exact L2 [_,_] (.a V1 W1) (.n 64) 1 V0 (.n 60) 1 V1 V0 rfl hz (eL hl)) fun out ns' a1 a2 a3=>⟨_,rfl,?_⟩) (args_list_sort _)));obtain⟨e,he⟩:=sortedHeap_at (out:=out) hoL;refine KC ⟨_,rfl,h h1.objs.size out.toList ns' e _ d a1 (a2.trans hpn) a3 (by refine aa Array.toArray_toList ?_;exact he) (fun b o hb=>?_) ?_⟩
 ·have UK:=hk b o hb
  refine aa (sortedHeap_old (K6 (KO UK)) (by rw[size_push'];exact LG (KO UK))) ?_;exact KL _ UK
 ·cases hq:s.heap.get? h1.objs.size with
  |none=>rfl
  |some o=>exact absurd (KO (hk _ _ hq)) (Nq _)
end
section
variable{c:Fx}{E:X6}{m:X5}{n pre post:X4}{J:ad Value}{i j:Int}{t u:Tok}
theorem ax.kept(l:ax c s m n)(hk:∀ b o,s.heap.get? b=some o->h'.get? b=some o):ax c ⟨h',s.gens,d,tk,s.os⟩ m n:=
 l.to ⟨l.F.ns.at' fun o e=>hk _ o e,fun b o e=>hk b o (l.F.keep b o e),l.F.above⟩ (fun p hp=>⟨hk _ _ (l.N p hp).1,(l.N p hp).2⟩) l.D l.G rfl
theorem ax.got(l:ax c s m n)(hk:∀ b o,s.heap.get? b=some o->h'.get? b=some o)(hR:h'.get? R=some o)(hn:s.heap.get? R=none):ax c ⟨h',s.gens,d,tk,s.os⟩ m ((R,o)::n):=by
 have l2:=l.kept (d:=d) (tk:=tk) hk;have ne:∀ b o,s.heap.get? b=some o->b≠R:=fun b o e q=>by rw[q,hn] at e;cases e
 refine l2.to l2.F (fun p hp=>?_) (aw.cons.mpr ⟨fun q hq=>ne _ _ (l.N q hq).1,l.D⟩) l2.G rfl;rcases KG.mp hp with rfl|hp
 ·obtain⟨oL,_,_,hL,_⟩:=l.F.ns
  refine⟨hR,fun q=>ne _ _ hL q.symm,?_⟩
  cases hq:c.h₀.get? R with
  |none=>rfl
  |some o=>exact absurd rfl (ne _ _ (l.F.keep _ _ hq))
 ·exact l2.N p hp
def aF(l:X9):X9:=l.mergeSort fun a b=>decide (a<=b)
theorem bo(l:X9):(aF l).Perm l:=List.mergeSort_perm l _
theorem pK(l:X9):(aF l).Pairwise (·<=·):=by
 have:=List.pairwise_mergeSort (le:=fun a b:Int=>decide (a<=b)) (fun a b d=>by simp only[MH];exact z4) (fun a b=>by simp only[Bool.or_eq_true,MH];lia) l;simp only[MH] at this;exact this
theorem xb(h:ns.Perm l)(hp:ns.Pairwise (·<=·)):ns=aF l:=
 List.Perm.eq_of_pairwise (le:=(·<=·)) (fun a b _ _ h1 h2=>ON h1 h2) hp (pK l) (h.trans (bo l).symm)
noncomputable def dd (ns:X9):X9:=ns.foldl (fun PS x=>if x∈PS then PS else PS++[x]) []
def zC(o:Obj)(ks:X9):Prop:=aM (fun(PN:List (Int×Value))=>ba (PySem.intKind PR w) o PN) (fun PN=>PN.map (·.1)=ks)
theorem qS:∀ (l PN:List (Int×Value)),(l.foldl cj PN).map (·.1)=(l.map (·.1)).foldl (fun PS x=>if x∈PS then PS else PS++[x]) (PN.map (·.1))
 |[],_=>rfl
 |x::l,PN=>by
  (refine aa L7 (aa LA ?_);rw[L7];refine aa (qS l _) ?_)
  congr 1
  unfold cj
  split<;>simp
theorem uu{vs:X8}{ns:X9}(h:IntsAre vs ns):fJ (fun(xs:List (Int×Value))=>vs=xs.map (·.2)) (fun xs=>ns=xs.map (·.1)) (fun xs=>∀ p∈xs,∃ t,p.2=.int p.1 t):=by
 induction h with
 |nil=>exact⟨[],rfl,rfl,fun _ h=>absurd h Lw⟩
 |cons y t h ih=>
  obtain⟨xs,rfl,rfl,h2⟩:=ih;exact⟨(y, .int y t)::xs,rfl,rfl,fun p hp=>(KG.mp hp).elim (fun e=>⟨t,by exact aa e rfl⟩) (h2 p)⟩
theorem IZ(hm:(l,lO vs k)∈n)(hi:IntsAre vs ns)(hz:ns.length<=1000)(h:∀ (S:Nat) o,zC o (dd ns)->J (.ref S) m ((S,o)::n)):Tr c E m n (call (.type "set") [.ref l]) J:=by
 obtain⟨xs,rfl,rfl,hx⟩:=uu hi;refine I0 (knd:=PySem.intKind PR w) hm rfl (fun x U5=>?_) (by rwa [KE] at hz) fun S o hS=>h S o ⟨_,hS,qS xs []⟩;obtain⟨t,e⟩:=hx x U5;refine aa e ?_;exact⟨by simp[PySem.intKind,Value.isInt],rfl⟩
theorem Id(hm:(a,o)∈n)(hS:zC o ks)(hz:ks.length<=60)(h:∀ (R:Nat) PL kk,IntsAre PL (aF ks)->J (.ref R) m ((R,lO PL kk)::n)):Tr c E m n (call (.builtin "sorted") [.ref a]) J:= .mk fun s l=>by
 obtain⟨PN,hS,rfl⟩:=hS;exact qA rfl (l.N _ hm).1 hS (by rwa [KE] at hz) fun R PL ns kk h' d a1 a2 a3 a4 a5 a6=>⟨m,_,l.got a5 a4 a6,h R PL kk (xb a2 a3▸a1)⟩
theorem Kk(h:∀ t',J (.int (if j>i then j else i) t') m n):Tr c E m n (call (.builtin "max") [.int i t, .int j u]) J:= .mk fun s l=>
 max_two_ints rfl fun h' tk hk=>by
  refine⟨m,n,l.kept hk,?_⟩
  split
  ·rename_i q;have:=h u;rw[KW q] at this;exact this
  ·rename_i q;have:=h t;rw[KM q] at this;exact this
theorem IX(hm:(a,lO vs k)∈n)(hi:IntsAre vs ns)(P2:0<ns.length)(h:∀ M t',M∈ns->(∀ x∈ns,M<=x)->J (.int M t') m n):Tr c E m n (call (.builtin "min") [.ref a]) J:= .mk fun s l=>
 min_list_N rfl l.F l.N ⟨_,(l.N _ hm).1,rfl,k,rfl⟩ hi P2 fun h' M t tk F N h1 h2=>⟨m,n,l.to F N l.D l.G rfl,h M t h1 h2⟩
theorem Iq(hi:i.natAbs.log2<1920)(h:∀ t',J (.str (Yc (toString i)) t') m n):Tr c E m n (call (.type "str") [.int i t]) J:= .mk fun s l=>PySem.P.str_of_int hi ⟨m,n,l.tok,h _⟩
theorem Kp(hm:(a,lO vs k)∈n)(hi:IntsAre vs ns)(h:J (.bool (decide (i∈ns))) m n):Tr c E m n (compareOp .In (.int i t) (.ref a)) J:= .mk fun s l=>
 in_list_ints ⟨_,(l.N _ hm).1,rfl,k,rfl⟩ hi ⟨m,n,l,by refine aa (show ns.any (·==i)=decide (i∈ns) by rw[MY];simp) ?_;exact h⟩
theorem JC(hm:(a,lO vs k)∈n)(hi:IntsAre vs ns)(h:J (.bool (decide (i∉ns))) m n):Tr c E m n (compareOp .NotIn (.int i t) (.ref a)) J:= .mk fun s l=>
 notin_list_ints ⟨_,(l.N _ hm).1,rfl,k,rfl⟩ hi ⟨m,n,l,by refine aa (show (!ns.any (·==i))=decide (i∉ns) by rw[MY];simp only[Bool.not_eq_true',List.any_eq_false,Mx,MH];exact⟨fun h hm=>h i hm rfl,fun h x hx e=>h (e▸hx)⟩) ?_;exact h⟩
theorem Im(hm:(a,lO vs k)∈n)(hi:IntsAre vs ns)(hz:ns.length<=1000)(hk:i∈ns)(h:∀ t',J (.int (ns.idxOf i:Nat) t') m n):Tr c E m n (call (.builtin "list.index") [.ref a, .int i t]) J:= .mk fun s l=>by
 have QI:=hi.length;have hj:ns.idxOf i<ns.length:=Mu.mpr hk;refine call_meets Ob ⟨_,(l.N _ hm).1,rfl⟩ PySem.F.entry_list_index (PySem.F.args_list_index_2 _ _)
  (PySem.SeqAt.list_indexAt a vs.toArray k none #[] (.int i t) (isInt i) (ns.idxOf i) (by simpa [QI] using hj) (Fl hj hz) ?_ ?_) ⟨(l.N _ hm).1,fun y hy=>(eq_isInt i t hi y (by simpa using hy)).at _ _,⟨m,n,l.tok,h _⟩⟩
 ·show isInt i vs[ns.idxOf i]=true
  refine aa (isInt_at i hi _ (q1 hj QI) hj) ?_;simpa using List.getElem_idxOf hj
 ·intro q hjs PU
  show isInt i vs[q]=false;exact aa (isInt_at i hi q (by simpa using hjs) (q9 PU hj)) (ne_of_lt_idxOf PU _)
theorem Jc{D b:Addr}{vs ws:X8}{k k2:Nat}(hn:n=(D,lO vs k)::post)(hb:(b,lO ws k2)∈n)(hz:vs.length+ws.length<=100000)(h:∀ k',J .none m ((D,lO (vs++ws) k')::post)):Tr c E m n (call (.builtin "list.extend") [.ref D, .ref b]) J:= .mk fun s l=>by
 subst hn;have hd:=l.D;refine extend_in (own:=[]) (rest:=post) l.F l.N (fun _ h=>nomatch h) (fun p hp=>hd.ne hp) (l.N _ hb).1 (fun h' k' F N=>⟨m,_,l.to F N (aw.set (pre:=[]) hd) l.G rfl,h k'⟩) (by refine aa Lf (aa Lu ?_);exact bd hz)
theorem H5{a b:Addr}{vs ws:X8}{k k2:Nat}(ha:(a,lO vs k)∈n)(hb:(b,lO ws k2)∈n)(hz:vs.length+ws.length<=100000)(h:∀ D:Nat,J (.ref D) m ((D,lO (vs++ws) 0)::n)):Tr c E m n (binaryOp .Add (.ref a) (.ref b)) J:= .mk fun s l=>
 add_lists l.F l.N ⟨_,(l.N _ ha).1,rfl,k,rfl⟩ ⟨_,(l.N _ hb).1,rfl,k2,rfl⟩ (fun h' F N=>⟨m,_,l.to F N (l.D.fresh fun p hp=>KO (l.N p hp).1) l.G rfl,h _⟩) (by refine aa Lf ?_;exact bd hz)
theorem GS(hm:(a,o)∈n)(ho:o.data=.cell (some v))(h:J v m n)(hc:Yj.cells.lookup x=some a:=by rfl)(hk:Yj.scope.kind=.function:=by rfl)(hx:Yj.kindOf x=some .cell:=by rfl)(hd:(x==("__debug__":Str))=false:=by decide):Tr c E m n (eval (.Name x p) Yj) J:= .mk fun s l=>
 qN l.N hk hx hc hm ho ⟨m,n,l,h⟩ hd
abbrev i6:Obj:={cls:= .type "cell",data:= .cell none}
variable{K:ad Flow}{r:Yb}
theorem zX{M:Model}{A:Around}{scope:Scope}{globals:Addr}{cl:List (Str×Addr)}{qual:Str}{code:Value}{outer:Env}{s:Shared}{Q:Env->Shared->Prop}{cx:Str}
  (hc:∀ k PS,cellsFrom k scope.names PS=(cx,k)::PS) (hp:∀ h,pushCells h scope.names=h.push i6)
  (h:Q {scope:=scope,locals:=s.heap.objs.size,globals:=globals,cells:=(cx,s.heap.objs.size+1)::cl,qual:=qual,func:=none,code:=outer.code,frame:=outer.frame,builtins:=outer.builtins} {s with heap:=(s.heap.push {cls:= .type "dict",data:= .dict #[]}).push i6}):
  wpAny M A (newFunctionEnv scope globals cl [] qual none code (some outer)) Q E s:=by
 simp only[newFunctionEnv,Option.isSome_some,if_true];refine Kx (wpAny_alloc ?_);refine Kx (wpAny_layCells _ (fun name kind cells=>by cases hkc:kind==NameKind.cell<;>simp[hkc]) _ _ _ _ ?_);refine aa (hc _ _) (aa (hp _) (aa (show ({s with heap:=s.heap.push {cls:= .type "dict",data:= .dict #[]}}:Shared).heap.objs.size=s.heap.objs.size+1 from LZ ..) ?_));exact aa Os (Kx (KC (KC h)))
theorem I9
  (h:Tr c E m n (eval i1 c.env) fun v m' n'=>nY (fun(S:dv) (P:Nat->Nat->X5->X8->X4->Prop)=>v=S.v) (fun S _=>eS c n' S.ent) (fun S _=>S.N<=90) (fun _ P=>(∀ k,P k 0 (fun _=>none) [] [(k,i6)])) (fun S P=>(∀ k,lV c t1 i2 t2 f2 P0 scope ((cx,k)::cls) c.env S m' n' (P k))) (fun S P=>∀ (k D:Nat) (mC:X5) (PL:X8) (g:X4) (cD:Nat),P k S.N mC PL g->Tr c E (fun z=>if z=y then some (.ref D) else m' z) ((D,lO PL cD)::(g++n')) (execs r c.env) K))
  (hcx:∀ k PS,cellsFrom k scope.names PS=(cx,k)::PS:=by intro _ _;rfl) (UX:∀ h,pushCells h scope.names=h.push i6:=by intro _;rfl)
  (Rw:swapsWith (.ListComp P0 [⟨t1,i1,[],0⟩,⟨t2,i2,f2,0⟩] scope pos) (some (.Name y py)) Q9.line c.env=Pure.pure true:=by rfl)
  (Qj:closureFor scope c.env=Pure.pure cls:=by rfl) (P4:scope.kind=.function:=by rfl) (P7:∀ x∈scope.names,x.2=.local->scope.names.lookup x.1=some .local:=by decide)
  (hy:c.env.kindOf y=some .local:=by rfl) (hp:(c.env.scope.kind== .class||(c.env.scope.kind== .module&&c.env.locals !=c.env.globals))=false:=by rfl) (RY:∀ x,foldedSetIterable i1 c.env x=Pure.pure x:=by intro _;rfl) (Vr:∀ k C x,foldedSetIterable i2 (compEnvC scope ((cx,k)::cls) C c.env) x=Pure.pure x:=by intro _ _ _;rfl):
  Tr c E m n (execs (.Assign [.Name y py] (.ListComp P0 [⟨t1,i1,[],0⟩,⟨t2,i2,f2,0⟩] scope pos) Q9::r) c.env) K:= .mk fun s l=>by
 refine Lp ?_;refine aa (Oy _ _ _ _ Rw) ?_;refine Kx (LF (Kx ?_));show wpAny _ c.A (do let _←comprehension (.ListComp P0 [⟨t1,i1,[],0⟩,⟨t2,i2,f2,0⟩] scope pos) scope c.env _ (newList []) false (eval i1 c.env) (some (assign (.Name y py) c.env))) _ _ s;refine Kx (K7 (wpAny_comprehension_free (g:=⟨t1,i1,[],0⟩) (gs:=[⟨t2,i2,f2,0⟩]) (use:=some (assign (.Name y py) c.env)) (Q:=fun _ s'=>bG (fun m' n'=>ax c s' m' n') (fun m' n'=>Tr c E m' n' (execs r c.env) K)) rfl RY Qj P4 P7 (up (h.go s l) fun v s' hv=>?_)) (fun _ s' hq=>?_) fun _ _ e=>e)
 ·obtain⟨m',n',l',S,P,rfl,hm,hz,Sz,turn,last⟩:=hv
  refine S.iter l' hm (bd hz) fun I oI h1 fp St src hI PU l1 Tp hst Qf Uj=>LW (zX hcx UX ?_);dsimp only;have hD:(h1.push (listOf #[] 0)).objs.size=h1.objs.size+1:=LZ _ _;show codeAny MP c.A (.compStart _ 0 (.ref I) (.ref h1.objs.size) (compEnvC scope ((cx,(h1.push (listOf #[] 0)).objs.size+1)::cls) (h1.push (listOf #[] 0)).objs.size c.env)) (compPost MP c.A E (some (assign (.Name y py) c.env)) _ (.ref h1.objs.size) (h1.push (listOf #[] 0)).objs.size) _;have l2:=((l1.push (listOf #[] 0)).push {cls:= .type "dict",data:= .dict #[]}).push i6;dsimp only at l2;have hC:((h1.push (listOf #[] 0)).push {cls:= .type "dict",data:= .dict #[]}).objs.size=(h1.push (listOf #[] 0)).objs.size+1:=LZ _ _;rw[hC] at l2;rw[hD] at l2⊢;have xC:bv ({cls:= .type "dict",data:= .dict #[]}:Obj) (fun _=>none):=⟨#[],0,rfl,fun _ he=>by simp at he,fun _=>rfl⟩;generalize hKe:h1.objs.size+1+1=kA at l2⊢;generalize hCe:h1.objs.size+1=C at l2⊢;generalize TH:h1.objs.size=D at l2⊢;have l3:ax c _ m' (db I oI C {cls:= .type "dict",data:= .dict #[]} D [] 0 ([(kA,i6)]++n')):=l2.perm ((bc [_,_,_] (bc [_] (bc [_] (.refl _)))).trans (.cons _ (.cons _ (.refl _))));clear l2;have SV:C≠I:=l3.D.ne (.head _);have turnB:=lV.toB (scope:=scope) (pos:=pos) (i1:=i1) hz (turn kA) (Vr kA);refine gV (Yj:=compEnvC scope ((cx,kA)::cls) C c.env) (src:=src) (L:=c.L) (h₀:=c.h₀) (m:=m') rfl rfl rfl (fun it=>jX ..) rfl rfl rfl Tp
   (fun j mC PW=>eg (fun PL g cD=>PW=(D,lO PL cD)::(g++n')) (fun PL g _=>(P kA j mC PL g/\PL.length<=1000*j)) (fun _ _ _=>∀ oI oC:Obj,aw ((I,oI)::(C,oC)::PW))) (fun g _=>c.Gp g) ?st0 SV xC l3.F l3.N l3.G ⟨[],_,0,rfl,⟨Sz kA,K0 _⟩,fun _ _=>l3.D⟩ ?_ ?_ ?_
  case st0=>exact Tp.W.frame _ _ _ hst fun b _ o e=>KL _ (KL _ (KL _ e))
  ·rintro j mC PW ⟨PL,g,cD,rfl,hp,Q5⟩
   refine⟨fun p Yw=>(Q5 oI oI).ne (.tail _ Yw),fun b hb QH=>?_⟩;have e:=Uj b hb QH;have h2:eS c ((D,lO PL cD)::(g++n')) S.ent:=hm.imp (fun q=> .tail _ (Kz _ q)) id;rw[←e] at h2;exact h2
  ·rintro j v mC oC PW Q1 h2 g2 d2 Sm hj hv xC ⟨PL,g,cD,rfl,hp,Q5⟩ hg F2 N2
   intro E';have l4:ax c ⟨h2,g2,d2,Sm,s'.os⟩ m' (db I Q1 C oC D PL cD (g++n')):=l'.to F2 N2 (Q5 Q1 oC) hg rfl;have Tu:∀ {s4:Shared} {m4 n4},ax c s4 m4 n4->fH I Q1 C D n' m' (fun mC PL g=>P kA (j+1) mC PL g/\PL.length<=1000*(j+1)) m4 n4->
     fG c.h₀ c.L I C m' Q1 (fun mC PW=>eg (fun PL g cD=>PW=(D,lO PL cD)::(g++n')) (fun PL g _=>(P kA (j+1) mC PL g/\PL.length<=1000*(j+1))) (fun _ _ _=>∀ oI oC:Obj,aw ((I,oI)::(C,oC)::PW))) s'.os (fun g _=>c.Gp g) s4:=by
    rintro s4 m4 n4 lx ⟨rfl,Qo,RJ,SS,cD',g',SP,QA,TI⟩;have l5:=lx.perm QA;exact i7 l5.F l5.N SP ⟨_,_,_,rfl,TI,fun _ _=>l5.D⟩ l5.G (l5.O.trans l'.O.symm)
   refine c6 ((turnB E' j v PL g I D C Q1 oC mC cD hj hv hp xC).go _ l4) fun _ s3 m2 n2 l7 q=>?_;refine F0 l7 q fun t s4 m6 n6 l6 q4=>?_
   cases t with
   |false=>exact rU (Tu l6 q4)
   |true=>
    refine kD (F0 l6 q4 fun _ s5 m5 n5 l5 q5=>?_);exact Tu l5 q5
  ·rintro h2 g2 d2 Sm mC oC PW xC ⟨PL,g,cD,rfl,hq,Q5⟩ hg F2 N2
   have l5:ax c ⟨h2,g2,d2,Sm,s'.os⟩ m' ((D,lO PL cD)::(g++n')):=l'.to F2 (iM N2) (Q5 oI oC).tail.tail hg rfl;refine gi (h₀:=c.h₀) (L:=c.L) (Q:=fun _ s'=>bG (fun m' n'=>ax c s' m' n') (fun m' n'=>Tr c E m' n' (execs r c.env) K)) hy rfl hp m' D C oC mC _ _ xC F2 N2 (fun p hp=>(Q5 oI oC).tail.ne hp) fun h3 tk F3 N3=>⟨_,_,l5.to F3 N3 l5.D l5.G rfl,last kA D mC PL g cD hq.1⟩
 ·obtain⟨m',n',l',q⟩:=hq
  exact KC (KC (q.go s' l'))
end
section
variable{A:Around}{E:X6}{s:Shared}{h₀:Heap}{L a:Addr}{m:X5}{news:X4}{Q:X6}
theorem vn(F:Fr h₀ L s.heap m)(N:News h₀ L s.heap (pre++(a,listOf #[.ref x, .ref y] n)::post))(QW:∀ p∈pre++post,p.1≠a)
  (hx:(x,bl (.str p1 t1) y1 n1)∈pre++post) (hy:(y,bl (.str p2 t2) y2 n2)∈pre++post) (P2:p1≠p2)
  (h:∀ h' c,Fr h₀ L h' m->News h₀ L h' (pre++(a,listOf (bS (decide (p2.cps.toList<p1.cps.toList)) (.ref x) (.ref y)) c)::post)->Q .none {s with heap:=h'}):wpAny MP A (call (.builtin "list.sort") [.ref a]) Q E s:=by
 have hm:=N (a,listOf #[.ref x, .ref y] n) (Kz _ (.head _));have N0:News h₀ L s.heap (pre++post):=fun p hp=>N p (by
  rcases KK.mp hp with hp|hp
  ·exact Ky _ hp
  ·exact Kz _ (.tail _ hp))
 refine LQ slot_list_sort ⟨_,hm.1,rfl⟩ OQ ?_ (args_list_sort _);refine kat_list_sort (vs:=[.ref x, .ref y]) F N0 hm.1 hm.2.1 hm.2.2 QW (by show (2:Nat)<=2;decide) (by show (2:Nat)<64;decide) fun e1 h' F' N'=>?_;have gx:=(N' _ (.tail _ hx)).1;have gy:=(N' _ (.tail _ hy)).1;refine kat_kind (fs:=[.str p1 t1, .str p2 t2]) (T:= .type "str") (KatTups.cons gx rfl rfl rfl (KatTups.cons gy rfl rfl rfl KatTups.nil)) (by show 0<2;decide) (fun v hv=>?_) (by decide) ?_
 ·rcases KG.mp hv with rfl|hv
  ·exact .now
  ·refine aa (KD.mp hv) ?_;exact .now
 show kas_ask PR w A.in1 _ [.ref x, .ref y] 1 0 _ _;refine kat_lt gy rfl gx rfl ?_;refine kat_cons (wpAny_eqBool_str ?_);have hd:decide (p2=p1)=false:=KY fun e=>P2 e.symm;have hb:(p2==p1)=false:=LL.mpr fun e=>P2 e.symm;simp only[hd];refine kat_no ?_;refine aa (show ((Value.type "str" !=Value.type "tuple")&&(0:Nat)==0)=true from by decide) ?_;refine oneLt_str ?_;have U:UpdF a (seqObj "list" #[] e1) ((a,seqObj "list" #[] e1)::(pre++post)) (fun o'=>(a,o')::(pre++post)):= .head QW;have fin:∀ (b:Bool) (out:X8),List.toArray out=bS b (.ref x) (.ref y)->KasFin h₀ L m a e1 out (fun s3=>(fun fin s'=>∃ v,fin=PySem.Fin.done (.ret v)/\Q v s') (.done (.ret .none)) s3) {s with heap:=h'}∨¬b=decide (p2.cps.toList<p1.cps.toList):=fun b out e=>by
  by_cases hb:b=decide (p2.cps.toList<p1.cps.toList)
  ·left
   subst hb;refine KasFin.intro F' N' U fun h2 c F2 N2=>⟨_,rfl,h h2 c F2 ?_⟩;rw[e] at N2;exact gk N2 Ld.symm
  ·exact .inr hb
 cases hb:decide (p2.cps.toList<p1.cps.toList) with
 |true=>
  refine(fin true _ ?_).resolve_right (fun q=>q hb.symm);have e01:(#[0,1]:Array Nat).swapIfInBounds 0 1=#[1,0]:=by decide
  simp[kas_rev,mirror,List.range,List.range.loop,e01,bS]
 |false=>
  refine(fin false _ ?_).resolve_right (fun q=>q hb.symm);simp[List.range,List.range.loop,bS]
theorem lP{l:Addr}{vs:X8}(hl:s.heap.IsList l vs.toArray)(hz:vs.length<=1000)
  (h:∀ (R:Nat) h',(∀ b o,s.heap.get? b=some o->h'.get? b=some o)->h'.get? R=some (lO vs 0)->s.heap.get? R=none->wpAny MP A.in1 (call (.builtin "list.sort") [.ref R]) (fun _ s'=>Q (.ref R) s') E {s with heap:=h'}):
  wpAny MP A (call (.builtin "sorted") [.ref l]) Q E s:=by
 refine Calls.call_function_entry kind_sorted plain_sorted entry_sorted (args_sorted1 _) ?_;unfold Builtin.«sorted»;refine Kx (m:=checkCount "sorted" 1 1 _) (KC ?_);refine Kx (collect_list hl ?_ (by refine aa Lf ?_;exact bd hz));refine Kx (wpAny_newList ?_ (by refine aa Lf ?_;exact bd hz));have Qf:((s.heap.push (seqObj "list" #[] 0)).update s.heap.objs.size (Obj.mapSeq (·++vs.toArray))).objs.size=s.heap.objs.size+1:=by
  exact aa (Heap.size_update _ _ _) (aa (size_push' _ _) rfl)
 have hk:∀ b o,s.heap.get? b=some o->(((s.heap.push (seqObj "list" #[] 0)).update s.heap.objs.size (Obj.mapSeq (·++vs.toArray))).push (seqObj "list" vs.toArray 0)).get? b=some o:=fun b o hb=>by
  have PU:b<s.heap.objs.size:=KO hb;refine aa (Heap.get?_push_ne _ _ _ (by rw[Qf];exact K6 (LG PU))) (aa (Heap.get?_update_ne _ _ _ _ (K6 PU)) (aa (Heap.get?_push_ne _ _ _ (K6 PU)) ?_));exact hb
 refine Kx (Li (K7 (h _ _ hk (La _ rfl) ?_) (fun _ s' q=>KC ⟨_,rfl,q⟩) fun _ _ e=>e));refine aa Qf ?_
 cases hq:s.heap.get? (s.heap.objs.size+1) with
 |none=>rfl
 |some o=>exact absurd (KO hq) (MW.mpr (MD _))
inductive tf(g:X4):Value->Str×Int->Prop
 |mk (a:Nat) (x:Str) (i:Int) (t u:Tok):(a,bl (.str x t) (.int i u) 0)∈g->tf g (.ref a) (x,i)
abbrev cb(g:X4):X8->List (Str×Int)->Prop:=eC (tf g)
end
theorem cb.snoc(h:(a,bl (.str x t) (.int i u) 0)∈g)(y:cb g vs ps):cb g (vs++[.ref a]) (ps++[(x,i)]):=eC.snoc (.mk a x i t u h) y
theorem cb.mono(h:∀ p∈g,p∈g')(y:cb g vs ps):cb g' vs ps:=eC.mono (by rintro _ _ ⟨a,x,i,t,u,m⟩;exact .mk a x i t u (h _ m)) y
theorem cb.at{g:X4}{vs:X8}{ps:List (Str×Int)}{j:Nat}{v:Value}(y:cb g vs ps)(h:vs[j]?=some v):l9 (fun(a:Nat) (x:Str) (i:Int) (t u:Tok)=>v=.ref a) (fun a x i t u=>(a,bl (.str x t) (.int i u) 0)∈g) (fun _ x i _ _=>ps[j]?=some (x,i)):=by
 obtain⟨p,e,a,x,i,t,u,m⟩:=eC.at y h;exact⟨a,x,i,t,u,rfl,m,e⟩
noncomputable def bu:List (Str×Int)->List (Str×Int)
 |[x,y]=>if y.1.cps.toList<x.1.cps.toList then[y,x] else[x,y]
 |l=>l
theorem nC(l:List (Str×Int)):(bu l).length=l.length:=by
 match l with
 |[]=>rfl
 |[x]=>rfl
 |[x,y]=>show (if y.1.cps.toList<x.1.cps.toList then[y,x] else[x,y]).length=2;split<;>rfl
 |x::y::z::r=>rfl
section
variable{c:Fx}{E:X6}{m:X5}{n:X4}{J:ad Value}
theorem Ip(hm:(l,lO vs k)∈n)(hp:cb n vs ps)(hz:ps.length<=2)(RP:(ps.map (·.1)).Nodup)
  (h:∀ (R:Nat) RM k',cb n RM (bu ps)->J (.ref R) m ((R,lO RM k')::n)):Tr c E m n (call (.builtin "sorted") [.ref l]) J:= .mk fun s l0=>by
 have hL:s.heap.IsList l vs.toArray:=⟨_,(l0.N _ hm).1,rfl,k,rfl⟩
 cases hp with
 |nil=>
  refine PyProof.Rows.sorted_ints hL .nil (by decide) fun out ns' a1 a2 a3=>?_;obtain⟨e,he⟩:=sortedAll_at s.heap [] out;have Wk:out=#[]:=by
   have:ns'=[]:=List.perm_nil.mp a2;subst this
   cases out with|mk l=>cases a1;rfl
  subst Wk;exact⟨m,_,l0.got (d:=s.drawn) (tk:=s.toks) (fun b o hb=>sortedAll_old hb) he (by
   cases hq:s.heap.get? (s.heap.objs.size+1) with
   |none=>rfl
   |some o=>exact absurd (KO hq) (MW.mpr (MD _))),h _ [] _ .nil⟩
 |cons g1 r=>
  obtain⟨a1,x1,i1,t1,u1,h1⟩:=g1
  cases r with
  |nil=>
   refine lP hL (KA rfl) fun R h' hk hR hn=>?_;have l1:=l0.got (d:=s.drawn) (tk:=s.toks) hk hR hn;exact pL l1.F l1.N (fb [] rfl l1.D) fun h2 c2 F N=>⟨m,_,l1.to F N (aw.set (pre:=[]) l1.D) l1.G rfl,h R _ c2 (.cons (.mk a1 x1 i1 t1 u1 h1) .nil)⟩
  |cons g2 r=>
   obtain⟨a2,x2,i2,t2,u2,h2⟩:=g2
   cases r with
   |cons _ _=>exact absurd hz (by simp)
   |nil=>
    refine lP hL (KA rfl) fun R h' hk hR hn=>?_;have l1:=l0.got (d:=s.drawn) (tk:=s.toks) hk hR hn;have hd:=l1.D;have P2:=(Lx.mp RP).1;refine vn (pre:=[]) (post:=n) l1.F l1.N (fun p hp=>hd.ne hp) h1 h2 (fun e=>P2 (by refine aa LA (aa OU ?_);exact KD.mpr e)) fun h3 c3 F N=>⟨m,_,l1.to F N (aw.set (pre:=[]) hd) l1.G rfl,?_⟩;have h':∀ RM k',cb n RM (if x2.cps.toList<x1.cps.toList then[(x2,i2),(x1,i1)] else[(x1,i1),(x2,i2)])->J (.ref R) m ((R,lO RM k')::n):=fun RM k' hp=>h R RM k' hp;unfold bS
    by_cases PU:x2.cps.toList<x1.cps.toList
    ·rw[KW PU] at h'
     exact aa (KV PU) (h' [.ref a2, .ref a1] c3 (.cons (.mk a2 x2 i2 t2 u2 h2) (.cons (.mk a1 x1 i1 t1 u1 h1) .nil)))
    ·rw[KM PU] at h'
     exact aa (KY PU) (h' [.ref a1, .ref a2] c3 (.cons (.mk a1 x1 i1 t1 u1 h1) (.cons (.mk a2 x2 i2 t2 u2 h2) .nil)))
variable{rest:X4}
theorem eE.post(h:eE k f as n P Rs)(hp:∀ v n',P v n'->P' v n'):eE k f as n P' Rs:=
 fun c E m rest J hk hJ hR=>h c E m rest J hk (fun v n' q=>hJ v n' (hp v n' q)) hR
theorem Hz{k:Nat}{f:Addr}{args:X8}{F:X4}{Q:Value->X4->Prop}(d:bD k f args F (fun v n'=>aM (fun x=>Q v x) (fun x=>n'=x++F)) eT)(hp:n.Perm (F++rest))(hk:k<=c.k)(h:∀ v x,Q v x->J v m (x++n)):Tr c E m n (call (.ref f) args) J:= .mk fun s l=>by
 have h1:=Tr.go (d.to c E m rest (fun v m' n'=>fJ (fun x=>Q v x) (fun _=>m'=m) (fun x=>n'=x++(F++rest))) hk (fun v n' hv=>by
  obtain⟨x,hq,e⟩:=hv;exact⟨x,hq,rfl,by exact aa e (aa (KQ _ _ _) rfl)⟩) dC.no) s (l.perm hp)
 refine up h1 fun v s' hv=>?_;obtain⟨m',n',l',x,hq,e1,e2⟩:=hv;subst e1 e2;exact⟨m',x++n,l'.perm (hp.symm.append_left x),h v x hq⟩
theorem jz:∀ {l:List α},x∈l->∃ r,l.Perm ([x]++r)
 |_,h=>by
  obtain⟨s,t,rfl⟩:=List.append_of_mem h;exact⟨s++t,Ld⟩
theorem fN(Qc:bP Ye):∀ (f:Nat) (s:Int),-1<=s->s<Ye.length->∀ o∈bw Ye f s,0<=o/\o<Ye.length
 |0,_,_,_,o,h=>nomatch h
 |f+1,s,h0,h1,o,h=>by
  rw[ej] at h
  by_cases hs:s=-1
  ·rw[KW hs] at h;cases h
  ·rw[KM hs] at h
   obtain⟨g0,g1⟩:=Qc s.toNat (mK h0 hs h1);rcases KG.mp h with rfl|h
   ·exact EW h0 h1 hs
   ·exact fN Qc f _ g0 (vt h0 hs h1 g1) o h
theorem dF(Qc:bP Ye):∀ (f:Nat) (s:Int),-1<=s->s<Ye.length->(bw Ye f s).length<=(s+1).toNat
 |0,_,_,_=>K0 _
 |f+1,s,h0,h1=>by
  refine aa (ej _ _ _) ?_
  by_cases hs:s=-1
  ·exact aa (KW hs) (K0 _)
  ·refine aa (KM hs) ?_
   obtain⟨g0,g1⟩:=Qc s.toNat (mK h0 hs h1);have:=dF Qc f _ g0 (vt h0 hs h1 g1);refine aa Lc ?_;exact Fq h0 hs g1 this
end
theorem Ig{k:Nat}{f:Addr}{as:Args}{n:X4}{P:Value->X4->Prop}{Rs:Str->X4->Prop}
  {name qual:Str} {params:Arguments} {body:Yb} {scope:Scope} {dV kV doc pm PV ct oc:Value} {an od:Option Addr} {RL:Array (Option Value)} {binds:List (Str×Value)}
  (ho:(am w.params).lookup f=some ⟨oc,od, .func (fnOf name qual params body scope dV kV doc pm an PV ct),RL⟩) (QZ:codeIn (am w.params) PV qual=true)
  (Qv:∀ s:Shared,(am w.params).In s.heap->BindsTo s (fnOf name qual params body scope dV kV doc pm an PV ct) as binds) (P4:(binds.all fun y=>scope.names.lookup y.1==some .local||scope.names.lookup y.1==some .cell)=true) (RP:((cellsFrom 0 scope.names []).map (·.1)).Nodup)
  (Q0:scope.isCoroutine=false) (QV:scope.isGenerator=false) (hk:scope.kind=.function)
  (Sh:∀ L cells,CellsAre (bindC (envOfC qual scope L f PV).kindOf binds fun _=>none) (cellsFrom (L+1) scope.names []) cells->aw cells/\∀ p∈cells,L<p.1)
  (Ry:∀ PO Yp,Rs PO Yp->∀ q∈Yp,q.1∈n.map (·.1))
  (hb:∀ A₀ base dp un gd L outer h₀ os g₀,let c:Fx:=⟨A₀,base,k,dp,un,gd,qual,scope,L,f,PV,cellsFrom (L+1) scope.names [],outer,h₀,os,g₀⟩;∀ E (K:ad Flow) cells,jE Rs c E->PassesOwn MP c.A c.env E->(∀ fl m n' PP,PP.Sublist n'->P (cv fl) PP->K fl m n')->CellsAre (bindC (envOfC qual scope L f PV).kindOf binds fun _=>none) (cellsFrom (L+1) scope.names []) cells->
   Tr c E (bindL (envOfC qual scope L f PV).kindOf binds fun _=>none) (cells++n) (execs body c.env) K):
  eE (k+1) f as n P Rs:=by
 intro c E m rest J Qz hJ hR s l;obtain⟨Qt,mg,mb,T⟩:=l.T;have hd:=l.hd;have hu:=l.hu;refine kt l.B l.F l.X l.N T rfl rfl l.hk (fun p hp=>Ky rest hp) ho QZ (by show c.dp<recursionLimit;exact iR hd) (Qv s (l.X.keeps l.F.keep)) P4 RP ?_ Q0 QV hk;intro g L' h₁ Tv cells FG F' N' Y' B' X' T' PU hg hn;have QJ:∀ p∈rest,p∈n++rest/\∀ q∈n,q.1≠p.1:=fun p hp=>⟨Kz _ hp,fun q hq=>l.D.apart q hq p hp⟩;have RA:∀ p∈rest,g.get? p.1=some p.2/\p.1≠c.L:=fun p hp=>⟨hg p (QJ p hp).1 (QJ p hp).2,(l.N p (QJ p hp).1).2.1⟩;have l0:ax (⟨c.A,c.base,k,c.dp+1,c.un+3,c.gd,qual,scope,L',f,PV,cellsFrom (L'+1) scope.names [],c.env::c.outer,g,c.os,s.gens⟩:Fx) {s with heap:=h₁,toks:=Tv} (bindL (envOfC qual scope L' f PV).kindOf binds fun _=>none) (cells++n):=
  ⟨B',X',⟨_,_,_,T'⟩,hk,tV Qz hd,vw Qz hu,F',N',(Sh L' cells Y').1.append l.D.left fun p hp q hq e=>absurd (PU q (Ky _ hq)) (e▸MW.mpr (LD ((Sh L' cells Y').2 p hp))),⟨l.G.1,fun _=>rfl⟩,l.O⟩
 refine K7 (Tr.go (hb c.A c.base (c.dp+1) (c.un+3) c.gd L' (c.env::c.outer) g c.os s.gens _ (fun fl _ n'=>aM (fun PP=>PP.Sublist n') (fun PP=>P (cv fl) PP)) cells ?_ ?pas (fun _ _ _ PP a b=>⟨PP,a,b⟩) Y') _ l0) ?_ fun _ _ e=>e
 case pas=>passes_own
 ·exact @jE.mk _ _ _ _ _ _ _ hR B' FG RA Ry hn rfl rfl rfl
 ·rintro fl s' ⟨m',n',l',q⟩
  cases fl<;>exact Hh l hJ QJ RA l' q rfl (pE Qz) fun v m' n' a b=>⟨m',n',a,b⟩
structure oj where
 A₀:Around
 base:Heap
 dp:Nat
 un:Nat
 gd:Option (List Code)
 L:Addr
 outer:List Env
 h₀:Heap
 os:OsState
 g₀:Array GenState
 E:X6
 K:ad Flow
theorem xL:Nonempty oj:=⟨⟨callerA,default,0,0,none,0,[],default,default,#[],fun _ _=>True,fun _ _ _=>True⟩⟩
noncomputable def oj.fx (i:oj) (k:Nat) (qual:Str) (scope:Scope) (f:Addr) (PV:Value):Fx:=⟨i.A₀,i.base,k,i.dp,i.un,i.gd,qual,scope,i.L,f,PV,cellsFrom (i.L+1) scope.names [],i.outer,i.h₀,i.os,i.g₀⟩
def MB(k:Nat)(qual:Str)(scope:Scope)(f:Addr)(PV:Value)(n:X4)(P:Value->X4->Prop)(Rs:Str->X4->Prop)(binds:List (Str×Value))(body:Yb)(i:oj):Prop:=
 ∀ cells,jE Rs (i.fx k qual scope f PV) i.E->PassesOwn MP (i.fx k qual scope f PV).A (i.fx k qual scope f PV).env i.E->(∀ fl m n' PP,PP.Sublist n'->P (cv fl) PP->i.K fl m n')->CellsAre (bindC (envOfC qual scope i.L f PV).kindOf binds fun _=>none) (cellsFrom (i.L+1) scope.names []) cells->
  Tr (i.fx k qual scope f PV) i.E (bindL (envOfC qual scope i.L f PV).kindOf binds fun _=>none) (cells++n) (execs body (i.fx k qual scope f PV).env) i.K
theorem HD{k:Nat}{f:Addr}{as:Args}{n:X4}{P:Value->X4->Prop}{Rs:Str->X4->Prop}
  {name qual:Str} {params:Arguments} {body:Yb} {scope:Scope} {dV kV doc pm PV ct oc:Value} {an od:Option Addr} {RL:Array (Option Value)} {binds:List (Str×Value)}
  (ho:(am w.params).lookup f=some ⟨oc,od, .func (fnOf name qual params body scope dV kV doc pm an PV ct),RL⟩) (QZ:codeIn (am w.params) PV qual=true)
  (Qv:∀ s:Shared,(am w.params).In s.heap->BindsTo s (fnOf name qual params body scope dV kV doc pm an PV ct) as binds) (P4:(binds.all fun y=>scope.names.lookup y.1==some .local||scope.names.lookup y.1==some .cell)=true) (RP:((cellsFrom 0 scope.names []).map (·.1)).Nodup)
  (Q0:scope.isCoroutine=false) (QV:scope.isGenerator=false) (hk:scope.kind=.function)
  (Sh:∀ L cells,CellsAre (bindC (envOfC qual scope L f PV).kindOf binds fun _=>none) (cellsFrom (L+1) scope.names []) cells->aw cells/\∀ p∈cells,L<p.1)
  (Ry:∀ PO Yp,Rs PO Yp->∀ q∈Yp,q.1∈n.map (·.1))
  (hb:∀ i,MB k qual scope f PV n P Rs binds body i):eE (k+1) f as n P Rs:=
 Ig ho QZ Qv P4 RP Q0 QV hk Sh Ry fun A₀ base dp un gd L outer h₀ os g₀ E K cells=>hb ⟨A₀,base,dp,un,gd,L,outer,h₀,os,g₀,E,K⟩ cells
noncomputable def rm(o:Obj):Scope:=match o.data with| .func r=>r.scope|_=>default
noncomputable def cJ (Yd means:X9) (s:Nat):X9:=[Yd.getD s 0,means.getD s 0].filter fun c=>decide (0<=c)
noncomputable def aP (Yd means:X9):List X9:=(List.range Yd.length).map (cJ Yd means)
inductive sY(g:X4):Value->X9->Prop
 |mk (a:Nat) (ws:X8) (k:Nat) (u:X9):(a,lO ws k)∈g->IntsAre ws u->sY g (.ref a) u
abbrev c8(g:X4):X8->List X9->Prop:=eC (sY g)
theorem c8.mono(h:∀ p∈g,p∈g')(y:c8 g vs us):c8 g' vs us:=eC.mono (by rintro _ _ ⟨a,ws,k,u,m,i⟩;exact .mk a ws k _ (h _ m) i) y
theorem c8.snoc(h:(a,lO ws k)∈g)(i:IntsAre ws u)(y:c8 g vs us):c8 g (vs++[.ref a]) (us++[u]):=eC.snoc (.mk a ws k u h i) y
theorem c8.at(y:c8 g vs us)(h:j<us.length):eg (fun(a:Nat) (ws:X8) (k:Nat)=>vs[j]?=some (.ref a)) (fun a ws k=>(a,lO ws k)∈g) (fun _ ws _=>IntsAre ws (us.getD j [])):=by
 obtain⟨_,u,e,e2,a,ws,k,_,m,i⟩:=eC.at' y h;exact⟨a,ws,k,e,m,by refine aa KR (aa e2 ?_);exact i⟩
theorem lJ(f:Nat->α)(j:Nat):(List.range (j+1)).map f=(List.range j).map f++[f j]:=aa List.range_succ (aa KN rfl)
theorem bC(ns:X9)(h:i<ns.length):ns.take (i+1)=ns.take i++[ns.getD i 0]:=by
 exact aa Mm (aa KR (aa (KJ h) rfl))
theorem bW(h:IntsAre vs ns)(hx:vs[i]?=some x):i<ns.length/\∃ t,x=.int (ns.getD i 0) t:=by
 have hl:=h.length;have hi:i<ns.length:=by
  have:=(Lj.mp hx).1;exact q2 this hl
 obtain⟨t,e⟩:=dr h hi;rw[e] at hx
 cases hx;exact⟨hi,t,rfl⟩
structure tI(Yd Ye means marks:X9)(L cl hl bQ Ys:Nat)(Z:X4):Prop where
 cc:aM (fun(o:Obj)=>(L+1,o)∈Z) (fun o=>o.data=.cell (some (.ref cl)))
 mc:aM (fun(o:Obj)=>(L+2,o)∈Z) (fun o=>o.data=.cell (some (.ref bQ)))
 lc:bG (fun(vs:X8) (k:Nat)=>(cl,lO vs k)∈Z) (fun vs _=>IntsAre vs Yd)
 lh:bG (fun(vs:X8) (k:Nat)=>(hl,lO vs k)∈Z) (fun vs _=>IntsAre vs Ye)
 lm:bG (fun(vs:X8) (k:Nat)=>(bQ,lO vs k)∈Z) (fun vs _=>IntsAre vs means)
 la:bG (fun(vs:X8) (k:Nat)=>(Ys,lO vs k)∈Z) (fun vs _=>IntsAre vs marks)
theorem tI.mono(h:tI Yd Ye means marks L cl hl bQ Ys Z)(hz:∀ p∈Z,p∈Z'):tI Yd Ye means marks L cl hl bQ Ys Z':=by
 obtain⟨⟨_,a,b⟩,⟨_,d,e⟩,⟨_,_,f,g⟩,⟨_,_,i,j⟩,⟨_,_,p,q⟩,⟨_,_,r,s⟩⟩:=h;exact⟨⟨_,hz _ a,b⟩,⟨_,hz _ d,e⟩,⟨_,_,hz _ f,g⟩,⟨_,_,hz _ i,j⟩,⟨_,_,hz _ p,q⟩,⟨_,_,hz _ r,s⟩⟩
theorem xM:(d::(g++(a::b::e::Z))).Perm (a::b::e::d::(g++Z)):=by
 refine(List.Perm.cons _ (Ld.trans ((Ld.trans ((Ld).cons _)).cons _))).trans ?_;exact(List.Perm.swap _ _ _).trans (((List.Perm.swap _ _ _).trans ((List.Perm.swap _ _ _).cons _)).cons _)
theorem li{α:Type}{x i c d r:α}{g n:List α}(h:x∈n):x∈i::c::d::(g++(r::n)):=cY (Kz _ (.tail _ h))
theorem uZ:(a::([]++(b::i::c::d::(x++y)))).Perm (i::c::d::((a::b::x)++y)):=by
 refine List.Perm.trans ?_ (LU (l₁:=[a,b]) (l₂:=[i,c,d]++(x++y))|>.trans ?_)
 ·exact .refl _
 ·show ([i,c,d]++(x++y)++[a,b]).Perm ([i,c,d]++([a,b]++(x++y)))
  exact aa (KQ _ _ _) (Lr _ LU)
noncomputable def bm (us:List X9) (code:Int):Int:=32768*((us.findIdx fun u=>decide (code∈u):Nat):Int)+code
noncomputable def bY (us:List X9):X9:=us.flatMap fun u=>u.map (bm us)
theorem uh{us:List X9}{code M:Int}(h1:M∈((List.range us.length).filter fun s=>decide (code∈us.getD s [])).map Int.ofNat)(h2:∀ x∈((List.range us.length).filter fun s=>decide (code∈us.getD s [])).map Int.ofNat,M<=x):M=((us.findIdx fun u=>decide (code∈u):Nat):Int):=by
 obtain⟨s,hs,rfl⟩:=KI.mp h1;obtain⟨VF,Rv⟩:=Le.mp hs;have QM:=NV.mp VF;have Ul:∀ i (h:i<us.length),us.getD i []=us[i]:=fun i h=>aa KR (aa (KJ h) rfl);rw[Ul s QM] at Rv;have hf:us.findIdx (fun u=>decide (code∈u))<=s:=by
  refine OD fun PU=>?_;have:=List.not_of_lt_findIdx PU;rw[Rv] at this;exact KP this.symm
 have Qi:us.findIdx (fun u=>decide (code∈u))<us.length:=EL hf QM;have hfm:=h2 (Int.ofNat (us.findIdx fun u=>decide (code∈u))) (KU (Le.mpr ⟨NV.mpr Qi,by refine aa (Ul _ Qi) ?_;exact List.findIdx_getElem (p:=fun u:X9=>decide (code∈u)) (w:=Qi)⟩));have:s<=us.findIdx fun u=>decide (code∈u):=NH.mp hfm;have e:s=us.findIdx fun u=>decide (code∈u):=by lia
 exact ae e rfl
theorem BD:(a::([]++(b::i::c::d::((k::x)++y)))).Perm (i::c::d::((k::a::b::x)++y)):=by
 refine(uZ (x:=k::x)).trans (.cons _ (.cons _ (.cons _ ?_)));exact(((List.Perm.swap k b x).cons a).trans (List.Perm.swap k a (b::x))).append_right y
theorem jf(f:Nat->Bool)(q:Nat):((List.range (q+1)).filter f).map Int.ofNat=((List.range q).filter f).map Int.ofNat++if f q then[Int.ofNat q] else[]:=by
 refine aa List.range_succ (aa (MM _ _) (aa KN (aa List.filter_cons ?_)))
 split<;>rfl
theorem o6{α:Type}{x a b c d e:α}{g n:List α}(h:x∈n):x∈a::b::c::(d::g++(e::n)):=cS (Kz _ (.tail _ h))
theorem bi{α:Type}{l:List α}{i:Nat}{d:α}(h:i<l.length):l.getD i d∈l:=by
 exact aa KR (aa (KJ h) (M5 h))
theorem o7{α:Type}{x a b c r a1 b1 c1 d e:α}{g n:List α}(h:x∈n):x∈a::b::c::([]++(r::a1::b1::c1::(d::g++(e::n)))):=cS (o6 h)
noncomputable def af (us:List X9):X9:=(aF (dd (bY us))).map fun n=>n.fmod 32768
theorem jl:∀ (l PS:X9),x∈l.foldl (fun PS x=>if x∈PS then PS else PS++[x]) PS↔x∈PS∨x∈l
 |[],PS=>by simp
 |y::l,PS=>by
  (refine aa L7 ?_;rw[jl l])
  split
  ·rename_i h
   constructor
   ·rintro(h|h)
    ·exact .inl h
    ·exact .inr (.tail _ h)
   ·rintro(h1|h1)
    ·exact .inl h1
    ·rcases KG.mp h1 with rfl|h1
     ·exact .inl h
     ·exact .inr h1
  ·simp only[KK,KG,Lw,O0,or_assoc]
theorem zR:x∈dd l↔x∈l:=(jl l []).trans (by simp)
theorem jk:∀ (l PS:X9),(l.foldl (fun PS x=>if x∈PS then PS else PS++[x]) PS).length<=PS.length+l.length
 |[],_=>KZ _
 |y::l,PS=>by
  refine aa L7 ?_;refine KF (jk l _) ?_;have:(if y∈PS then PS else PS++[y]).length<=PS.length+1:=by
   split
   ·exact MD _
   ·refine aa KH ?_;exact KZ _
  exact aa Lc (by exact L1 [_,_,_] (.a V0 V2) (.a V1 (.a V2 W1)) 1 V0 (.a V1 W1) rfl this)
theorem iD(l:X9):(dd l).length<=l.length:=KF (jk l []) (Md (Nk _))
theorem iK(hu:u∈us)(hc:c∈u)(h0:0<=c)(h1:c<32768):c∈af us:=by
 refine KI.mpr ⟨bm us c,(bo _).mem_iff.mpr (zR.mpr (M6.mpr ⟨u,hu,KU hc⟩)),?_⟩;unfold bm;exact aa (Mo _ (by decide)) (tW h0 h1)
theorem kJ(h:∀ u∈us,u.length<=2):(bY us).length<=2*us.length:=by
 unfold bY
 induction us with
 |nil=>exact KZ 0
 |cons u us ih=>
  have h1:=h u (.head _);have h2:(us.flatMap fun v=>v.map (bm (u::us))).length<=2*us.length:=by
   clear ih;generalize u::us=all;revert all;refine wrap ?_;intro all
   induction us with
   |nil=>exact KZ 0
   |cons v us ih=>
    refine aa MX (aa KH (aa (KE _) (aa Lc ?_)));have:=ih fun z hz=>h z (by rcases KG.mp hz with rfl|hz;exact .head _;exact dj hz);have:=h v aJ
    lia
  exact aa MX (aa KH (aa (KE _) (aa Lc (by exact L2 [_,_,_] (.a V0 V1) (.m 2 (.a V2 W1)) 1 V0 (.n 2) 1 V1 (.m 2 V2) rfl h1 h2))))
theorem sS(Yd means:X9):∀ u∈aP Yd means,u.length<=2:=fun u hu=>by
 obtain⟨s,_,rfl⟩:=KI.mp hu;exact M7 _ _
def aK(QF:X9)(code:Int):Str:=Yc "n"++Yc (toString ((QF.idxOf code:Nat):Int))
def cV(mark:Int):Int:=if-1-mark>mark then-1-mark else mark
noncomputable def cK (us:List X9) (Ye:X9) (s:Nat):X9:=(aj Ye (Ye.getD s (-1))).flatMap fun o=>us.getD o.toNat []
noncomputable def aQ (us:List X9) (Ye:X9) (s:Nat):X9:=(aF (dd (us.getD s []))).filter fun c=>decide (c∉cK us Ye s)
def az(QF fresh:X9):List (Str×Int):=fresh.map fun c=>(aK QF c,c)
def aT(Yh:Str)(p:Str×Int):Str:=Yh++Yc " xmlns:"++p.1++Yc "=\""++ac p.2++Yc "\""
def eR(Yd means QF:X9)(s:Nat):Str:=if 0<=means.getD s 0 then aK QF (means.getD s 0)++Txt.slice (av (ac (Yd.getD s 0))) (some 4) none else av (ac (Yd.getD s 0))
def bb(Yd QF:X9)(s:Nat):Str:=aK QF (Yd.getD s 0)++Yc ":"++ao s
def bg(Yd Ye means:X9)(us:List X9)(QF:X9)(Yh:Str)(mark:Int):Str:=
 if mark<0 then Yh++Yc "</"++bb Yd QF (cV mark).toNat++Yc ">"
 else(bu (az QF (aQ us Ye (cV mark).toNat))).foldl aT (Yh++Yc "<"++bb Yd QF (cV mark).toNat)++Yc ">"++eR Yd means QF (cV mark).toNat
def bO(Yd Ye means marks:X9):Str:=marks.foldl (bg Yd Ye means (aP Yd means) (af (aP Yd means))) ⟨#[]⟩
structure ou(Yd Ye means marks:X9)(us:List X9)(L cl hl bQ Ys:Nat)(Qp:X4)(D Dn:Nat)(PL Rd Yz:X8)(cD kn ka:Nat)(Z:X4):Prop where
 z:tI Yd Ye means marks L cl hl bQ Ys Z
 s:Qp.Sublist Z
 u:(D,lO PL cD)∈Z
 ls:c8 Z PL us
 nd:(Dn,lO Rd kn)∈Z
 ha:(Ys,lO Yz ka)∈Z
theorem ou.more(h:ou Yd Ye means marks us L cl hl bQ Ys Qp D Dn PL Rd Yz cD kn ka Z)(g:X4):ou Yd Ye means marks us L cl hl bQ Ys Qp D Dn PL Rd Yz cD kn ka (g++Z):=
 ⟨h.z.mono fun _ hp=>Kz _ hp,h.s.trans (Ly _ _),Kz _ h.u,h.ls.mono fun _ hp=>Kz _ hp,Kz _ h.nd,Kz _ h.ha⟩
structure dJ(hl Ys:Nat)(Yh:Str)(m:X5):Prop where
 h:m (Yc "homes")=some (.ref hl)
 a:m (Yc "marks")=some (.ref Ys)
 p:∃ t,m (Yc "page")=some (.str Yh t)
def mf(Yd marks:X9):Prop:=marks.length<=60/\∀ k∈marks,-(Yd.length:Int)<=k/\k<Yd.length
theorem nj(h:∀ u∈us,u.length<=2):(af us).length<=2*us.length:=by
 unfold af;exact aa (KE _) (aa ((bo _).length_eq) (KF (iD _) (kJ h)))
theorem lu(hl:QF.length<=60)(hc:c∈QF):(aK QF c).length<=1000:=(nP (QF.idxOf c) (by have:=Mu.mpr hc;exact L2 [_,_] (.a V1 W1) (.n 64) 1 V0 (.n 60) 1 (.a V1 W1) V0 rfl hl this)).1
theorem iJ(h:k<=1000):((k:Nat):Int).natAbs.log2<1920:=by
 refine aa (Int.natAbs_natCast _) ?_;exact Lv (Nat.log2_le_self k) (by exact L1 [_] (.a V0 W1) (.n 1920) 1 V0 (.n 1000) rfl h)
theorem gM{α:Type}{x a b c r:α}{n:List α}(h:x∈n):x∈a::b::c::([]++(r::n)):=cS h
theorem BB:([d,c,i]++a::b::e::Z).Perm (i::a::b::e::([d,c]++Z)):=by
 show ([d,c]++([i,a,b,e]++Z)).Perm ([i,a,b,e]++([d,c]++Z));exact ae (KQ _ _ _) (ae (KQ _ _ _) (Pe _ LU))
theorem BC:(d::([]++(r::q::i::a::b::e::Z))).Perm (i::a::b::e::([d,r,q]++Z)):=by
 show ([d,r,q]++([i,a,b,e]++Z)).Perm ([i,a,b,e]++([d,r,q]++Z));exact ae (KQ _ _ _) (ae (KQ _ _ _) (Pe _ LU))
theorem uP{α:Type}{x a b c r q:α}{n:List α}(h:x∈n):x∈a::b::c::([]++(r::q::n)):=xJ h
theorem uw(x:Str)(i:Int):(Txt.item x i).length=1:=rfl
theorem gY(code:Int):(ac code).length=10:=by
 unfold ac ey;simp only[KB,uw]
theorem jt(h:x.length=10):(av x).length<=24:=by
 unfold av;have h1:=LY x none (some 1);have h2:=LY x (some 1) none
 (refine aa (KB _ _) ?_;rw[KB,KB])
 show 3+_+1+_<=24;exact L3 [_,_,_] (.a (.a (.a (.n 3) V1) W1) V2) (.n 24) 2 V0 (.n 10) 1 V1 V0 1 V2 V0 rfl (eL h) h1 h2
theorem AG:(r::d::(g++(i::a::b::e::Z))).Perm (i::a::b::e::((r::d::g)++Z)):=by
 show ((r::d::g)++([i,a,b,e]++Z)).Perm ([i,a,b,e]++((r::d::g)++Z));exact ae (KQ _ _ _) (ae (KQ _ _ _) (Pe _ LU))
theorem AB:(t::i::c::d::(g++z)).Perm (i::c::d::((t::g)++z)):=(Ld (l₁:=[i,c,d])).symm
theorem nD(h:x∈bu l):x∈l:=by
 match l,h with
 |[],h=>exact h
 |[_],h=>exact h
 |[a,b],h=>
  change x∈(if b.1.cps.toList<a.1.cps.toList then[b,a] else[a,b]) at h
  split at h
  ·rcases KG.mp h with rfl|h
   ·exact aJ
   ·refine aa (KD.mp h) ?_;exact .head _
  ·exact h
 |_::_::_::_,h=>exact h
theorem gW:∀ (l PS:X9),PS.Nodup->(l.foldl (fun PS x=>if x∈PS then PS else PS++[x]) PS).Nodup
 |[],_,h=>h
 |y::l,PS,h=>by
  refine aa L7 ?_;refine gW l _ ?_
  split
  ·exact h
  ·rename_i hy
   exact Nn.mpr ⟨h,Lx.mpr ⟨Lw, .nil⟩,fun a ha b hb e=>hy (by refine ae (KD.mp hb) (ae e ?_);exact ha)⟩
theorem wz(us:List X9)(Ye:X9)(s:Nat):(aQ us Ye s).Nodup:=((bo _).nodup_iff.mpr (gW _ [] .nil)).filter _
theorem uq(h:x∈aQ us Ye s):x∈us.getD s []:=zR.mp ((bo _).mem_iff.mp (Le.mp h).1)
theorem uo(us:List X9)(Ye:X9)(s:Nat):(aQ us Ye s).length<=(us.getD s []).length:=by
 refine KF (M7 _ _) ?_;exact aa ((bo _).length_eq) (iD _)
theorem Aq(hl:QF.length<=60)(ha:a∈QF)(hb:b∈QF)(h:aK QF a=aK QF b):a=b:=by
 have h1:=Mu.mpr ha;have h2:=Mu.mpr hb;have:=rc _ (by exact L2 [_,_] (.a V1 W1) (.n 64) 1 V0 (.n 60) 1 (.a V1 W1) V0 rfl hl h1) _ (by exact L2 [_,_] (.a V1 W1) (.n 64) 1 V0 (.n 60) 1 (.a V1 W1) V0 rfl hl h2) (gC h);have e1:=List.getElem_idxOf h1;have e2:=List.getElem_idxOf h2;refine ae e1 (ae e2 ?_)
 congr 1
theorem lb:∀ {l:List α},l.Nodup->(∀ a∈l,∀ b∈l,f a=f b->a=b)->(l.map f).Nodup
 |[],_,_=> .nil
 |x::l,h,hf=>by
  obtain⟨h1,h2⟩:=Lx.mp h;refine Lx.mpr ⟨fun hm=>?_,lb h2 fun a ha b hb=>hf a (.tail _ ha) b (.tail _ hb)⟩;obtain⟨y,hy,e⟩:=KI.mp hm;exact h1 (hf y (.tail _ hy) x (.head _) e▸hy)
structure oq(Yd Ye means marks:X9):Prop where
 hl:Ye.length=Yd.length
 ml:means.length=Yd.length
 z:Yd.length<=30
 hh:bP Ye
 c0:∀ i,i<Yd.length->0<=Yd.getD i 0/\Yd.getD i 0<32768
 m0:∀ i,i<Yd.length->-1<=means.getD i 0/\means.getD i 0<32768
namespace TXk
def Q(Yd Ye means marks:X9)(Yr Yx Yo Yz:X8)(cl hl bQ Ys kc kh km ka:Nat):Prop:=∀ (Rh:IntsAre Yr Yd) (TJ:IntsAre Yx Ye) (QQ:IntsAre Yo means) (UJ:IntsAre Yz marks) (ok:oq Yd Ye means marks) (TM:mf Yd marks),bD 8 274 [.ref cl, .ref hl, .ref bQ, .ref Ys] [(cl,lO Yr kc),(hl,lO Yx kh),(bQ,lO Yo km),(Ys,lO Yz ka)] (fun v n'=>fe (bO Yd Ye means marks) v/\n'=[(cl,lO Yr kc),(hl,lO Yx kh),(bQ,lO Yo km),(Ys,lO Yz ka)]) eT
def P_(y:(((X9×X9)×X9×X9)×(X8×X8)×X8×X8)×((Nat×Nat)×Nat×Nat)×(Nat×Nat)×Nat×Nat):Prop:=Q y.1.1.1.1 y.1.1.1.2 y.1.1.2.1 y.1.1.2.2 y.1.2.1.1 y.1.2.1.2 y.1.2.2.1 y.1.2.2.2 y.2.1.1.1 y.2.1.1.2 y.2.1.2.1 y.2.1.2.2 y.2.2.1.1 y.2.2.1.2 y.2.2.2.1 y.2.2.2.2
def y_:(((X9×X9)×X9×X9)×(X8×X8)×X8×X8)×((Nat×Nat)×Nat×Nat)×(Nat×Nat)×Nat×Nat:=pk (inferInstance) P_
def Yd:X9:=y_.1.1.1.1
def Ye:X9:=y_.1.1.1.2
def means:X9:=y_.1.1.2.1
def marks:X9:=y_.1.1.2.2
def Yr:X8:=y_.1.2.1.1
def Yx:X8:=y_.1.2.1.2
def Yo:X8:=y_.1.2.2.1
def Yz:X8:=y_.1.2.2.2
def cl:Nat:=y_.2.1.1.1
def hl:Nat:=y_.2.1.1.2
def bQ:Nat:=y_.2.1.2.1
def Ys:Nat:=y_.2.1.2.2
noncomputable def kc:Nat:=y_.2.2.1.1
def kh:Nat:=y_.2.2.1.2
def km:Nat:=y_.2.2.2.1
def ka:Nat:=y_.2.2.2.2
def B:{B:oj->Prop//(∀ i,B i)->bD 8 274 [.ref cl, .ref hl, .ref bQ, .ref Ys] [(cl,lO Yr kc),(hl,lO Yx kh),(bQ,lO Yo km),(Ys,lO Yz ka)] (fun v n'=>fe (bO Yd Ye means marks) v/\n'=[(cl,lO Yr kc),(hl,lO Yx kh),(bQ,lO Yo km),(Ys,lO Yz ka)]) eT}:=⟨_,fun h=>by
 refine' HD (binds:=[(Yc "codes", .ref cl),(Yc "homes", .ref hl),(Yc "means", .ref bQ),(Yc "marks", .ref Ys)]) (by k_is) (by k_is) (by exact fun s X=>LH rfl) (by rfl) (by decide+kernel) (by rfl) (by rfl) (by rfl) ?k9 (by exact fun _ _ h=>h.elim) h
 case k9=>
  intro L cells Y;obtain⟨o1,o2,o3,o4,o5,rfl,-⟩:=kc_five Y;refine⟨?_,fun p hp=>?_⟩
  ·exact(rh L (l:=[5,4,3,2,1]) (by decide):([L+1+1+1+1+1,L+1+1+1+1,L+1+1+1,L+1+1,L+1]:List Nat).Nodup)
  ·exact rf (l:=[5,4,3,2,1]) (by decide) (KU (f:=(·.1)) hp)⟩
def i:oj:=pk xL B.1
abbrev L:Addr:=i.L
def E:X6:=i.E
def K:ad Flow:=i.K
def c:Fx:=i.fx 7 (Yc "_law_text") (rm At) 274 (.ref 273)
theorem zZ(Rh:IntsAre Yr Yd)(TJ:IntsAre Yx Ye)(QQ:IntsAre Yo means)(UJ:IntsAre Yz marks)(ok:oq Yd Ye means marks)(TM:mf Yd marks):B.1 i:=by
 intro cells hE QP hK Y;obtain⟨o1,o2,o3,o4,o5,rfl,d1,d2,d3,d4,d5⟩:=kc_five Y;clear Y;change o1.data=.cell none at d1;change o2.data=.cell none at d2;change o3.data=.cell none at d3;change o4.data=.cell (some (.ref bQ)) at d4;change o5.data=.cell (some (.ref cl)) at d5;have hZ:tI Yd Ye means marks L cl hl bQ Ys ((L+2,o4)::(L+1,o5)::[(cl,lO Yr kc),(hl,lO Yx kh),(bQ,lO Yo km),(Ys,lO Yz ka)]):=
  ⟨⟨_,aJ,d5⟩,⟨_, .head _,d4⟩,⟨_,_,co,Rh⟩,⟨_,_,ir,TJ⟩,⟨_,_,iu,QQ⟩,⟨_,_,qZ,UJ⟩⟩
 have hS:[(cl,lO Yr kc),(hl,lO Yx kh),(bQ,lO Yo km),(Ys,lO Yz ka)].Sublist ((L+2,o4)::(L+1,o5)::[(cl,lO Yr kc),(hl,lO Yx kh),(bQ,lO Yo km),(Ys,lO Yz ka)]):= .cons _ (.cons _ (.refl _));clear d4 d5;show Tr c E _ ((L+5,o1)::(L+4,o2)::(L+3,o3)::((L+2,o4)::(L+1,o5)::[(cl,lO Yr kc),(hl,lO Yx kh),(bQ,lO Yo km),(Ys,lO Yz ka)])) _ K;generalize VB:[(cl,lO Yr kc),(hl,lO Yx kh),(bQ,lO Yo km),(Ys,lO Yz ka)]=Qp at hK hZ hS⊢;revert Qp;refine wrap ?_;intro Qp VB hK hZ hS;clear VB Rh TJ QQ UJ;generalize P5:bindL _ _ _=m0;revert m0;refine wrap ?_;intro m0 P5;have mh:m0 (Yc "homes")=some (.ref hl):=ae P5 rfl;have ma:m0 (Yc "marks")=some (.ref Ys):=ae P5 rfl;clear P5;generalize (L+2,o4)::(L+1,o5)::Qp=Z at hZ hS⊢;revert Z;refine wrap ?_;intro Z hZ hS;obtain⟨⟨oc,Tl,doc⟩,⟨om,hom,dom⟩,⟨Yr,kc,UQ,Rh⟩,-,⟨Yo,km,hlm,QQ⟩,-⟩:=id hZ;have SA:=Rh.length;have hz:=ok.z;refine G8 (GU (GT (by k_is) (by boot_fast) (by decide) (GN (by k_is) (by boot_fast) (by decide) (GJ (a:=L+1) rfl (cY Tl) doc (G9 (cY UQ) (by exact L3 [_,_] V0 (.n 100000) 3 V0 V1 2 V1 V0 1 V1 (.n 30) rfl (eL SA) (eG SA) hz) fun t=>Hr fun rg t u z=>?ask1)))))
 case ask1=>
  have hrg:bk ((Yr.length:Nat):Int) t u z=bk ((Yd.length:Nat):Int) t u z:=by exact aa SA rfl
  refine aa hrg ?_;refine⟨.range rg Yd.length t u z,fun j mC PL g=>c8 g PL ((List.range j).map (cJ Yd means)),rfl, .inl (.head _),by show Yd.length<=1000;exact bd hz, .nil,?YI,?last1⟩
  case YI=>
   rintro E' j x PL g I D C oI oC mC cD Y N hj ⟨tj,rfl⟩ hP xC hY hN;have hj:j<Yd.length:=hj;obtain⟨t1,e1⟩:=dr Rh hj;obtain⟨t2,e2⟩:=dr QQ (show j<means.length by refine aa ok.ml ?_;exact hj);have Rq:=QQ.length;have RF:=ok.ml;refine GB (pre:=[_]) rfl xC fun Q7 Qx=>GI (GU (GA (FZ (Gg (GS (a:=L+1) (li (cY Tl)) doc (Gh aJ Qx rfl (Gi (li (cY UQ)) rfl e1 (by exact L3 [_,_] V0 (.n 100000) 3 V0 V1 2 V1 V0 1 V1 (.n 30) rfl (eL SA) (eG SA) hz) (FZ (Gg (GS (a:=L+2) (li (cY hom)) dom (Gh aJ Qx rfl (Gi (li (cY hlm)) rfl e2 (by exact L4 [_,_,_] V1 (.n 100000) 1 V0 (.n 30) 3 V1 V2 2 V2 V1 1 V2 V0 rfl hz (eL Rq) (eG Rq) (eL RF)) (FY ⟨KA rfl,fun T=>?ask2⟩)))))))))))));refine⟨.YH T [.int (Yd.getD j 0) t1, .int (means.getD j 0) t2] 0,fun i mC PL g=>g=[]/\IntsAre PL (([Yd.getD j 0,means.getD j 0].take i).filter fun c=>decide (0<=c)),rfl, .inl (.head _),KA rfl,⟨rfl, .nil⟩,?YG,?last2⟩
   case YG=>
    rintro E'' i x Q8 g2 I2 D2 C2 SI Rx RK SU Y N hi hx ⟨rfl,hs⟩ xC2 hY hN;obtain⟨SZ,ti,rfl⟩:=bW (.cons (Yd.getD j 0) t1 (.cons (means.getD j 0) t2 .nil)) hx;have Ql:=bC _ SZ;generalize [Yd.getD j 0,means.getD j 0].getD i 0=ci at Ql⊢;revert ci;refine wrap ?_;intro ci Ql;refine GB (pre:=[_]) rfl xC2 fun oC3 Vc=>HR (Gb (Gh aJ Vc rfl (F7 fun tb=>Jx (F9 ?_))))
    by_cases hc:0<=ci
    ·refine aa (KV (show ci≥0 from hc)) ?_
     refine Gh aJ Vc rfl (hY _ _ _ ⟨rfl,oC3,_,[],Vc, .refl _,rfl,?_⟩);exact aa Ql (aa (MM _ _) (aa (O6 (by simpa using hc)) (aH hs)))
    ·refine aa (KY (show¬ci≥0 from hc)) ?_
     refine hN _ _ ⟨rfl,oC3,_,[],Vc, .refl _,rfl,?_⟩;exact aa Ql (aa (MM _ _) (aa (O5 (by simpa using hc)) (aa List.filter_nil (aa (Lh _) hs))))
   case last2=>
    rintro D2 RK Q8 g2 SU _ ⟨rfl,hs⟩;refine hY _ _ _ ⟨rfl,Q7,_,(D2,lO Q8 SU)::(T,_)::g,Qx,uZ,?_⟩;show c8 _ _ ((List.range (j+1)).map (cJ Yd means));exact aa (lJ _ _) ((hP.mono fun p hp=>dj hp).snoc (.head _) hs)
  case last1=>
   intro D mC PL g cD _ hP;refine Gd ((List.Perm.of_eq (by rw[List.append_cons])).trans xM) (Hg (pre:=[_,_]) rfl rfl d3 (fun VN d3'=>?_) rfl);have hZ2:tI Yd Ye means marks L cl hl bQ Ys ((D,lO PL cD)::((g++[(rg,bk ((Yd.length:Nat):Int) t u z)])++Z)):=hZ.mono fun p hp=> .tail _ (Kz _ hp);have QL:Qp.Sublist ((D,lO PL cD)::((g++[(rg,bk ((Yd.length:Nat):Int) t u z)])++Z)):= .cons _ (hS.trans (Ly _ _));have hU:(D,lO PL cD)∈(D,lO PL cD)::((g++[(rg,bk ((Yd.length:Nat):Int) t u z)])++Z):= .head _;have T8:c8 ((D,lO PL cD)::((g++[(rg,bk ((Yd.length:Nat):Int) t u z)])++Z)) PL (aP Yd means):=hP.mono fun p hp=> .tail _ (Ky _ (Ky _ hp));generalize (D,lO PL cD)::((g++[(rg,bk ((Yd.length:Nat):Int) t u z)])++Z)=Z2 at hZ2 QL hU T8⊢;revert Z2;refine wrap ?_;intro Z2 hZ2 QL hU T8;have RB:(aP Yd means).length=Yd.length:=by unfold aP;exact aa (KE _) (aa Oo rfl)
   clear hP d3 hZ hS Tl doc hom dom UQ Rh hlm QQ hrg SA;have R0:=T8.len;generalize Uv:aP Yd means=us at T8 RB R0;revert us;refine wrap ?_;intro us Uv T8 RB R0;have WQ:∀ u∈us,u.length<=2:=Uv▸sS Yd means;have Qf:∀ j,(us.getD j []).length<=2:=fun j=>by
    rcases M3 j us.length with h|h
    ·exact WQ _ (bi h)
    ·refine aa KR (aa (NM h) ?_);exact K0 _
   refine I9 (GJ (a:=L+3) rfl co d3' ⟨.list D PL cD,fun k j mC PL g=>(gQ (fun(o:Obj) (xv:Option Value) (rest:X4)=>g=(k,o)::rest) (fun o xv _=>o.data=.cell xv))/\IntsAre PL ((us.take j).flatMap fun u=>u.map (bm us)),rfl, .inl (cY hU),by show PL.length<=90;exact L3 [_,_,_] V2 (.n 90) 1 V0 (.n 30) 1 V1 V0 1 V2 V1 rfl hz (eL RB) (eL R0),fun k=>⟨⟨_,_,_,rfl,rfl⟩, .nil⟩,?turnF,?lastF⟩)
   case turnF=>
    rintro k E' j x Ty g2 I D2 C oI oC RK SU hj hx ⟨⟨o,xv,rest,rfl,ho⟩,hs⟩ xC;have hj:j<us.length:=ae R0 hj;obtain⟨a,ws,kk,e1,UU,U4⟩:=T8.at hj;have hx:PL[j]?=some x:=hx;rw[e1] at hx
    cases hx;have hwl:=U4.length;have hsj:=Qf j;refine GB (pre:=[_]) rfl xC fun Q7 Qx=>Gh aJ Qx rfl ⟨rfl, .list a ws kk,fun i mC PL g=>(gQ (fun(o:Obj) (xv:Option Value) (rest:X4)=>g=(k,o)::rest) (fun o xv _=>o.data=.cell xv))/\IntsAre PL (((us.take j).flatMap fun u=>u.map (bm us))++((us.getD j []).take i).map (bm us)),Q7,_,(k,o)::rest,rfl,Qx, .refl _, .inl (cY UU),by show ws.length<=1000;exact L3 [_,_] V0 (.n 1000) 3 V0 V1 2 V1 V0 1 V1 (.n 2) rfl (eL hwl) (eG hwl) hsj,⟨⟨o,xv,rest,rfl,ho⟩,by refine aa List.take_zero (aa OU (aa (Lh _) ?_));exact hs⟩,?turnG,?lastG⟩
    case lastG=>
     rintro mC Q8 g ⟨hg,hi⟩;refine⟨hg,?_⟩;rw[show dv.N (.list a ws kk)=(us.getD j []).length from hwl,Lk] at hi;show IntsAre Q8 ((us.take (j+1)).flatMap fun u=>u.map (bm us));refine aa Mm (aa (KJ hj) (aa (NL _) (aa N8 ?_)));have e:us.getD j []=us[j]:=aa KR (aa (KJ hj) rfl);rw[e] at hi;simpa using hi
    case turnG=>
     rintro E'' i x Q8 g I2 D3 C2 SI Rx mC3 cD3 Y N hi hx ⟨⟨o,xv,rest,rfl,ho⟩,hs⟩ xC2 hY hN;obtain⟨SZ,t,rfl⟩:=bW U4 hx;have Ql:=bC _ SZ;have Rj:(us.getD j []).getD i 0∈us.getD j []:=bi SZ;generalize (us.getD j []).getD i 0=code at Ql Rj⊢;revert code;refine wrap ?_;intro code Ql Rj;refine J8 (pre:=[_,_,_]) rfl ho fun o' Rr=>GI (F8 (F8 (F7 fun t1=>HY (fun J h=>H0 (by k_is) (by boot_fast) (by decide) h) (GU (It (fun J h=>H0 (by k_is) (by boot_fast) (by decide) h) (HY (fun J h=>H0 (by k_is) (by boot_fast) (by decide) h) (GS (a:=L+3) (o6 co) d3' (G9 (o6 (cY hU)) (by exact L3 [_,_,_] V2 (.n 100000) 1 V0 (.n 30) 1 V1 V0 1 V2 V1 rfl hz (eL RB) (eL R0)) fun t2=>Hr fun rg t u z=>?ask3))))))));refine aa (show bk ((PL.length:Nat):Int) t u z=bk ((us.length:Nat):Int) t u z by rw[R0]) ?_;refine⟨.range rg us.length t u z,fun q mC PL g=>g=[]/\IntsAre PL (((List.range q).filter fun s=>decide (code∈us.getD s [])).map Int.ofNat),rfl, .inl (.head _),by show us.length<=1000;exact L2 [_,_] V1 (.n 1000) 1 V0 (.n 30) 1 V1 V0 rfl hz (eL RB),⟨rfl, .nil⟩,?turn3,?last3⟩
     case turn3=>
      rintro E3 q x Vg g4 I4 D4 C4 oI4 oC4 mC4 cD4 Y N hq ⟨tq,rfl⟩ ⟨rfl,Tn⟩ xC4 hY hN;have hq:q<us.length:=hq;obtain⟨a5,ws5,kk5,e5,WH,Wt⟩:=T8.at hq;refine GB (pre:=[_]) rfl xC4 fun oC5 Ta=>HR (Gb (GS (a:=k) q6 Rr (Gg (GS (a:=L+3) (o7 co) d3' (Gh aJ Ta rfl (Gi (o7 (cY hU)) rfl e5 (by exact L3 [_,_,_] V2 (.n 100000) 1 V0 (.n 30) 1 V1 V0 1 V2 V1 rfl hz (eL RB) (eL R0)) (Kp (o7 (cY WH)) Wt (F9 ?_))))))));have hr:=jf (fun s=>decide (code∈us.getD s [])) q
      by_cases hc:code∈us.getD q []
      ·refine aa (KV hc) ?_
       refine Gh aJ Ta rfl (hY _ _ _ ⟨rfl,oC5,_,[],Ta, .refl _,rfl,?_⟩);exact aa hr (aa (KV hc) (aH Tn))
      ·refine aa (KY hc) ?_
       refine hN _ _ ⟨rfl,oC5,_,[],Ta, .refl _,rfl,?_⟩;exact aa hr (aa (KY hc) (aa (KM KP) (aa (Lh _) Tn)))
     case last3=>
      rintro D4 mC4 Vg g4 cD4 _ ⟨rfl,Tn⟩;have Tn:IntsAre Vg (((List.range us.length).filter fun s=>decide (code∈us.getD s [])).map Int.ofNat):=Tn;refine IX (.head _) Tn (List.length_pos_of_mem (KU (Le.mpr ⟨NV.mpr hj,KV Rj⟩))) fun M tM h1 h2=>Hx (by decide) fun t3=>GS (a:=k) qZ Rr (Hd fun t4=>(hY _ _ _ ⟨rfl,Rx,_,_,xC2,BD,⟨_,_,_,rfl,Rr⟩,?_⟩));exact aa Ql (aa KN (ae (KQ _ _ _) (aa (uh h1 h2) (aH hs))))
   case lastF=>
    rintro k Df mC Ty gF cDf ⟨-,hsF⟩;rw[show dv.N (.list D PL cD)=us.length from R0,Lk] at hsF;have hsF:IntsAre Ty (bY us):=hsF;have Qi:=kJ WQ;have Qy:=iD (bY us);refine G8 (GU (GN (by k_is) (by boot_fast) (by decide) (GT (by k_is) (by boot_fast) (by decide) (FX rfl (IZ (.head _) hsF (by exact L3 [_,_,_] V2 (.n 1000) 2 V0 (.n 30) 2 V1 V0 1 V2 (.m 2 V1) rfl hz (eL RB) Qi) fun S oS hS=>Id (.head _) hS (by exact L4 [_,_,_,_] V3 (.n 60) 2 V0 (.n 30) 2 V1 V0 1 V2 (.m 2 V1) 1 V3 V2 rfl hz (eL RB) Qi Qy) fun R Rf kR Un=>⟨.list R Rf kR,fun j mC PL g=>g=[]/\IntsAre PL (((aF (dd (bY us))).take j).map fun n=>n.fmod 32768),rfl, .inl (.head _),?szR,⟨rfl, .nil⟩,?turnN,?lastN⟩)))))
    case szR=>
     have:=Un.length;have:=(bo (dd (bY us))).length_eq;show Rf.length<=1000
     lia
    case turnN=>
     rintro E' j x Q8 g2 I D2 C oI oC RK SU Y N hj hx ⟨rfl,hs⟩ xC hY hN;obtain⟨SD,t,rfl⟩:=bW Un hx;have Ql:=bC _ SD;generalize (aF (dd (bY us))).getD j 0=num at Ql⊢;revert num;refine wrap ?_;intro num Ql;refine GB (pre:=[_]) rfl xC fun Q7 Qx=>GI (F8 (Gh aJ Qx rfl (F7 fun t1=>GO (by decide) fun t2=>(hY _ _ _ ⟨rfl,Q7,_,[],Qx, .refl _,rfl,?_⟩))));exact aa Ql (aa KN (aH hs))
    case lastN=>
     rintro Dn RK Rd g2 kn _ ⟨rfl,hnv⟩;rw[show dv.N (.list R Rf kR)=(aF (dd (bY us))).length from Un.length,Lk] at hnv;have hnv:IntsAre Rd (af us):=hnv;refine Gd (xM (g:=(R,lO Rf kR)::(S,oS)::(Df,lO Ty cDf)::gF)) (Hg (pre:=[_]) rfl rfl d2 (fun Uz d2'=>?_) rfl);refine Gf (Gc fun tp=>?_);obtain⟨Yz,ka,hla,UJ⟩:=hZ2.la;have hW:ou Yd Ye means marks us L cl hl bQ Ys Qp D Dn PL Rd Yz cD kn ka ((Dn,lO Rd kn)::(((R,lO Rf kR)::(S,oS)::(Df,lO Ty cDf)::gF)++Z2)):=by
      have h2:∀ p∈Z2,p∈(Dn,lO Rd kn)::(((R,lO Rf kR)::(S,oS)::(Df,lO Ty cDf)::gF)++Z2):=fun _ hp=> .tail _ (Kz _ hp);exact⟨hZ2.mono h2, .cons _ (QL.trans (Ly _ _)),h2 _ hU,T8.mono h2, .head _,h2 _ hla⟩
     generalize (Dn,lO Rd kn)::(((R,lO Rf kR)::(S,oS)::(Df,lO Ty cDf)::gF)++Z2)=Z at hW⊢;revert Z;refine wrap ?_;intro Z hW;show Tr _ _ _ _ _ _;generalize UR:(fun y=>if y=Yc "page" then some (Value.str (Yc "") tp) else _)=m1;revert m1;refine wrap ?_;intro m1 UR;have lk:dJ hl Ys ⟨#[]⟩ m1:=ae UR ⟨mh,ma,tp,rfl⟩;have TS:bO Yd Ye means marks=marks.foldl (bg Yd Ye means us (af us)) ⟨#[]⟩:=by unfold bO;exact aa Uv rfl
     rw[TS] at hK;clear UR mh ma hZ2 QL hU T8 d2 hsF Un hS hla m0;refine Gu (GH (K₁:=fun fl m n=>fl=.next/\gR (fun o1 xv Z=>n=(L+5,o1)::(L+4,Uz)::(L+3,VN)::Z) (fun o1 xv _=>o1.data=.cell xv) (fun _ _ Z=>ou Yd Ye means marks us L cl hl bQ Ys Qp D Dn PL Rd Yz cD kn ka Z) (fun _ _ _=>dJ hl Ys (marks.foldl (bg Yd Ye means us (af us)) ⟨#[]⟩) m)) ?sF ?sR)
     case sR=>
      rintro _ m n ⟨rfl,o1,xv,Z,rfl,-,hW,lk⟩;obtain⟨t,hp⟩:=lk.p;exact GM (FX hp (hK _ _ _ _ (.cons _ (.cons _ (.cons _ hW.s))) ⟨⟨t,rfl⟩,rfl⟩))
     case sF=>
      intro K2 hK2;have han:=UJ.length;have RF:=TM.1;refine Hw (fun Sx j m n=>Sx=.list Ys Yz ka/\vI (fun o1 xv Z=>n=(L+5,o1)::(L+4,Uz)::(L+3,VN)::Z) (fun o1 xv _=>o1.data=.cell xv) (fun _ _ Z=>ou Yd Ye means marks us L cl hl bQ Ys Qp D Dn PL Rd Yz cD kn ka Z) (fun _ _ _=>dJ hl Ys ((marks.take j).foldl (bg Yd Ye means us (af us)) ⟨#[]⟩) m) (fun _ _ _=>((marks.take j).foldl (bg Yd Ye means us (af us)) ⟨#[]⟩).length<=10000*j)) QP
       (FX lk.a ⟨.list Ys Yz ka,rfl,by show Yz.length<=1000;exact L3 [_,_] V0 (.n 1000) 3 V0 V1 2 V1 V0 1 V1 (.n 60) rfl (eL han) (eG han) RF,⟨rfl,o1,none,Z,rfl,d1,hW,lk,K0 _⟩,?heldM,?turnM,?lastM⟩)
      case heldM=>
       rintro j m n ⟨-,o1,xv,Z,rfl,-,hW,-⟩;exact .inl (cY hW.ha)
      case lastM=>
       rintro m n ⟨-,o1,xv,Z,rfl,hd,hW,lk,-⟩;rw[show dv.N (.list Ys Yz ka)=marks.length from han,Lk] at lk;exact F6 (hK2 _ _ _ ⟨rfl,o1,xv,Z,rfl,hd,hW,lk⟩)
      case turnM=>
       rintro j x I oI m n KT hj hx ⟨-,o1,xv,Z,rfl,hd1,hW,lk,Qw⟩ RV;obtain⟨SD,t,rfl⟩:=bW UJ hx;have QY:(marks.take (j+1)).foldl (bg Yd Ye means us (af us)) ⟨#[]⟩=bg Yd Ye means us (af us) ((marks.take j).foldl (bg Yd Ye means us (af us)) ⟨#[]⟩) (marks.getD j 0):=aa (bC _ SD) (aa NQ rfl);have SG:=TM.2 (marks.getD j 0) (bi SD);generalize marks.getD j 0=mark at QY SG⊢;revert mark;refine wrap ?_;intro mark QY SG;generalize (marks.take j).foldl (bg Yd Ye means us (af us)) ⟨#[]⟩=Yh at lk Qw QY;revert Yh;refine wrap ?_;intro Yh lk Qw QY;obtain⟨s,hs⟩:∃ s:Nat,cV mark=(s:Int):=⟨(cV mark).toNat,by unfold cV;split<;>lia⟩;have QM:s<Yd.length:=by unfold cV at hs;split at hs<;>lia
       have Rl:cV mark=if-1-mark>mark then-1-mark else mark:=rfl
       have Qs:(af us).length<=60:=by have:=nj WQ;exact L3 [_,_,_] V2 (.n 60) 2 V0 (.n 30) 2 V1 V0 1 V2 (.m 2 V1) rfl hz (eL RB) this
       have Ul:us.getD s []=cJ Yd means s:=by
        refine ae Uv ?_;unfold aP;exact aa KR (aa LV (aa (List.getElem?_range QM) rfl))
       have hum:cJ Yd means s∈us:=ae Ul (bi (q1 QM RB));have Tf:=ok.c0 s QM;have hcN:Yd.getD s 0∈af us:=iK hum (Le.mpr ⟨.head _,KV Tf.1⟩) Tf.1 Tf.2;have QR:=lu Qs hcN;refine Go ?_;obtain⟨R6,Qm⟩:=lk.p;show Tr _ _ _ _ _ _;generalize PQ:(fun y=>if y=Yc "mark" then some (Value.int mark t) else m y)=m1;revert m1;refine wrap ?_;intro m1 PQ;have QO:dJ hl Ys Yh m1:=ae PQ ⟨lk.h,lk.a,R6,Qm⟩;have mk1:m1 (Yc "mark")=some (.int mark t):=ae PQ rfl;clear PQ lk Qm;refine Gf (HV (by k_is) (by boot_fast) (by decide) (FX mk1 (F8 (G6 fun t1=>FX mk1 (Hm fun t2=>Kk fun t3=>?_)))));refine ae Rl (aa hs ?_);obtain⟨R6,Qm⟩:=QO.p;show Tr _ _ _ _ _ _;generalize PQ:(fun y=>if y=Yc "spot" then some (Value.int (s:Int) t3) else m1 y)=m2;revert m2;refine wrap ?_;intro m2 PQ;have Rb:dJ hl Ys Yh m2:=ae PQ ⟨QO.h,QO.a,R6,Qm⟩;have mk2:m2 (Yc "mark")=some (.int mark t):=ae PQ mk1;have sp2:m2 (Yc "spot")=some (.int (s:Int) t3):=ae PQ rfl;clear PQ QO Qm mk1;obtain⟨oc,Tl,doc⟩:=hW.z.cc;obtain⟨Yr,kc,UQ,Rh⟩:=hW.z.lc;have SA:=Rh.length;obtain⟨tc,ec⟩:=dr Rh QM;refine Gf (F8 (F8 (F8 (Gc fun t4=>GT (by k_is) (by boot_fast) (by decide) (Ga (GJ (a:=L+4) rfl co d2' (Gj (cS hW.nd) Ob O7 (Gq (FZ (Gg (GJ (a:=L+1) rfl (cS Tl) doc (FX sp2 (Gi (cS UQ) rfl ec (by exact L2 [_,_] V1 (.n 100000) 1 V0 (.n 30) 1 V1 V0 rfl hz (eL SA)) (FY (Im (cS hW.nd) hnv (bd Qs) hcN fun t5=>Iq (iJ (by have:=Mu.mpr hcN;exact L2 [_,_] V1 (.n 1000) 1 V0 (.n 60) 1 (.a V1 W1) V0 rfl Qs this)) fun t6=>Gm (KA rfl) ?a1 fun t7=>Gc fun t8=>Gm ?a2 (KA rfl) fun t9=>Gg (Gc fun ta=>HV (by k_is) (by boot_fast) (by decide) (FX sp2 (F7 fun tb=>IW fun tc=>G5 ?a3 ?a4 (KA rfl) fun td=>Gm ?a5 (KA rfl) fun te=>?_))))))))))))))))))
       case a1=>unfold aK at QR;rw[KB] at QR;exact L1 [_,_] V1 (.n 1000000) 1 (.a V0 V1) (.n 1000) rfl QR
       case a2=>exact KF QR (by decide)
       case a3=>split<;>lia
       case a4=>refine aa (show (Yc "rt").length=2 from rfl) ?_;split<;>lia
       case a5=>refine aa (KB _ _) ?_;show (aK (af us) (Yd.getD s 0)).length+1<=_;exact L1 [_] (.a V0 W1) (.n 1000000) 1 V0 (.n 1000) rfl QR
       show Tr c E (fun y=>if y=Yc "name" then some (Value.str (bb Yd (af us) s) te) else m2 y) _ _ _;have hnml:(bb Yd (af us) s).length<=1002:=by unfold bb;(refine aa (KB _ _) ?_;rw[KB]);show _+1+1<=_;exact L1 [_] (.a (.a V0 W1) W1) (.n 1002) 1 V0 (.n 1000) rfl QR
       obtain⟨R6,Qm⟩:=Rb.p;show Tr _ _ _ _ _ _;generalize PQ:(fun y=>if y=Yc "name" then some (Value.str (bb Yd (af us) s) te) else m2 y)=m3;revert m3;refine wrap ?_;intro m3 PQ;have Qd:dJ hl Ys Yh m3:=ae PQ ⟨Rb.h,Rb.a,R6,Qm⟩;have mk3:m3 (Yc "mark")=some (.int mark t):=ae PQ mk2;have sp3:m3 (Yc "spot")=some (.int (s:Int) t3):=ae PQ sp2;have nm3:m3 (Yc "name")=some (.str (bb Yd (af us) s) te):=ae PQ rfl;clear PQ Rb Qm mk2 sp2;have hst:bg Yd Ye means us (af us) Yh mark=if mark<0 then Yh++Yc "</"++bb Yd (af us) s++Yc ">" else(bu (az (af us) (aQ us Ye s))).foldl aT (Yh++Yc "<"++bb Yd (af us) s)++Yc ">"++eR Yd means (af us) s:=by unfold bg;exact aa hs (aa (K8 _) rfl)
       replace QY:=QY.trans hst;clear hst;have hmz:=TM.1;refine Gk (Gb (FX mk3 (F7 fun u1=>Ks (F9 ?_))));obtain⟨R6,Qm⟩:=Qd.p
       by_cases Wj:mark<0
       ·refine aa (KV Wj) ?_
        rw[KW Wj] at QY;refine Gf (F8 (F8 (F8 (FX Qm (Gc fun u2=>Gm ?b1 (KA rfl) fun u3=>FX nm3 (Gm ?b2 ?b3 fun u4=>Gc fun u5=>Gm ?b4 (KA rfl) fun u6=>F6 (F6 (RV _ _ _ ⟨_,rfl,rfl,o1,xv,Z,rfl,hd1,hW,?b5,?b6⟩))))))))
        case b1=>exact L3 [_,_,_] V2 (.n 1000000) 10000 V0 (.n 60) 10000 (.a V1 W1) V0 1 V2 (.m 10000 V1) rfl RF SD Qw
        case b2=>refine aa (KB _ _) ?_;show Yh.length+2<=_;exact L3 [_,_,_] (.a V2 (.n 2)) (.n 1000000) 10000 V0 (.n 60) 10000 (.a V1 W1) V0 1 V2 (.m 10000 V1) rfl RF SD Qw
        case b3=>exact bd hnml
        case b4=>(refine aa (KB _ _) ?_;rw[KB]);show Yh.length+2+_<=_;lia
        case b5=>refine aa QY ?_;exact⟨Qd.h,Qd.a,u6,rfl⟩
        case b6=>(refine aa QY (aa (KB _ _) ?_);rw[KB,KB]);show Yh.length+2+_+1<=_;lia
       ·refine aa (KY Wj) ?_
        rw[KM Wj] at QY;have Um:=ok.hl;obtain⟨Yx,kh,hlh,TJ⟩:=hW.z.lh;have hhn:=TJ.length;obtain⟨th,eh⟩:=fQ TJ (show s<Ye.length from q1 QM Um) (-1);obtain⟨g0,g1⟩:=ok.hh s (q1 QM Um);have SQ:=dF ok.hh (Ye.length+1) (Ye.getD s (-1)) g0 (A3 g1 QM Um);have hchi:=fN ok.hh (Ye.length+1) (Ye.getD s (-1)) g0 (A3 g1 QM Um);have QD:=qJ Ye Yx hl kh TJ ok.hh (by exact L2 [_,_] V1 (.n 1000) 1 V0 (.n 30) 1 V1 V0 rfl hz (eL Um)) (Ye.getD s (-1)) th g0 (A3 g1 QM Um);have QD:=QD.post (P':=fun v n'=>aM (fun x=>(eg (fun(C:Nat) (Yr:X8) (kc:Nat)=>v=.ref C) (fun _ Yr _=>IntsAre Yr (aj Ye (Ye.getD s (-1)))) (fun C Yr kc=>x=[(C,lO Yr kc)]))) (fun x=>n'=x++[(hl,lO Yx kh)])) fun v n' hv=>by
         obtain⟨C,Yr,kc,rfl,hc,rfl⟩:=hv;exact⟨_,⟨C,Yr,kc,rfl,hc,rfl⟩,rfl⟩
        obtain⟨Z5,hpz⟩:=jz (show (hl,lO Yx kh)∈(I,oI)::(L+5,o1)::(L+4,Uz)::(L+3,VN)::Z from cS hlh);refine G8 (Jv (G2 (f:=269) (fun J h=>Gz (by k_is) h) (by k_is) (FZ (FX Qd.h (FZ (Gg (FX Qd.h (FX sp3 (Gi (cS hlh) rfl eh (by exact L3 [_,_,_] V2 (.n 100000) 1 V0 (.n 30) 1 V1 V0 1 V2 V1 rfl hz (eL Um) (eL hhn)) (FY (Hz QD hpz (by show 3<=7;decide) fun v x hv=>?_)))))))))));obtain⟨C,R9,kC,rfl,Vp,rfl⟩:=hv;clear QD hpz;have Wd:=Vp.length;have SQ:(aj Ye (Ye.getD s (-1))).length<=30:=by show (bw Ye (Ye.length+1) (Ye.getD s (-1))).length<=30;exact L4 [_,_,_,_] V3 (.n 30) 1 V0 (.n 30) 1 (.a V1 W1) V0 1 V2 V1 1 V3 V2 rfl hz QM (tM g1) SQ
        refine⟨.list C R9 kC,fun j mC PL g=>g=[]/\IntsAre PL (((aj Ye (Ye.getD s (-1))).take j).flatMap fun o=>us.getD o.toNat []),rfl, .inl (.head _),by show R9.length<=90;exact L3 [_,_] V0 (.n 90) 3 V0 V1 2 V1 V0 1 V1 (.n 30) rfl (eL Wd) (eG Wd) SQ,⟨rfl, .nil⟩,?turnA,?lastA⟩
        case turnA=>
         rintro E' j2 x Q8 g2 I2 D2 C2 SI Rx RK SU hj3 hx ⟨rfl,Rv⟩ xC;obtain⟨S0,to,rfl⟩:=bW Vp hx;have Ql:=bC _ S0;obtain⟨q0,q1⟩:=hchi _ (bi (d:=0) S0);have Tm:((aj Ye (Ye.getD s (-1))).take (j2+1)).flatMap (fun o=>us.getD o.toNat [])=((aj Ye (Ye.getD s (-1))).take j2).flatMap (fun o=>us.getD o.toNat [])++us.getD ((aj Ye (Ye.getD s (-1))).getD j2 0).toNat []:=by refine aa Ql (aa N8 ?_);simp
         have q0:0<=(aj Ye (Ye.getD s (-1))).getD j2 0:=q0;have q1:(aj Ye (Ye.getD s (-1))).getD j2 0<Ye.length:=q1;generalize (aj Ye (Ye.getD s (-1))).getD j2 0=o at q0 q1 Tm⊢;revert o;refine wrap ?_;intro o q0 q1 Tm;obtain⟨i,rfl⟩:∃ i:Nat,o=(i:Int):=⟨o.toNat,tE q0⟩;rw[K8] at Tm;obtain⟨a5,ws5,kk5,e5,WH,Wt⟩:=hW.ls.at (show i<us.length by lia);have WS:=Wt.length;have hs5:=Qf i;refine GB (pre:=[_]) rfl xC fun Q7 Qx=>Gg (GS (a:=L+3) (gM ir) d3' (Gh aJ Qx rfl (Gi (gM (cS hW.u)) rfl e5 (by exact L3 [_,_,_] V2 (.n 100000) 1 V0 (.n 30) 1 V1 V0 1 V2 V1 rfl hz (eL RB) (eL R0)) ⟨rfl, .list a5 ws5 kk5,fun q mC PL g=>g=[]/\IntsAre PL (((aj Ye (Ye.getD s (-1))).take j2).flatMap (fun o=>us.getD o.toNat [])++(us.getD i []).take q),Q7,_,[],rfl,Qx, .refl _, .inl (xJ WH),by show ws5.length<=1000;exact L3 [_,_] V0 (.n 1000) 3 V0 V1 2 V1 V0 1 V1 (.n 2) rfl (eL WS) (eG WS) hs5,⟨rfl,by refine aa List.take_zero (aa (Lh _) ?_);exact Rv⟩,?turnB,?lastB⟩)))
         case lastB=>
          rintro mC Wv g ⟨rfl,hi⟩;rw[show dv.N (.list a5 ws5 kk5)=(us.getD i []).length from WS,Lk] at hi;refine⟨rfl,?_⟩;exact aa Tm hi
         case turnB=>
          rintro E3 q x Wv g3 I3 D3 C3 oI3 oC3 mC3 cD3 Y N hq hx ⟨rfl,TQ⟩ Vc hY hN;obtain⟨TP,tq,rfl⟩:=bW Wt hx;have Ql:=bC _ TP;refine GB (pre:=[_]) rfl Vc fun oC4 xC4=>GI (Gh aJ xC4 rfl (hY _ _ _ ⟨rfl,oC4,_,[],xC4, .refl _,rfl,?_⟩));exact aa Ql (ae (KQ _ _ _) (aH TQ))
        case lastA=>
         rintro Da mC ST gA cDa ⟨rfl,VG⟩;rw[show dv.N (.list C R9 kC)=(aj Ye (Ye.getD s (-1))).length from Wd,Lk] at VG;have VG:IntsAre ST (cK us Ye s):=VG;refine Hg (pre:=[_,_,_]) rfl rfl hd1 (fun U9 hd1'=>?_) rfl;refine Gd BB ?_;have UI:=hW.more [(Da,lO ST cDa),(C,lO R9 kC)];have Uf:(Da,lO ST cDa)∈[(Da,lO ST cDa),(C,lO R9 kC)]++Z:= .head _;generalize [(Da,lO ST cDa),(C,lO R9 kC)]++Z=Z6 at UI Uf⊢;revert Z6;refine wrap ?_;intro Z6 UI Uf;clear hd1 Vp Wd SQ hchi hlh TJ hhn eh g0 g1 Tl doc UQ Rh SA ec hW;obtain⟨au,wu,ku,eu,hmu,hwu⟩:=UI.ls.at (show s<us.length from q1 QM RB);have hwl:=hwu.length;have hsu:=Qf s;have hddl:=iD (us.getD s []);refine ID (GN (by k_is) (by boot_fast) (by decide) (GT (by k_is) (by boot_fast) (by decide) (Gg (GJ (a:=L+3) rfl ir d3' (FX sp3 (Gi (cS UI.u) rfl eu (by exact L3 [_,_,_] V2 (.n 100000) 1 V0 (.n 30) 1 V1 V0 1 V2 V1 rfl hz (eL RB) (eL R0)) (IZ (cS hmu) hwu (bd hsu) fun S oS hS=>Id (.head _) hS (by exact L2 [_,_] V1 (.n 60) 1 V0 (.n 2) 1 V1 V0 rfl hsu hddl) fun R Rf kR Un=>⟨.list R Rf kR,fun j mC PL g=>g=[]/\IntsAre PL (((aF (dd (us.getD s []))).take j).filter fun c=>decide (c∉cK us Ye s)),rfl, .inl (.head _),?szH,⟨rfl, .nil⟩,?turnH,?lastH⟩)))))))
         case szH=>
          have:=Un.length;have:=(bo (dd (us.getD s []))).length_eq;show Rf.length<=1000
          lia
         case turnH=>
          rintro E' j2 x Q8 g2 I2 D2 C2 SI Rx RK SU Y N hj3 hx ⟨rfl,Rv⟩ xC hY hN;obtain⟨S0,to,rfl⟩:=bW Un hx;have Ql:=bC _ S0;generalize (aF (dd (us.getD s []))).getD j2 0=o at Ql⊢;revert o;refine wrap ?_;intro o Ql;refine GB (pre:=[_]) rfl xC fun Q7 Qx=>HR (Gb (Gh aJ Qx rfl (GS (a:=L+5) (uP aJ) hd1' (JC (uP (cS Uf)) VG (F9 ?_)))))
          by_cases hc:o∉cK us Ye s
          ·refine aa (KV hc) ?_
           refine Gh aJ Qx rfl (hY _ _ _ ⟨rfl,Q7,_,[],Qx, .refl _,rfl,?_⟩);exact aa Ql (aa (MM _ _) (aa (O6 (by simpa using hc)) (aH Rv)))
          ·refine aa (KY hc) ?_
           refine hN _ _ ⟨rfl,Q7,_,[],Qx, .refl _,rfl,?_⟩;exact aa Ql (aa (MM _ _) (aa (O5 (by simpa using hc)) (aa List.filter_nil (aa (Lh _) Rv))))
         case lastH=>
          rintro Dh mC Sv gH cDh _ ⟨rfl,Ut⟩;rw[show dv.N (.list R Rf kR)=(aF (dd (us.getD s []))).length from Un.length,Lk] at Ut;have Ut:IntsAre Sv (aQ us Ye s):=Ut;refine Gd BC ?_;have hW3:=UI.more [(Dh,lO Sv cDh),(R,lO Rf kR),(S,oS)];have hdh:(Dh,lO Sv cDh)∈[(Dh,lO Sv cDh),(R,lO Rf kR),(S,oS)]++Z6:= .head _;generalize [(Dh,lO Sv cDh),(R,lO Rf kR),(S,oS)]++Z6=Z7 at hW3 hdh⊢;revert Z7;refine wrap ?_;intro Z7 hW3 hdh;clear Un hS Uf UI hmu hwu eu;obtain⟨R6,Qm⟩:=Qd.p;generalize PQ:(fun z=>if z=Yc "fresh" then some (Value.ref Dh) else m3 z)=m4;revert m4;refine wrap ?_;intro m4 PQ;have S9:dJ hl Ys Yh m4:=ae PQ ⟨Qd.h,Qd.a,R6,Qm⟩;have sp4:m4 (Yc "spot")=some (.int (s:Int) t3):=ae PQ sp3;have nm4:m4 (Yc "name")=some (.str (bb Yd (af us) s) te):=ae PQ nm3;have fr4:m4 (Yc "fresh")=some (.ref Dh):=ae PQ rfl;clear PQ Qd Qm sp3 nm3 mk3;obtain⟨R6,Qm⟩:=S9.p;refine Gf (F8 (F8 (FX Qm (Gc fun u2=>Gm ?e1 (KA rfl) fun u3=>FX nm4 (Gm ?e2 ?e3 fun u4=>?_)))))
          case e1=>exact L3 [_,_,_] V2 (.n 1000000) 10000 V0 (.n 60) 10000 (.a V1 W1) V0 1 V2 (.m 10000 V1) rfl RF SD Qw
          case e2=>refine aa (KB _ _) ?_;show Yh.length+1<=_;exact L3 [_,_,_] (.a V2 W1) (.n 1000000) 10000 V0 (.n 60) 10000 (.a V1 W1) V0 1 V2 (.m 10000 V1) rfl RF SD Qw
          case e3=>exact bd hnml
          have Ru:(Yh++Yc "<"++bb Yd (af us) s).length<=10000*j+1003:=by(refine aa (KB _ _) ?_;rw[KB]);show Yh.length+1+_<=_;lia
          generalize Yh++Yc "<"++bb Yd (af us) s=Rm at Ru QY⊢;revert Rm;refine wrap ?_;intro Rm Ru QY;show Tr _ _ _ _ _ _;generalize PQ:(fun y=>if y=Yc "page" then some (Value.str Rm u4) else m4 y)=m5;revert m5;refine wrap ?_;intro m5 PQ;have VM:dJ hl Ys Rm m5:=ae PQ ⟨S9.h,S9.a,_,rfl⟩;have sp5:m5 (Yc "spot")=some (.int (s:Int) t3):=ae PQ sp4;have fr5:m5 (Yc "fresh")=some (.ref Dh):=ae PQ fr4;clear PQ S9 Qm sp4 nm4 fr4;have Vq:∀ x∈aQ us Ye s,x∈af us/\0<=x/\x<32768:=fun x hx=>by
           have hx:=uq hx;rw[Ul] at hx;have h0:(0:Int)<=x:=Np (Le.mp hx).2;have h1:x<32768:=by
            rcases KG.mp (Le.mp hx).1 with rfl|h
            ·exact Tf.2
            ·refine aa (KD.mp h) ?_;exact(ok.m0 s QM).2
           exact⟨iK hum hx h0 h1,h0,h1⟩
          have Qi:=KF (uo us Ye s) (Qf s);have hfd:=wz us Ye s;refine Gu (GH (K₁:=fun fl m n=>fl=.next/\yX (fun Z=>n=(I,oI)::(L+5,U9)::(L+4,Uz)::(L+3,VN)::Z) (fun Z=>ou Yd Ye means marks us L cl hl bQ Ys Qp D Dn PL Rd Yz cD kn ka Z) (fun _=>dJ hl Ys ((bu (az (af us) (aQ us Ye s))).foldl aT Rm) m) (fun _=>m (Yc "spot")=some (.int (s:Int) t3)) (fun _=>((bu (az (af us) (aQ us Ye s))).foldl aT Rm).length<=10000*j+4003)) ?sP ?sT)
          case sT=>
           rintro _ m n ⟨rfl,Z,rfl,Te,RI,Vb,UO⟩;generalize (bu (az (af us) (aQ us Ye s))).foldl aT Rm=Q2 at RI UO QY;revert Q2;refine wrap ?_;intro Q2 RI UO QY;clear VM sp5 fr5 Qi hfd Vq Ut hdh hW3;obtain⟨oc,Tl,doc⟩:=Te.z.cc;obtain⟨Yr,kc,UQ,Rh⟩:=Te.z.lc;obtain⟨om,hom,dom⟩:=Te.z.mc;obtain⟨Yo,km,hlm,QQ⟩:=Te.z.lm;have SA:=Rh.length;have Rq:=QQ.length;have RF:=ok.ml;obtain⟨tc,ec⟩:=dr Rh QM;obtain⟨tm,em⟩:=dr QQ (show s<means.length from q1 QM RF);have hr:=gY (Yd.getD s 0);refine Gf (GE (f:=236) (fun J h=>Gz (by k_is) h) (by k_is) (GE (f:=262) (fun J h=>Gz (by k_is) h) (by k_is) (Gg (GJ (a:=L+1) rfl (cS Tl) doc (FX Vb (Gi (cS UQ) rfl ec (by exact L2 [_,_] V1 (.n 100000) 1 V0 (.n 30) 1 V1 V0 rfl hz (eL SA)) ((oF _ tc Tf.1 Tf.2).to (by show 3<=7;decide) fun v hv=>?_)))))));obtain⟨v6,rfl⟩:=hv;refine(oD (ac (Yd.getD s 0)) v6 (bd (eL hr))).to (by show 2<=7;decide) fun v hv=>?_;obtain⟨v7,rfl⟩:=hv;have RG:=jt hr;have TS:eR Yd means (af us) s=if 0<=means.getD s 0 then aK (af us) (means.getD s 0)++Txt.slice (av (ac (Yd.getD s 0))) (some 4) none else av (ac (Yd.getD s 0)):=rfl
           generalize av (ac (Yd.getD s 0))=Ux at RG TS⊢;revert Ux;refine wrap ?_;intro Ux RG TS;obtain⟨R6,Qm⟩:=RI.p;show Tr _ _ _ _ _ _;generalize PQ:(fun y=>if y=Yc "text" then some (Value.str Ux v7) else m y)=m7;revert m7;refine wrap ?_;intro m7 PQ;have U8:dJ hl Ys Q2 m7:=ae PQ ⟨RI.h,RI.a,R6,Qm⟩;have sp7:m7 (Yc "spot")=some (.int (s:Int) t3):=ae PQ Vb;have tx7:m7 (Yc "text")=some (.str Ux v7):=ae PQ rfl;clear PQ RI Vb Qm;refine Gu (GH (K₁:=fun fl m n=>fl=.next/\n=(I,oI)::(L+5,U9)::(L+4,Uz)::(L+3,VN)::Z/\dJ hl Ys Q2 m/\(∃ tt,m (Yc "text")=some (.str (eR Yd means (af us) s) tt))/\(eR Yd means (af us) s).length<=1100) ?sI ?sE)
           case sE=>
            rintro _ m n ⟨rfl,rfl,lk8,⟨tt,tx8⟩,TR⟩;obtain⟨R6,Qm⟩:=lk8.p;refine Gf (F8 (F8 (FX Qm (Gc fun w1=>Gm ?f1 (KA rfl) fun w2=>FX tx8 (Gm ?f2 ?f3 fun w3=>F6 (F6 (RV _ _ _ ⟨_,rfl,rfl,U9,_,Z,rfl,hd1',Te,?f4,?f5⟩)))))))
            case f1=>lia
            case f2=>refine aa (KB _ _) ?_;show Q2.length+1<=_;lia
            case f3=>exact bd TR
            case f4=>refine aa QY ?_;exact⟨lk8.h,lk8.a,w3,rfl⟩
            case f5=>refine aa QY (aa (KB _ _) (aa (KB _ _) ?_));show Q2.length+1+_<=_;exact L2 [_,_,_] (.a (.a V0 W1) V2) (.m 10000 (.a V1 W1)) 1 V0 (.a (.m 10000 V1) (.n 4003)) 1 V2 (.n 1100) rfl UO TR
           case sI=>
            intro K4 hK4;refine GV (Gb (Gg (GJ (a:=L+2) rfl (cS hom) dom (FX sp7 (Gi (cS hlm) rfl em (by exact L4 [_,_,_] V1 (.n 100000) 1 V0 (.n 30) 3 V1 V2 2 V2 V1 1 V2 V0 rfl hz (eL Rq) (eG Rq) (eL RF)) (F7 fun w1=>Jx (F9 ?_)))))))
            by_cases P5:0<=means.getD s 0
            ·refine aa (KV (show means.getD s 0≥0 from P5)) ?_
             rw[KW P5] at TS;have Vx:means.getD s 0∈af us:=iK hum (Le.mpr ⟨aJ,KV P5⟩) P5 (ok.m0 s QM).2;have Vy:=lu Qs Vx;have hix:=Mu.mpr Vx;have hsl4:=LY Ux (some 4) none;refine Gf (F8 (F8 (Gc fun w2=>GT (by k_is) (by boot_fast) (by decide) (Ga (GJ (a:=L+4) rfl co d2' (Gj (cS Te.nd) Ob O7 (Gq (FZ (Gg (GJ (a:=L+2) rfl (cS hom) dom (FX sp7 (Gi (cS hlm) rfl em (by exact L4 [_,_,_] V1 (.n 100000) 1 V0 (.n 30) 3 V1 V2 2 V2 V1 1 V2 V0 rfl hz (eL Rq) (eG Rq) (eL RF)) (FY (Im (cS Te.nd) hnv (bd Qs) Vx fun w3=>Iq (iJ (by exact L2 [_,_] V1 (.n 1000) 1 V0 (.n 60) 1 (.a V1 W1) V0 rfl Qs hix)) fun w4=>Gm (KA rfl) ?g1 fun w5=>HH (FX tx7 ⟨_,_,rfl,bd RG,fun w6=>Gm ?g2 ?g3 fun w7=>F6 (hK4 _ _ _ ⟨rfl,rfl,?g4,⟨w7,?g5⟩,?g6⟩)⟩)))))))))))))))
             case g1=>unfold aK at Vy;rw[KB] at Vy;exact L1 [_,_] V1 (.n 1000000) 1 (.a V0 V1) (.n 1000) rfl Vy
             case g2=>exact KF Vy (by decide)
             case g3=>exact L2 [_,_] V1 (.n 1000000) 1 V0 (.n 24) 1 V1 V0 rfl RG hsl4
             case g4=>obtain⟨R6,Qm⟩:=U8.p;exact⟨U8.h,U8.a,R6,Qm⟩
             case g5=>refine aa TS ?_;rfl
             case g6=>refine aa TS (aa (KB _ _) ?_);exact L3 [_,_,_] (.a V1 V2) (.n 1100) 1 V0 (.n 24) 1 V1 (.n 1000) 1 V2 V0 rfl RG Vy hsl4
            ·refine aa (KY (show¬means.getD s 0≥0 from P5)) ?_
             rw[KM P5] at TS;rw[←TS] at tx7;exact F6 (hK4 _ _ _ ⟨rfl,rfl,U8,⟨v7,tx7⟩,by refine aa TS ?_;exact bd RG⟩)
          case sP=>
           clear QY;intro K3 RU;generalize aQ us Ye s=fresh at Ut Vq Qi hfd RU;revert fresh;refine wrap ?_;intro fresh Ut Vq Qi hfd RU;have hsl2:=nC (az (af us) fresh);have hpl2:(az (af us) fresh).length=fresh.length:=KE _;refine Hw (fun Sx q m n=>lZ (fun R vs k Z=>Sx=.list R vs k) (fun _ _ _ Z=>n.Perm ((I,oI)::(L+5,U9)::(L+4,Uz)::(L+3,VN)::Z)) (fun R vs k Z=>(R,lO vs k)∈Z) (fun _ vs _ Z=>cb ((I,oI)::(L+5,U9)::(L+4,Uz)::(L+3,VN)::Z) vs (bu (az (af us) fresh))) (fun _ _ _ Z=>ou Yd Ye means marks us L cl hl bQ Ys Qp D Dn PL Rd Yz cD kn ka Z) (fun _ _ _ _=>dJ hl Ys (((bu (az (af us) fresh)).take q).foldl aT Rm) m) (fun _ _ _ _=>m (Yc "spot")=some (.int (s:Int) t3)) (fun _ _ _ _=>(((bu (az (af us) fresh)).take q).foldl aT Rm).length<=Rm.length+1500*q)) QP
            (GN (by k_is) (by boot_fast) (by decide) (GU (FX fr5 ⟨.list Dh Sv cDh,fun q mC PL g=>cb g PL ((az (af us) fresh).take q),rfl, .inl (cS hdh),by show Sv.length<=1000;have:=Ut.length;exact L2 [_,_] V1 (.n 1000) 1 V0 (.n 2) 1 V1 V0 rfl Qi (eL this), .nil,?turnQ,?lastQ⟩)))
           case turnQ=>
            rintro E' q x Q8 g2 I2 D2 C2 SI Rx RK SU Y N hq hx Rv xC hY hN;obtain⟨TP,tq,rfl⟩:=bW Ut hx;have Ql:(az (af us) fresh).take (q+1)=(az (af us) fresh).take q++[(aK (af us) (fresh.getD q 0),fresh.getD q 0)]:=by
             unfold az;exact ae List.map_take (aa (bC _ TP) (aa KN (aa List.map_take rfl)))
            have SW:=Vq (fresh.getD q 0) (bi TP);generalize fresh.getD q 0=code at Ql SW⊢;revert code;refine wrap ?_;intro code Ql SW;have QU:=lu Qs SW.1;have hix:=Mu.mpr SW.1;refine GB (pre:=[_]) rfl xC fun Q7 Qx=>GI (GA (FZ (F8 (Gc fun t4=>It (fun J h=>H0 (by k_is) (by boot_fast) (by decide) h) (Ga (GS (a:=L+4) (cY (Kz _ (.tail _ (.tail _ (.head _))))) d2' (Gj (cY (Kz _ (.tail _ (.tail _ (.tail _ (.tail _ hW3.nd)))))) Ob O7 (Gq (FZ (Gh aJ Qx rfl (FY (Im (cY (Kz _ (.tail _ (.tail _ (.tail _ (.tail _ hW3.nd)))))) hnv (bd Qs) SW.1 fun t5=>Iq (iJ (by exact L2 [_,_] V1 (.n 1000) 1 V0 (.n 60) 1 (.a V1 W1) V0 rfl Qs hix)) fun t6=>Gm (KA rfl) ?q1 fun t7=>FZ (Gh aJ Qx rfl (FY ⟨KA rfl,fun T=>(hY _ _ _ ⟨rfl,Q7,_,(T,_)::g2,Qx,AB,?q2⟩)⟩))))))))))))))
            case q1=>unfold aK at QU;rw[KB] at QU;exact L1 [_,_] V1 (.n 1000000) 1 (.a V0 V1) (.n 1000) rfl QU
            case q2=>
             show cb _ _ ((az (af us) fresh).take (q+1));exact aa Ql ((Rv.mono fun _ hp=> .tail _ hp).snoc (.head _))
           case lastQ=>
            intro Dp mC outsP gP cDp _ hP;rw[show dv.N (.list Dh Sv cDh)=fresh.length from Ut.length,←hpl2,Lk] at hP;refine Ip (.head _) (hP.mono fun _ hp=> .tail _ (Ky _ hp)) (q7 Qi hpl2) ?ndP fun R RM k' TI=>⟨.list R RM k',rfl,by show RM.length<=1000;have:=TI.len;lia,?invP,?heldP,?turnP,?endP⟩
            case ndP=>
             unfold az;exact aa M1 (lb hfd fun a ha b hb e=>Aq Qs (Vq a ha).1 (Vq b hb).1 e)
            case invP=>exact⟨R,RM,k',((R,_)::(Dp,_)::gP)++Z7,rfl,AG, .head _,TI.mono fun p hp=>AG.mem_iff.mp (.tail _ hp),hW3.more ((R,_)::(Dp,_)::gP),VM,sp5,KZ _⟩
            case heldP=>
             rintro q m n ⟨R2,vs2,k2,Z,e,hp,hR,-⟩
             cases e;exact .inl (hp.mem_iff.mpr (cS hR))
            case endP=>
             rintro m n ⟨R2,vs2,k2,Z,e,hp,hR,hPs,Te,RI,Vb,UO⟩
             cases e;rw[show dv.N (.list R RM k')=(bu (az (af us) fresh)).length from TI.len,Lk] at RI UO;exact Gd hp (F6 (RU _ _ _ ⟨rfl,Z,rfl,Te,RI,Vb,by lia⟩))
            case turnP=>
             rintro q x I2 SI m n KT hq hx ⟨R2,vs2,k2,Z,e,hp,hR,hPs,Te,RI,Vb,UO⟩ RV
             cases e;obtain⟨a,px,code,t8,t9,rfl,UU,S6⟩:=hPs.at hx;obtain⟨y,hy,e⟩:=KI.mp (nD (LJ S6))
             cases e;have SW:=Vq code hy;have QU:=lu Qs SW.1;have Ql:((bu (az (af us) fresh)).take (q+1)).foldl aT Rm=aT (((bu (az (af us) fresh)).take q).foldl aT Rm) (aK (af us) code,code):=aa Mm (aa S6 (aa (NL _) (aa NQ rfl)));have hq:q<(bu (az (af us) fresh)).length:=TI.len▸hq;generalize ((bu (az (af us) fresh)).take q).foldl aT Rm=Q2 at RI UO Ql;revert Q2;refine wrap ?_;intro Q2 RI UO Ql;refine Gd (hp.cons _) (Hp (.inl (.tail _ UU)) (Go (Go ?_)));obtain⟨R6,Qm⟩:=RI.p;show Tr _ _ _ _ _ _;generalize PQ:(fun y=>if y=Yc "code" then some (Value.int code t9) else _)=m6;revert m6;refine wrap ?_;intro m6 PQ;have U8:dJ hl Ys Q2 m6:=ae PQ ⟨RI.h,RI.a,R6,Qm⟩;have sp7:m6 (Yc "spot")=some (.int (s:Int) t3):=ae PQ Vb;have px7:m6 (Yc "prefix")=some (.str (aK (af us) code) t8):=ae PQ rfl;have cd7:m6 (Yc "code")=some (.int code t9):=ae PQ rfl;clear PQ RI Vb Qm;obtain⟨R6,Qm⟩:=U8.p;refine Gf (F8 (F8 (F8 (F8 (F8 (FX Qm (Gc fun v1=>Gm ?d1 (KA rfl) fun v2=>FX px7 (Gm ?d2 ?d3 fun v3=>Gc fun v4=>Gm ?d4 (KA rfl) fun v5=>GE (f:=262) (fun J h=>Gz (by k_is) h) (by k_is) (FX cd7 ((oF code t9 SW.2.1 SW.2.2).to (by show 3<=7;decide) fun v hv=>?_))))))))))
             case d1=>lia
             case d2=>refine aa (KB _ _) ?_;show Q2.length+7<=_;lia
             case d3=>exact bd QU
             case d4=>(refine aa (KB _ _) ?_;rw[KB]);show Q2.length+7+_<=_;lia
             obtain⟨v6,rfl⟩:=hv;have hr:=gY code;refine Gm ?d5 ?d6 fun v7=>Gc fun v8=>Gm ?d7 (KA rfl) fun v9=>F6 (RV _ _ _ ⟨_,rfl,R,RM,k',Z,rfl, .refl _,hR,hPs,Te,?d8,sp7,?d9⟩)
             case d5=>(refine aa (KB _ _) ?_;rw[KB,KB]);show Q2.length+7+_+2<=_;lia
             case d6=>exact bd (eL hr)
             case d7=>rw[KB,KB,KB,KB];show Q2.length+7+_+2+_<=_;lia
             case d8=>rw[Ql];exact⟨U8.h,U8.a,v9,rfl⟩
             case d9=>rw[Ql];show (Q2++_++_++_++_++_:Str).length<=_;rw[KB,KB,KB,KB,KB];show Q2.length+7+(aK (af us) code).length+2+(ac code).length+1<=_;lia
theorem go:Q Yd Ye means marks Yr Yx Yo Yz cl hl bQ Ys kc kh km ka:=fun Rh TJ QQ UJ ok TM=>B.2 (cT (P:=B.1) (zZ Rh TJ QQ UJ ok TM))
end TXk
theorem zN(Yd Ye means marks:X9)(Yr Yx Yo Yz:X8)(cl hl bQ Ys kc kh km ka:Nat):TXk.Q Yd Ye means marks Yr Yx Yo Yz cl hl bQ Ys kc kh km ka:=cT (P:=TXk.P_) TXk.go ((((Yd,Ye),(means,marks)),((Yr,Yx),(Yo,Yz))),(((cl,hl),(bQ,Ys)),((kc,kh),(km,ka))))
section
variable{c:Fx}{E:X6}{m:X5}{n:X4}{J:ad Value}{env:Env}
theorem ax.units(l:ax c s m n):c.A.units<cLine:=by
 have h:=l.hu;show c.un<cLine;exact iR h
theorem Ku(h:Tr c E m n (eval e env) fun v m n=>bG (fun(i:Int) (t:Tok)=>v=.int i t) (fun i _=>∀ t',J (.int (-i) t') m n)):Tr c E m n (eval (.UnaryOp .USub e p) env) J:= .mk fun s l=>
 wpAny_UnaryOp (F0 l h fun v s1 _ _ l1 hv=>by
  obtain⟨i,t,rfl,q⟩:=hv;exact P.neg_int ⟨_,_,l1.tok,q _⟩)
theorem JT{a b:Addr}{vs:X8}{k:Nat}(ha:(a,lO vs k)∈n)(hb:(b,listOf #[] 0)∈n)(h:J (.bool vs.isEmpty) m n):Tr c E m n (compareOp .Eq (.ref a) (.ref b)) J:= .mk fun s l=>by
 have h1:s.heap.IsList a vs.toArray:=⟨_,(l.N _ ha).1,rfl,k,rfl⟩;have h2:s.heap.IsList b #[]:=⟨_,(l.N _ hb).1,rfl,0,rfl⟩
 cases vs with
 |nil=>exact PySem.SeqAt.eq_listAt (e:=fun _=>false) h1 h2 rfl l.units (fun j h1=>absurd h1 (LK _)) ⟨_,_,l,h⟩
 |cons v vs=>exact PySem.SeqAt.eq_list_lengthsAt h1 h2 (by simp) l.units ⟨_,_,l,h⟩
theorem Jb(ha:(a,bl (.str x t) (.str y u) 0)∈n)(hb:(b,bl (.str x' t') (.str y' u') 0)∈n)(h:J (.bool (x==x'&&y==y')) m n):Tr c E m n (compareOp .Eq (.ref a) (.ref b)) J:= .mk fun s l=>by
 have h1:s.heap.IsTuple a #[.str x t, .str y u]:=⟨_,(l.N _ ha).1,rfl,0,rfl⟩;have h2:s.heap.IsTuple b #[.str x' t', .str y' u']:=⟨_,(l.N _ hb).1,rfl,0,rfl⟩;refine PySem.SeqAt.eq_tupleAt (e:=fun j=>if j=0 then x==x' else y==y') h1 h2 l.units (fun j h1 _=>?_) ⟨_,_,l,?_⟩
 ·rcases j with _|_|j
  ·exact(PySem.SeqAt.EqAt.str_str x t x' t':PySem.SeqAt.EqAt c.A.in1 s (.str x t) (.str x' t') (x==x'))
  ·exact(PySem.SeqAt.EqAt.str_str y u y' u':PySem.SeqAt.EqAt c.A.in1 s (.str y u) (.str y' u') (y==y'))
  ·exact absurd (show j+2<2 from h1) (MW.mpr (Oi 2 j))
 ·have e:(List.range (min (#[Value.str x t, .str y u]:Array Value).size (#[Value.str x' t', .str y' u']:Array Value).size)).all (fun j=>if j=0 then x==x' else y==y')=(x==x'&&y==y'):=by
   show ([0,1]:List Nat).all _=_;simp
  refine aa e ?_;simpa using h
structure DS where
 Yd:X9
 Ye:X9
 means:X9
 marks:X9
 Yy:List (Int×Int)
 Yl:Int
def DS.init:DS:=⟨[],[],[],[],[],-1⟩
noncomputable def eM (code:Int):Bool:=(List.range 3).all fun p=>decide (12<(code.fdiv (16^p)).fmod 16)
noncomputable def bA (Yy:List (Int×Int)) (spot code:Int):X9:=(Yy.filter fun p=>p.1==spot&&p.2.fdiv 4096==code.fdiv 4096).map (·.2)
noncomputable def DS.meant (d:DS) (place:Nat) (code:Int):X9:=if 0<place/\8191<code/\eM code=true then(aj d.Ye d.Yl).flatMap fun s=>bA d.Yy s code else[-1]
noncomputable def DS.tell (d:DS) (code:Int):DS:=⟨d.Yd,d.Ye,d.means,d.marks,d.Yy++[(d.Yl,code)],d.Yl⟩
noncomputable def DS.close (d:DS):DS:=⟨d.Yd,d.Ye,d.means,d.marks++[-1-d.Yl],d.Yy,d.Ye.getD d.Yl.toNat (-1)⟩
noncomputable def DS.add (d:DS) (code Qt:Int):DS:=⟨d.Yd++[code],d.Ye++[d.Yl],d.means++[Qt],(d.marks++[(d.Yd.length:Int)])++(if code.fdiv 4096=4 then[] else[-((d.Yd.length+1:Nat):Int)]),d.Yy,if code.fdiv 4096=4 then(d.Yd.length:Int) else d.Yl⟩
noncomputable def DS.step(d:DS)(place:Nat)(Yv code:Int):Option DS:=if Yv=0 then some (d.tell code) else if Yv=1/\0<d.Yl then some d.close else(d.meant place code).head?.map (d.add code)
def bT(code:Int):Str:=Yc "Prefix "++Txt.slice (av (ac code)) none (some 4)++Yc " of QName \""++av (ac code)++Yc "\" is not declared in scope"
def DS.text(d:DS):Str:=bO d.Yd d.Ye d.means d.marks
noncomputable def DS.fin (d:DS):DS:=⟨d.Yd,d.Ye,d.means,d.marks++(aj d.Ye d.Yl).map fun s=>-1-s,d.Yy,d.Yl⟩
def eJ:DS->Nat->List (Int×Int)->Str×Str
 |d,_,[]=>(d.fin.text,Yc "none")
 |d,p,x::r=>match d.step p x.1 x.2 with
  |none=>(d.text,bT x.2)
  |some d'=>eJ d' (p+1) r
theorem jm(d:DS)(p:Nat)(x:Int×Int)(r:List (Int×Int)):eJ d p (x::r)=(match d.step p x.1 x.2 with|none=>(d.text,bT x.2)|some d'=>eJ d' (p+1) r):=rfl
noncomputable def bz (Yi ag:X9):List (Int×Int):=(List.range ag.length).map fun j=>(Yi.getD j 0,bf (ag.getD j 0))
def dZ(Yi ag:X9):Str×Str:=eJ DS.init 0 (bz Yi ag)
theorem jB(h:j<ag.length):(bz Yi ag).drop j=(Yi.getD j 0,bf (ag.getD j 0))::(bz Yi ag).drop (j+1):=by
 have hl:(bz Yi ag).length=ag.length:=by unfold bz;exact aa (KE _) (aa Oo rfl)
 refine aa (List.drop_eq_getElem_cons (q1 h hl)) ?_
 congr 1
 unfold bz;exact aa (NY _) (aa (List.getElem_range _) rfl)
theorem lC:(bz Yi ag).drop ag.length=[]:=List.drop_eq_nil_of_le (by unfold bz;refine aa (KE _) (aa Oo ?_);exact KZ _)
end
theorem gU(h0:0<=c):0<=cf mode c p/\cf mode c p<=c*16+15:=by
 have hf:=di (mode.fdiv (8^p.toNat)) (b:=8) (by decide);have ha:=di (mode.fdiv (2^(9+p).toNat)) (b:=2) (by decide);unfold cf;generalize (mode.fdiv (8^p.toNat)).fmod 8=f at hf⊢;generalize (mode.fdiv (2^(9+p).toNat)).fmod 2=ab at ha⊢;have hg:=di f (b:=2) (by decide);have hd:=gJ hf.1 (b:=2) (c:=4) (by decide) (BV hf.2);have h2:f.fmod 2=0∨f.fmod 2=1:=BO hg.1 hg.2;have h3:ab=0∨ab=1:=BO ha.1 ha.2;rcases h2 with h2|h2<;>rcases h3 with rfl|rfl<;>refine aa h2 ?_<;>lia
theorem iH(h0:0<=mode)(h1:mode<65536):0<=bf mode/\bf mode<32768:=by
 have hq:=gJ (b:=4096) (c:=16) h0 (by decide) (BU h1);have h:∀ k:Nat,k<16->0<=([1,6,3,1,4,1,2,1,0,1,5,1,7,1,1,1]:X9).getD k 0/\([1,6,3,1,4,1,2,1,0,1,5,1,7,1,1,1]:X9).getD k 0<=7:=by decide
 have hk:=h (mode.fdiv 4096).toNat (by lia);unfold bf;generalize ([1,6,3,1,4,1,2,1,0,1,5,1,7,1,1,1]:X9).getD (mode.fdiv 4096).toNat 0=c0 at hk⊢;have a:=gU (mode:=mode) (p:=2) hk.1;have b:=gU (mode:=mode) (p:=1) a.1;have d:=gU (mode:=mode) (p:=0) b.1;exact FM hk.1 hk.2 a.2 b.2 d.1 d.2
structure c7(d:DS)(j:Nat):Prop where
 hl:d.Ye.length=d.Yd.length
 ml:d.means.length=d.Yd.length
 cz:d.Yd.length<=j
 tz:d.Yy.length<=j
 kz:d.marks.length<=2*j
 hh:bP d.Ye
 c0:∀ x∈d.Yd,0<=x/\x<32768
 m0:∀ x∈d.means,-1<=x/\x<32768
 t0:∀ p∈d.Yy,0<=p.2/\p.2<32768
 mr:∀ k∈d.marks,-(d.Yd.length:Int)<=k/\k<d.Yd.length
 h0:-1<=d.Yl
 h1:d.Yl<d.Yd.length
theorem c7.init:c7 DS.init 0:=⟨rfl,rfl,KZ _,KZ _,KZ _,fun i h=>absurd h (LK i),(fun _ h=>nomatch h),(fun _ h=>nomatch h),(fun _ h=>nomatch h),(fun _ h=>nomatch h),by decide,by decide⟩
theorem iG(h:i<=l.length):(l++[x]).getD i d=if i=l.length then x else l.getD i d:=by
 refine aa KR (aa KR ?_)
 split
 ·rename_i e;subst e;refine aa (LS (KZ _)) (aa (OY _) ?_);rfl
 ·exact aa (Mt (by lia)) rfl
theorem c7.tell{d:DS}{j:Nat}{code:Int}(h:c7 d j)(hc:0<=code/\code<32768):c7 (d.tell code) (j+1):=
 ⟨h.hl,h.ml,MG h.cz,by show (d.Yy++_).length<=_;refine aa KH ?_;exact Ms h.tz,KF h.kz (by exact L0 [_] (.m 2 V0) (.m 2 (.a V0 W1)) rfl),h.hh,h.c0,h.m0,fun p hp=>by
  rcases KK.mp hp with hp|hp
  ·exact h.t0 p hp
  ·refine aa (KD.mp hp) ?_;exact hc,h.mr,h.h0,h.h1⟩
theorem c7.close(h:c7 d j)(hp:0<d.Yl):c7 d.close (j+1):=by
 have h1:=h.h1;have hl:=h.hl;have hg:=h.hh d.Yl.toNat (AT hp h1 hl);refine⟨h.hl,h.ml,MG h.cz,MG h.tz,?_,h.hh,h.c0,h.m0,h.t0,fun k hk=>?_,hg.1,?_⟩
 ·show (d.marks++_).length<=_
  refine aa KH ?_;have:=h.kz;show _+1<=_;exact L1 [_,_] (.a V0 W1) (.m 2 (.a V1 W1)) 1 V0 (.m 2 V1) rfl this
 ·rcases KK.mp hk with hk|hk
  ·exact h.mr k hk
  ·refine aa (KD.mp hk) ?_
   show-(d.Yd.length:Int)<=_/\_<(d.Yd.length:Int);exact Fh hp h1
 ·show d.Ye.getD d.Yl.toNat (-1)<(d.Yd.length:Int)
  exact Fc hp h1 hg.2
theorem c7.add{d:DS}{j:Nat}{code Qt:Int}(h:c7 d j)(hc:0<=code/\code<32768)(hm:-1<=Qt/\Qt<32768):c7 (d.add code Qt) (j+1):=by
 have hl:=h.hl;have ml:=h.ml;have cz:=h.cz;have kz:=h.kz;have h0:=h.h0;have h1:=h.h1;have hz:(d.Yd++[code]).length=d.Yd.length+1:=aa KH rfl;refine⟨?_,?_,?_,MG h.tz,?_,fun i hi=>?_,fun x hx=>?_,fun x hx=>?_,h.t0,fun k hk=>?_,?_,?_⟩
 ·show (d.Ye++_).length=(d.Yd++_).length
  refine aa KH (aa hz (aa hl ?_));rfl
 ·show (d.means++_).length=(d.Yd++_).length
  refine aa KH (aa hz (aa ml ?_));rfl
 ·show (d.Yd++_).length<=_
  exact L2 [_,_,_] V2 (.a V1 W1) 1 V0 V1 1 V2 (.a V0 W1) rfl cz (eL hz)
 ·show ((d.marks++_)++_).length<=_
  refine aa KH (aa KH ?_);show _+1+_<=_
  split
  ·show _+1+0<=_;exact L1 [_,_] (.a (.a V0 W1) W0) (.m 2 (.a V1 W1)) 1 V0 (.m 2 V1) rfl kz
  ·show _+1+1<=_;exact L1 [_,_] (.a (.a V0 W1) W1) (.m 2 (.a V1 W1)) 1 V0 (.m 2 V1) rfl kz
 ·have SY:i<d.Ye.length+1:=by
   have e:(d.add code Qt).Ye.length=d.Ye.length+1:=by show (d.Ye++_).length=_;refine aa KH ?_;rfl
   exact q2 hi e
  show-1<=(d.Ye++[d.Yl]).getD i (-1)/\(d.Ye++[d.Yl]).getD i (-1)<i;refine aa (iG (by exact L1 [_,_] V1 V0 1 (.a V1 W1) (.a V0 W1) rfl SY)) ?_
  split
  ·lia
  ·exact h.hh i (by lia)
 ·rcases KK.mp hx with hx|hx
  ·exact h.c0 x hx
  ·refine aa (KD.mp hx) ?_;exact hc
 ·rcases KK.mp hx with hx|hx
  ·exact h.m0 x hx
  ·refine aa (KD.mp hx) ?_;exact hm
 ·show-((d.Yd++[code]).length:Int)<=k/\k<((d.Yd++[code]).length:Int)
  refine aa hz ?_;have hb:∀ k,-(d.Yd.length:Int)<=k/\k<d.Yd.length->-((d.Yd.length+1:Nat):Int)<=k/\k<((d.Yd.length+1:Nat):Int):=fun k h=>FN h.1 h.2;rcases KK.mp hk with hk|hk
  ·rcases KK.mp hk with hk|hk
   ·exact hb k (h.mr k hk)
   ·refine aa (KD.mp hk) ?_;exact FO
  ·split at hk
   ·cases hk
   ·refine aa (KD.mp hk) ?_;exact FP
 ·show-1<=if code.fdiv 4096=4 then(d.Yd.length:Int) else d.Yl
  split<;>lia
 ·show (if code.fdiv 4096=4 then(d.Yd.length:Int) else d.Yl)<((d.Yd++[code]).length:Int)
  refine aa hz ?_
  split<;>lia
theorem xg{d:DS}{j:Nat}(h:c7 d j){s code x:Int}(hx:x∈bA d.Yy s code):-1<=x/\x<32768:=by
 obtain⟨p,hp,rfl⟩:=KI.mp hx;have:=h.t0 p (Le.mp hp).1;exact FQ this.1 this.2
theorem yt{d:DS}{j place:Nat}(h:c7 d j){code x:Int}(hx:x∈d.meant place code):-1<=x/\x<32768:=by
 unfold DS.meant at hx
 split at hx
 ·obtain⟨s,_,hs⟩:=M6.mp hx
  exact xg h hs
 ·refine aa (KD.mp hx) ?_;decide
theorem c7.fin(h:c7 d 15):c7 d.fin 30:=by
 have h0:=h.h0;have h1:=h.h1;have hl:=h.hl;have cz:=h.cz;have kz:=h.kz;have hn:=dF h.hh (d.Ye.length+1) d.Yl h0 (pY h1 hl);refine⟨h.hl,h.ml,by show d.Yd.length<=30;exact bd cz,KF h.tz (by decide),?_,h.hh,h.c0,h.m0,h.t0,fun k hk=>?_,h0,h1⟩
 ·show (d.marks++_).length<=_
  refine aa KH (aa (KE _) ?_);show _+(bw d.Ye (d.Ye.length+1) d.Yl).length<=_;exact L4 [_,_,_,_] (.a V2 V3) (.m 2 (.n 30)) 1 V0 V1 1 V1 (.n 15) 1 V2 (.m 2 (.n 15)) 1 V3 V0 rfl (tM h1) cz kz hn
 ·rcases KK.mp hk with hk|hk
  ·exact h.mr k hk
  ·obtain⟨s,hs,rfl⟩:=KI.mp hk
   have:=fN h.hh (d.Ye.length+1) d.Yl h0 (pY h1 hl) s hs;show-(d.Yd.length:Int)<=_/\_<(d.Yd.length:Int);exact Fj hl this.1 this.2
theorem c7.text2(h:c7 d 30):oq d.Yd d.Ye d.means d.marks/\mf d.Yd d.marks:=by
 have cz:=h.cz;have kz:=h.kz;exact⟨⟨h.hl,h.ml,bd cz,h.hh,fun i hi=>h.c0 _ (bi hi),fun i hi=>h.m0 _ (bi (by refine aa h.ml ?_;exact hi))⟩,by exact L1 [_] V0 (.n 60) 1 V0 (.m 2 (.n 30)) rfl kz,h.mr⟩
theorem z8(x:CellsAre cm [(PW,WC),(n₂,c₂)] cells):bV (fun XX XY=>cells=[(WC,XX),(c₂,XY)]) (fun XX _=>XX.data=.cell (cm PW)) (fun _ XY=>XY.data=.cell (cm n₂)):=by
 cases x with
 |cons h r=>
  cases r with
  |cons h' r=>
   cases r;exact⟨_,_,rfl,h,h'⟩
structure rt where
 (L TO CL HL ME MA dl ml:Nat)
structure yU where
 (Yr Yx Yo Yz YM:X8)
 (c1 c2 c3 c4 c5:Nat)
 (oc ot:Obj)
noncomputable def dY (a:rt) (v:yU) (Z:X4):X4:=(a.L+2,v.oc)::(a.L+1,v.ot)::(a.CL,lO v.Yr v.c1)::(a.HL,lO v.Yx v.c2)::(a.ME,lO v.Yo v.c3)::(a.MA,lO v.Yz v.c4)::(a.TO,lO v.YM v.c5)::Z
inductive tD(g:X4):Value->Int×Int->Prop
 |mk (a:Nat) (i j:Int) (t u:Tok):(a,bl (.int i t) (.int j u) 0)∈g->tD g (.ref a) (i,j)
abbrev fz(g:X4):X8->List (Int×Int)->Prop:=eC (tD g)
theorem fz.snoc(h:(a,bl (.int i t) (.int j u) 0)∈g)(y:fz g vs ps):fz g (vs++[.ref a]) (ps++[(i,j)]):=eC.snoc (.mk a i j t u h) y
theorem fz.mono(h:∀ p∈g,p∈g')(y:fz g vs ps):fz g' vs ps:=eC.mono (by rintro _ _ ⟨a,i,j,t,u,m⟩;exact .mk a i j t u (h _ m)) y
theorem fz.at{g:X4}{vs:X8}{ps:List (Int×Int)}{j:Nat}{v:Value}(y:fz g vs ps)(h:vs[j]?=some v):l9 (fun(a:Nat) (x y:Int) (t u:Tok)=>v=.ref a) (fun a x y t u=>(a,bl (.int x t) (.int y u) 0)∈g) (fun _ x y _ _=>ps[j]?=some (x,y)):=by
 obtain⟨p,e,a,x,i,t,u,m⟩:=eC.at y h;exact⟨a,x,i,t,u,rfl,m,e⟩
structure qF(d:DS)(a:rt)(v:yU)(Qp Z:X4):Prop where
 c:IntsAre v.Yr d.Yd
 h:IntsAre v.Yx d.Ye
 m:IntsAre v.Yo d.means
 k:IntsAre v.Yz d.marks
 t:fz Z v.YM d.Yy
 oc:∃ x,v.oc.data=.cell x
 ot:v.ot.data=.cell (some (.ref a.TO))
 s:Qp.Sublist Z
structure iZ(a:rt)(Yl:Int)(m:X5):Prop where
 de:m (Yc "deeds")=some (.ref a.dl)
 mo:m (Yc "modes")=some (.ref a.ml)
 c:m (Yc "codes")=some (.ref a.CL)
 h:m (Yc "homes")=some (.ref a.HL)
 e:m (Yc "means")=some (.ref a.ME)
 k:m (Yc "marks")=some (.ref a.MA)
 r:∃ t,m (Yc "here")=some (.int Yl t)
def lX(Qp:X4)(r:Str×Str)(v:Value)(n':X4):Prop:=gQ (fun(T:Nat) (t u:Tok)=>v=.ref T) (fun T t u=>n'=(T,bl (.str r.1 t) (.str r.2 u) 0)::Qp)
def yV(Yi ag:X9)(a:rt)(Qp:X4)(S:dv)(j:Nat)(m:X5)(n:X4):Prop:=
 (vK (fun r t u z=>S=.range r ag.length t u z))/\vJ (fun d v Z=>n.Perm (dY a v Z)) (fun _ _ Z=>S.ent∈Z) (fun d v Z=>qF d a v Qp Z) (fun d _ _=>iZ a d.Yl m) (fun d _ _=>c7 d j) (fun d _ _=>dZ Yi ag=eJ d j ((bz Yi ag).drop j))
theorem c7.mono(h:c7 d j)(hk:j<=k):c7 d k:=⟨h.hl,h.ml,KF h.cz hk,KF h.tz hk,KF h.kz (Mj 2 hk),h.hh,h.c0,h.m0,h.t0,h.mr,h.h0,h.h1⟩
theorem AH:([x,y]++(c++t::Z)).Perm (c++([x,y]++t::Z)):=Lb _ _ _
section
variable{c:Fx}{E:X6}{m:X5}{n pre Z Qp:X4}{J:ad Value}
theorem H3(hp:n.Perm (pre++dY a v Z))(hS:qF d a v Qp Z)(ok:c7 d j)(hj:j<=30)(hk:8<=c.k)(h:∀ t,J (.str d.text t) m n):Tr c E m n (call (.ref 274) [.ref a.CL, .ref a.HL, .ref a.ME, .ref a.MA]) J:=by
 obtain⟨h1,h2⟩:=(ok.mono hj).text2;have ht:=zN d.Yd d.Ye d.means d.marks v.Yr v.Yx v.Yo v.Yz a.CL a.HL a.ME a.MA v.c1 v.c2 v.c3 v.c4 hS.c hS.h hS.m hS.k h1 h2;have ht:=ht.post (P':=fun v' n'=>aM (fun x=>(fe d.text v'/\x=[])) (fun x=>n'=x++[(a.CL,lO v.Yr v.c1),(a.HL,lO v.Yx v.c2),(a.ME,lO v.Yo v.c3),(a.MA,lO v.Yz v.c4)])) fun v' n' hv=>⟨[],⟨hv.1,rfl⟩,hv.2⟩;have h0:(dY a v Z).Perm ([(a.CL,lO v.Yr v.c1),(a.HL,lO v.Yx v.c2),(a.ME,lO v.Yo v.c3),(a.MA,lO v.Yz v.c4)]++([(a.L+2,v.oc),(a.L+1,v.ot)]++(a.TO,lO v.YM v.c5)::Z)):=AH (c:=[(a.CL,lO v.Yr v.c1),(a.HL,lO v.Yx v.c2),(a.ME,lO v.Yo v.c3),(a.MA,lO v.Yz v.c4)]);have hq:=hp.trans ((h0.append_left pre).trans (Lb _ _ _));exact Hz ht hq hk fun v' x hv=>by
  obtain⟨⟨t,rfl⟩,rfl⟩:=hv;exact h t
theorem HW{Ye:X9}{Yx:X8}{hl kh:Nat}(hm:(hl,lO Yx kh)∈n)(hh:IntsAre Yx Ye)(Qc:bP Ye)(hz:Ye.length<=1000){s:Int}{ts:Tok}(h0:-1<=s)(h1:s<Ye.length)(hk:3<=c.k)
  (h:∀ (C:Nat) (Yr:X8) (kc:Nat),IntsAre Yr (aj Ye s)->J (.ref C) m ((C,lO Yr kc)::n)):Tr c E m n (call (.ref 269) [.ref hl, .int s ts]) J:=by
 have QD:=qJ Ye Yx hl kh hh Qc hz s ts h0 h1;have QD:=QD.post (P':=fun v n'=>aM (fun x=>(eg (fun(C:Nat) (Yr:X8) (kc:Nat)=>v=.ref C) (fun _ Yr _=>IntsAre Yr (aj Ye s)) (fun C Yr kc=>x=[(C,lO Yr kc)]))) (fun x=>n'=x++[(hl,lO Yx kh)])) fun v n' hv=>by
  obtain⟨C,Yr,kc,rfl,hc,rfl⟩:=hv;exact⟨_,⟨C,Yr,kc,rfl,hc,rfl⟩,rfl⟩
 obtain⟨r,hpz⟩:=jz hm;exact Hz QD hpz hk fun v x hv=>by
  obtain⟨C,R9,kC,rfl,Vp,rfl⟩:=hv;exact h C R9 kC Vp
end
theorem DY(h:pre=[a1,a2,a3,a4,a5]:=by rfl):(r::(pre++x::y::Z)).Perm (x::y::a5::a4::a3::a2::a1::r::Z):=by
 subst h;have h1:([r,a1,a2,a3,a4,a5]++([x,y]++Z)).Perm ([x,y]++([r,a1,a2,a3,a4,a5]++Z)):=Lb _ _ _;refine h1.trans (.cons _ (.cons _ ?_));exact(List.reverse_perm [r,a1,a2,a3,a4,a5]).symm.append_right Z
theorem wU:(g++(i::dY a v Z)).Perm (i::dY a v (g++Z)):=Lb g (i::dY a v []) Z
theorem uO(h:x∈Z):x∈dY a v Z:=xK h
theorem qB{l:List (Int×Int)}{q:Nat}{x y s code:Int}(h:l[q]?=some (x,y)):bA (l.take (q+1)) s code=bA (l.take q) s code++if (x==s&&y.fdiv 4096==code.fdiv 4096)=true then[y] else[]:=by
 unfold bA;refine aa Mm (aa h (aa (NL _) (aa (MM _ _) (aa KN (aa List.filter_cons ?_)))))
 split<;>rfl
theorem oR{f:Int->X9}{b:Nat}:∀ {l:X9},(∀ x∈l,(f x).length<=b)->(l.flatMap f).length<=b*l.length
 |[],_=>K0 _
 |x::l,h=>by
  exact aa MX (aa KH (aa Lc (aa (Nat.mul_add _ _ _) (aa (Nat.mul_one _) (aa (Nat.add_comm _ _) (Ny (oR fun y hy=>h y (.tail _ hy)) (h x (.head _))))))))
theorem uN{d:DS}{j:Nat}(ok:c7 d j)(hj:j<=15)(place:Nat)(code:Int):(d.meant place code).length<=1000:=by
 have h0:=ok.h0;have h1:=ok.h1;have hl:=ok.hl;have cz:=ok.cz;have tz:=ok.tz;unfold DS.meant
 split
 ·have h:=dF ok.hh (d.Ye.length+1) d.Yl h0 (pY h1 hl)
  have h2:=oR (f:=fun s=>bA d.Yy s code) (b:=15) (l:=aj d.Ye d.Yl) fun x _=>by
   unfold bA;refine aa (KE _) ?_;exact KF (M7 _ _) (BQ tz hj)
  have h3:(aj d.Ye d.Yl).length<=16:=by show (bw d.Ye (d.Ye.length+1) d.Yl).length<=16;exact L4 [_,_,_,_] V3 (.n 16) 1 V0 (.n 15) 1 V1 V2 1 V2 V0 1 V3 V1 rfl hj (tM h1) cz h
  exact KF h2 (KF (Mj 15 h3) (by decide))
 ·exact KA rfl
namespace DUk
def Q(Yi ag:X9)(aR Yo:X8)(dl ml kd km:Nat):Prop:=∀ (RO:IntsAre aR Yi) (QQ:IntsAre Yo ag) (hln:ag.length<=Yi.length) (hz:ag.length<=15) (hdz:Yi.length<=100) (hb:∀ y∈ag,0<=y/\y<65536),bD 10 279 [.ref dl, .ref ml] [(dl,lO aR kd),(ml,lO Yo km)] (lX [(dl,lO aR kd),(ml,lO Yo km)] (dZ Yi ag)) eT
def P_(y:((X9×X9)×X8×X8)×(Nat×Nat)×Nat×Nat):Prop:=Q y.1.1.1 y.1.1.2 y.1.2.1 y.1.2.2 y.2.1.1 y.2.1.2 y.2.2.1 y.2.2.2
def y_:((X9×X9)×X8×X8)×(Nat×Nat)×Nat×Nat:=pk (inferInstance) P_
def Yi:X9:=y_.1.1.1
def ag:X9:=y_.1.1.2
def aR:X8:=y_.1.2.1
def Yo:X8:=y_.1.2.2
def dl:Nat:=y_.2.1.1
def ml:Nat:=y_.2.1.2
def kd:Nat:=y_.2.2.1
def km:Nat:=y_.2.2.2
def B:{B:oj->Prop//(∀ i,B i)->bD 10 279 [.ref dl, .ref ml] [(dl,lO aR kd),(ml,lO Yo km)] (lX [(dl,lO aR kd),(ml,lO Yo km)] (dZ Yi ag)) eT}:=⟨_,fun h=>by
 refine' HD (binds:=[(Yc "deeds", .ref dl),(Yc "modes", .ref ml)]) (by k_is) (by k_is) (by exact fun s X=>LH rfl) (by rfl) (by decide+kernel) (by rfl) (by rfl) (by rfl) ?k9 (by exact fun _ _ h=>h.elim) h
 case k9=>
  intro L cells Y;obtain⟨o1,o2,rfl,-⟩:=z8 Y;refine⟨?_,fun p hp=>?_⟩
  ·exact(rh L (l:=[2,1]) (by decide):([L+1+1,L+1]:List Nat).Nodup)
  ·exact rf (l:=[2,1]) (by decide) (KU (f:=(·.1)) hp)⟩
def i:oj:=pk xL B.1
abbrev L:Addr:=i.L
def E:X6:=i.E
def K:ad Flow:=i.K
def c:Fx:=i.fx 9 (Yc "_law_due") (rm Au) 279 (.ref 278)
theorem zZ(RO:IntsAre aR Yi)(QQ:IntsAre Yo ag)(hln:ag.length<=Yi.length)(hz:ag.length<=15)(hdz:Yi.length<=100)(hb:∀ y∈ag,0<=y/\y<65536):B.1 i:=by
 intro cells hE QP hK Y;obtain⟨o1,o2,rfl,d1,d2⟩:=z8 Y;clear Y;change o1.data=.cell none at d1;change o2.data=.cell none at d2;show Tr c E _ ((L+2,o1)::(L+1,o2)::[(dl,lO aR kd),(ml,lO Yo km)]) _ K;have Qy:(dl,lO aR kd)∈[(dl,lO aR kd),(ml,lO Yo km)]:= .head _;have RF:(ml,lO Yo km)∈[(dl,lO aR kd),(ml,lO Yo km)]:=aJ;generalize [(dl,lO aR kd),(ml,lO Yo km)]=Qp at hK Qy RF⊢;revert Qp;refine wrap ?_;intro Qp hK Qy RF;generalize P5:bindL _ _ _=m0;revert m0;refine wrap ?_;intro m0 P5;have me0:m0 (Yc "deeds")=some (.ref dl):=ae P5 rfl;have mo0:m0 (Yc "modes")=some (.ref ml):=ae P5 rfl;clear P5;have SX:=RO.length;have Rq:=QQ.length;refine Gf (Gx (FY ⟨K0 _,fun CL=>Gf (Gx (FY ⟨K0 _,fun HL=>Gf (Gx (FY ⟨K0 _,fun ME=>Gf (Gx (FY ⟨K0 _,fun MA=>G8 (Gx (FY ⟨K0 _,fun TO=>Hg (pre:=[_,_,_,_,_,_]) rfl rfl d2 (fun Uz d2'=>Gf (G6 fun th=>?_)) rfl⟩))⟩))⟩))⟩))⟩));show Tr _ _ _ _ _ _;generalize PQ:(fun y=>if y=Yc "here" then some (Value.int (-1) th) else _)=m1;revert m1;refine wrap ?_;intro m1 PQ;have lk:iZ ⟨L,TO,CL,HL,ME,MA,dl,ml⟩ DS.init.Yl m1:=ae PQ ⟨me0,mo0,rfl,rfl,rfl,rfl,th,rfl⟩;clear PQ me0 mo0 d2;refine Gu (GH (K₁:=fun fl m n=>match fl with
  | .next=>vI (fun d v Z=>n.Perm (dY ⟨L,TO,CL,HL,ME,MA,dl,ml⟩ v Z)) (fun d v Z=>qF d ⟨L,TO,CL,HL,ME,MA,dl,ml⟩ v Qp Z) (fun d _ _=>iZ ⟨L,TO,CL,HL,ME,MA,dl,ml⟩ d.Yl m) (fun d _ _=>c7 d 15) (fun d _ _=>dZ Yi ag=(d.fin.text,Yc "none"))
  | .ret v=>aM (fun PP=>PP.Sublist n) (fun PP=>lX Qp (dZ Yi ag) v PP)
  |_=>False) ?sF ?sR)
 case sR=>
  rintro fl m n h
  cases fl with
  |ret v=>
   obtain⟨PP,hs,hq⟩:=h;exact hK _ _ _ PP hs hq
  |brk=>exact h.elim
  |cont=>exact h.elim
  |next=>
   obtain⟨d,v,Z,hp,hS,lk,ok,he⟩:=h;refine Gd hp ?_;obtain⟨th,mh⟩:=lk.r;have ok0:=ok.h0;have VO:=ok.h1;have Va:=ok.hl;have okc:=ok.cz;have okk:=ok.kz;have Vt:=hS.k.length;have SQ:=dF ok.hh (d.Ye.length+1) d.Yl ok0 (pY VO Va);change (aj d.Ye d.Yl).length<=_ at SQ;refine Ge (Ga (FX lk.k (Gj qZ PySem.F.slot_list_extend PySem.F.type_list_extend (Gq (FZ (GU (G2 (f:=269) (fun J h=>Gz (by k_is) h) (by k_is) (FZ (FX lk.h (FZ (FX mh (FY (HW ir hS.h ok.hh (by exact L3 [_,_] V0 (.n 1000) 3 V0 V1 2 V1 V0 1 V1 (.n 15) rfl (eL Va) (eG Va) okc) ok0 (pY VO Va) (by show 3<=9;decide) fun C R9 kC hC=>⟨.list C R9 kC,fun q mC PL g=>g=[]/\IntsAre PL (((aj d.Ye d.Yl).take q).map fun s=>-1-s),rfl, .inl (.head _),?szE,⟨rfl, .nil⟩,?turnE,?lastE⟩)))))))))))))
   case szE=>
    have:=hC.length;show R9.length<=1000;exact L4 [_,_,_,_] V3 (.n 1000) 1 V0 V1 1 V1 (.n 15) 1 V2 V0 1 V3 V2 rfl (tM VO) okc SQ (eL this)
   case turnE=>
    rintro E' q x Q8 g2 I2 D2 C2 SI Rx RK SU Y N hq hx ⟨rfl,Rv⟩ xC hY hN;obtain⟨S0,to,rfl⟩:=bW hC hx;have Ql:=bC _ S0;generalize (aj d.Ye d.Yl).getD q 0=o at Ql⊢;revert o;refine wrap ?_;intro o Ql;refine GB (pre:=[_]) rfl xC fun Q7 Qx=>GI (F8 (G6 fun w1=>Gh aJ Qx rfl (Hm fun w2=>(hY _ _ _ ⟨rfl,Q7,_,[],Qx, .refl _,rfl,?_⟩))));exact aa Ql (aa KN (aH Rv))
   case lastE=>
    rintro Dd mC PL g cD _ ⟨rfl,hs⟩;have hCn:=hC.length;rw[show dv.N (.list C R9 kC)=(aj d.Ye d.Yl).length from hCn,Lk] at hs;have To:=hs.length;rw[KE] at To;refine FY (Gd (Ld (l₁:=[_,_,_,_,_,_,_])) (Jc rfl aJ (by lia) fun k'=>Gd (Ld (l₁:=[_,_,_,_,_,_,_])).symm ?_));have RW:qF d.fin ⟨L,TO,CL,HL,ME,MA,dl,ml⟩ ⟨v.Yr,v.Yx,v.Yo,v.Yz++PL,v.YM,v.c1,v.c2,v.c3,k',v.c5,v.oc,v.ot⟩ Qp Z:=⟨hS.c,hS.h,hS.m,hS.k.append hs,hS.t,hS.oc,hS.ot,hS.s⟩;exact GM (GA (FZ (G2 (f:=274) (fun J h=>Gz (by k_is) h) (by k_is) (FZ (FX lk.c (FZ (FX lk.h (FZ (FX lk.e (FZ (FX lk.k (FY (H3 (pre:=[_,_]) (.refl _) RW ok.fin (by decide) (by show 8<=9;decide) fun tt=>FZ (Gc fun tw=>FY ⟨KA rfl,fun T=>hK _ _ _ _ (.cons₂ _ (.cons _ (.cons _ (.cons _ (.cons _ (.cons _ (.cons _ (.cons _ (.cons _ (.cons _ RW.s)))))))))) ⟨T,tt,tw,rfl,by exact aa he rfl⟩⟩))))))))))))))
 case sF=>
  intro K2 hK2;refine Hw (yV Yi ag ⟨L,TO,CL,HL,ME,MA,dl,ml⟩ Qp) QP
   (GT (by k_is) (by boot_fast) (by decide) (GN (by k_is) (by boot_fast) (by decide) (FX lk.mo (G9 (xK RF) (by exact L2 [_,_] V1 (.n 100000) 1 V0 (.n 15) 1 V1 V0 rfl hz (eL Rq)) fun t=>Hr fun rg t u z=>?ask))))
  case ask=>
   refine aa (show bk ((Yo.length:Nat):Int) t u z=bk ((ag.length:Nat):Int) t u z by rw[Rq]) ?_;refine⟨.range rg ag.length t u z,rfl,by show ag.length<=1000;exact bd hz,⟨⟨_,_,_,_,rfl⟩,DS.init,⟨[],[],[],[],[],0,0,0,0,0,o1,Uz⟩,(rg,_)::Qp,?pm, .head _,⟨.nil, .nil, .nil, .nil, .nil,⟨_,d1⟩,d2', .cons _ (.refl _)⟩,lk, .init,rfl⟩,?held,?turn,?last⟩
   case pm=>exact(DY (pre:=[(TO,_),(MA,_),(ME,_),(HL,_),(CL,_)]))
   case held=>
    rintro j m n ⟨-,d,v,Z,hp,hs,-⟩;exact .inl (hp.mem_iff.mpr (xK hs))
   case last=>
    rintro m n ⟨-,d,v,Z,hp,-,hS,lk,ok,he⟩;change c7 d ag.length at ok;change _=eJ d ag.length ((bz Yi ag).drop ag.length) at he;rw[lC] at he;exact F6 (hK2 _ _ _ ⟨d,v,Z,hp,hS,lk,ok.mono hz,he⟩)
   case turn=>
    rintro j x I oI m n KT hj hx ⟨-,d,v,Z,hp,Wg,hS,lk,ok,he⟩ RV;obtain⟨tj,rfl⟩:=hx;change j<ag.length at hj;rw[jB hj,jm] at he;have SG:=hb (ag.getD j 0) (bi hj);have Vn:=iH SG.1 SG.2;obtain⟨x,Tl⟩:=hS.oc;obtain⟨tm,em⟩:=fQ QQ hj 0;obtain⟨td,ed⟩:=fQ RO (show j<Yi.length from xN hj hln) 0;refine Gd (hp.cons _) (Go ?_);clear hp;obtain⟨th,mh⟩:=lk.r;show Tr _ _ _ _ _ _;generalize PQ:(fun y=>if y=Yc "place" then some (Value.int (j:Nat) tj) else m y)=m1;revert m1;refine wrap ?_;intro m1 PQ;have QO:iZ ⟨L,TO,CL,HL,ME,MA,dl,ml⟩ d.Yl m1:=ae PQ ⟨lk.de,lk.mo,lk.c,lk.h,lk.e,lk.k,th,mh⟩;have pl1:m1 (Yc "place")=some (.int (j:Nat) tj):=ae PQ rfl;clear PQ lk mh;refine G8 (GE (f:=255) (fun J h=>Gz (by k_is) h) (by k_is) (Gg (FX QO.mo (FX pl1 (Gi (uR (hS.s.subset RF)) rfl em (by exact L2 [_,_] V1 (.n 100000) 1 V0 (.n 15) 1 V1 V0 rfl hz (eL Rq)) ((xY _ tm SG.1 SG.2).to (by show 3<=9;decide) fun v' hv=>?_))))));obtain⟨tc,rfl⟩:=hv;refine Hg (pre:=[_]) rfl rfl Tl (fun oc' WJ=>?_) rfl;have QB:qF d ⟨L,TO,CL,HL,ME,MA,dl,ml⟩ ⟨v.Yr,v.Yx,v.Yo,v.Yz,v.YM,v.c1,v.c2,v.c3,v.c4,v.c5,oc',v.ot⟩ Qp Z:=⟨hS.c,hS.h,hS.m,hS.k,hS.t,⟨_,WJ⟩,hS.ot,hS.s⟩;show Tr c E m1 ((I,oI)::dY ⟨L,TO,CL,HL,ME,MA,dl,ml⟩ ⟨v.Yr,v.Yx,v.Yo,v.Yz,v.YM,v.c1,v.c2,v.c3,v.c4,v.c5,oc',v.ot⟩ Z) _ _;obtain⟨v1,hv1,RT⟩:aM (fun(v1:yU)=>v1=⟨v.Yr,v.Yx,v.Yo,v.Yz,v.YM,v.c1,v.c2,v.c3,v.c4,v.c5,oc',v.ot⟩) (fun v1=>v1.oc.data=.cell (some (.int (bf (ag.getD j 0)) tc))):=⟨_,rfl,WJ⟩;rw[←hv1] at QB⊢;clear hv1 hS Tl WJ;generalize bf (ag.getD j 0)=code at he Vn RT;revert code;refine wrap ?_;intro code he Vn RT;clear SG em;obtain⟨th,mh⟩:=QO.r;have SA:=QB.c.length;have hhn:=QB.h.length;have hen:=QB.m.length;have Vt:=QB.k.length;have htn:=QB.t.len;have Va:=ok.hl;have okm:=ok.ml;have okc:=ok.cz;have okt:=ok.tz;have okk:=ok.kz;have ok0:=ok.h0;have VO:=ok.h1;refine Gk (Gb (Gg (FX QO.de (FX pl1 (Gi (uR (QB.s.subset Qy)) rfl ed (by exact L2 [_,_] V1 (.n 100000) 1 V0 (.n 100) 1 V1 V0 rfl hdz (eL SX)) (F7 fun u1=>GY (F9 ?_)))))));unfold DS.step at he
    by_cases h0:Yi.getD j 0=0
    ·refine aa (show (Yi.getD j 0==0)=true from by rw[h0];rfl) ?_
     rw[KW h0] at he;refine Ge (Ga (GJ (a:=L+1) rfl co QB.ot (Gj q6 NA NB (Gq (FZ (GA (FZ (FX mh (FZ (GJ (a:=L+2) rfl aJ RT (FY ⟨KA rfl,fun T=>FY (Gs (pre:=[_,_,_,_,_,_,_,_]) rfl (by lia) (Gd (List.Perm.swap _ _ _) (F6 (F6 (RV _ _ _ ⟨_,rfl,⟨_,_,_,_,rfl⟩,d.tell code,⟨v1.Yr,v1.Yx,v1.Yo,v1.Yz,v1.YM++[.ref T],v1.c1,v1.c2,v1.c3,v1.c4,v1.c5+1,v1.oc,v1.ot⟩,(T,_)::Z,(Ld (l₁:=[_,_,_,_,_,_,_])).symm, .tail _ Wg,⟨QB.c,QB.h,QB.m,QB.k,(QB.t.mono fun _ hp=> .tail _ hp).snoc (.head _),⟨_,RT⟩,QB.ot, .cons _ QB.s⟩,QO,ok.tell Vn,he⟩)))))⟩)))))))))))
    refine aa (show (Yi.getD j 0==0)=false from LL.mpr h0) ?_;rw[KM h0] at he;refine Gk (Tr.mono (K:=fun b m n=>b=decide (Yi.getD j 0=1/\0<d.Yl)/\m1=m/\n=(I,oI)::dY ⟨L,TO,CL,HL,ME,MA,dl,ml⟩ v1 Z) ?tst ?brs)
    case tst=>
     refine GR (Gy (Gb (Gg (FX QO.de (FX pl1 (Gi (uR (QB.s.subset Qy)) rfl ed (by exact L2 [_,_] V1 (.n 100000) 1 V0 (.n 100) 1 V1 V0 rfl hdz (eL SX)) (F7 fun u2=>GY (F9 ?_))))))))
     by_cases h1:Yi.getD j 0=1
     ·refine aa (show (Yi.getD j 0==1)=true from by rw[h1];rfl) ?_
      refine Gy (Gb (FX mh (F7 fun u3=>HC (F9 ?_))))
      by_cases h2:0<d.Yl
      ·exact aa (KV h2) (He ⟨(KV ⟨h1,h2⟩).symm,rfl,rfl⟩)
      ·exact aa (KY h2) ⟨(KY fun h=>h2 h.2).symm,rfl,rfl⟩
     ·exact aa (show (Yi.getD j 0==1)=false from LL.mpr h1) ⟨(KY fun h=>h1 h.1).symm,rfl,rfl⟩
    case brs=>
    rintro _ _ _ ⟨rfl,rfl,rfl⟩
    by_cases TF:Yi.getD j 0=1/\0<d.Yl
    ·refine aa (KV TF) ?_
     rw[KW TF] at he;obtain⟨tho,eho⟩:=fQ QB.h (show d.Yl.toNat<d.Ye.length by have:=TF.2;exact AT TF.2 VO Va) (-1);refine Ge (Ga (FX QO.k (Gj uQ NA NB (Gq (FZ (F8 (G6 fun u4=>FX mh (Hm fun u5=>FY (Gs (pre:=[_,_,_,_,_,_]) rfl (by lia) (Gf (Gg (FX QO.h (FX mh (Gi iu (by have:=TF.2;exact Fe TF.2) eho (by lia) (F6 (F6 (F6 (RV _ _ _ ⟨_,rfl,⟨_,_,_,_,rfl⟩,d.close,⟨v1.Yr,v1.Yx,v1.Yo,v1.Yz++[.int (-1-d.Yl) u5],v1.YM,v1.c1,v1.c2,v1.c3,v1.c4+1,v1.c5,v1.oc,v1.ot⟩,Z, .refl _,Wg,⟨QB.c,QB.h,QB.m,aH QB.k,QB.t,⟨_,RT⟩,QB.ot,QB.s⟩,⟨QO.de,QO.mo,QO.c,QO.h,QO.e,QO.k,_,rfl⟩,ok.close TF.2,he⟩))))))))))))))))))
    ·refine aa (KY TF) ?_
     rw[KM TF] at he;clear h0 TF ed u1 td;refine Gf (Gx (FZ (G6 fun u3=>FY ⟨KA rfl,fun M0=>?_⟩)));show Tr _ _ _ _ _ _;generalize PQ:(fun y=>if y=Yc "meant" then some (Value.ref M0) else m1 y)=m2;revert m2;refine wrap ?_;intro m2 PQ;have Rb:iZ ⟨L,TO,CL,HL,ME,MA,dl,ml⟩ d.Yl m2:=ae PQ ⟨QO.de,QO.mo,QO.c,QO.h,QO.e,QO.k,th,mh⟩;have pl2:m2 (Yc "place")=some (.int (j:Nat) tj):=ae PQ pl1;have me2:m2 (Yc "meant")=some (.ref M0):=ae PQ rfl;clear PQ QO pl1 mh;obtain⟨th,mh⟩:=Rb.r;refine Gu (GH (K₁:=fun fl m n=>fl=.next/\y9 (fun Z1 M ws k=>n.Perm ((I,oI)::dY ⟨L,TO,CL,HL,ME,MA,dl,ml⟩ v1 Z1)) (fun Z1 _ _ _=>(∀ p∈Z,p∈Z1)) (fun Z1 _ _ _=>Qp.Sublist Z1) (fun Z1 M ws k=>(M,lO ws k)∈Z1) (fun _ _ ws _=>IntsAre ws (d.meant j code)) (fun _ M _ _=>m (Yc "meant")=some (.ref M)) (fun _ _ _ _=>iZ ⟨L,TO,CL,HL,ME,MA,dl,ml⟩ d.Yl m)) ?sM ?sN)
     case sM=>
      intro K3 RU;refine GV (Tr.mono (K:=fun b m n=>b=decide (0<j/\8191<code/\eM code=true)/\m2=m/\aM (fun g=>n=g++((I,oI)::dY ⟨L,TO,CL,HL,ME,MA,dl,ml⟩ v1 Z)) (fun g=>(M0,listOf [.int (-1) u3].toArray 0)∈g)) ?tst ?brs)
      case tst=>
       refine GR (Gy (Gb (FX pl2 (F7 fun u4=>HC (F9 ?_)))))
       by_cases hp:(0:Int)<(j:Nat)
       ·refine aa (KV hp) ?_
        refine Gy (Gb (GJ (a:=L+2) rfl co RT (F7 fun u5=>HC (F9 ?_))))
        by_cases hc:8191<code
        ·refine aa (KV hc) ?_
         refine Gy (Gb (GN (by k_is) (by boot_fast) (by decide) (GU (GT (by k_is) (by boot_fast) (by decide) (F7 fun u6=>Hr fun rg2 ta ub zc=>⟨.range rg2 3 ta ub zc,fun q mC PL g=>g=[]/\IntsAre PL ((List.range q).map fun p=>(code.fdiv (16^p)).fmod 16),rfl, .inl (.head _),KA rfl,⟨rfl, .nil⟩,?turnP,?lastP⟩)))))
         case turnP=>
          rintro E' q x Q8 g2 I2 D2 C2 SI Rx RK SU Y N hq ⟨tq,rfl⟩ ⟨rfl,Rv⟩ xC hY hN;change q<3 at hq;have e8:(16:Int)^(q:Int).toNat≠0/\((16:Int)^(q:Int).toNat).natAbs<1073741824:=sm (P:=fun p=>(16:Int)^p.toNat≠0/\((16:Int)^p.toNat).natAbs<1073741824) (iW) (by lia) (by decide) (by decide) (by decide);refine GB (pre:=[_]) rfl xC fun Q7 Qx=>GI (F8 (F8 (GS (a:=L+2) (gM co) RT (F8 (F7 fun w1=>Gh aJ Qx rfl (H2 (iW) (by lia) (by decide) fun w2=>GF e8.1 e8.2 fun w3=>F7 fun w4=>GO (by decide) fun w5=>(hY _ _ _ ⟨rfl,Q7,_,[],Qx, .refl _,rfl,?_⟩)))))));exact aa (lJ _ _) (aH Rv)
         case lastP=>
          rintro D4 mC4 Vg g4 cD4 _ ⟨rfl,Tn⟩;change IntsAre Vg ((List.range 3).map _) at Tn;refine IX (.head _) Tn (by show 0<3;decide) fun M tM h1 h2=>F7 fun u7=>HC (F9 ?_);have ho:decide (12<M)=eM code:=by
           unfold eM;rw[MY];simp only[List.all_eq_true,MH]
           constructor
           ·exact fun h p hp=>LR h (h2 _ (KU hp))
           ·intro h
            obtain⟨p,hp,rfl⟩:=KI.mp h1;exact h p hp
          refine aa ho ?_
          by_cases ho2:eM code=true
          ·refine aa ho2 ?_
           exact He ⟨(KV ⟨by lia,hc,rfl⟩).symm,rfl,[_,_,_],rfl,co⟩
          ·exact aa (Bool.not_eq_true _|>.mp ho2) ⟨(KY fun h=>KP h.2.2).symm,rfl,[_,_,_],rfl,co⟩
        ·exact aa (KY hc) ⟨(KY fun h=>hc h.2.1).symm,rfl,[_],rfl, .head _⟩
       ·refine aa (KY hp) ?_
        exact⟨(KY fun h=>hp (xR h.1)).symm,rfl,[_],rfl, .head _⟩
      case brs=>
       rintro _ _ _ ⟨rfl,rfl,g,rfl,hg⟩
       by_cases hc:0<j/\8191<code/\eM code=true
       ·refine aa (KV hc) ?_
        have Vz:d.meant j code=(aj d.Ye d.Yl).flatMap fun s=>bA d.Yy s code:=KW hc;rw[Vz] at RU;clear Vz hc he;refine Gd wU ?_;have SQ:=dF ok.hh (d.Ye.length+1) d.Yl ok0 (pY VO Va);refine Gf (G2 (f:=269) (fun J h=>Gz (by k_is) h) (by k_is) (FZ (FX Rb.h (FZ (FX mh (FY (HW iu QB.h ok.hh (by lia) ok0 (pY VO Va) (by show 3<=9;decide) fun C R9 kC hC=>?_)))))));change (aj d.Ye d.Yl).length<=_ at SQ;have hCn:=hC.length;refine Jt (FX rfl ⟨.list C R9 kC,fun q mC PL g=>g=[]/\IntsAre PL (((aj d.Ye d.Yl).take q).flatMap fun s=>bA d.Yy s code),rfl, .inl (.head _),by show R9.length<=90;lia,⟨rfl, .nil⟩,?turnA,?lastA⟩)
        case lastA=>
         rintro Da mC ST gA cDa ⟨rfl,VG⟩;rw[show dv.N (.list C R9 kC)=(aj d.Ye d.Yl).length from hCn,Lk] at VG;exact F6 (RU _ _ _ ⟨rfl,[(Da,_),(C,_)]++(g++Z),Da,ST,cDa,wU (g:=[(Da,_),(C,_)]),fun p hp=>Kz _ (Kz _ hp),(QB.s.trans (Ly _ _)).trans (Ly _ _), .head _,VG,rfl,⟨Rb.de,Rb.mo,Rb.c,Rb.h,Rb.e,Rb.k,th,mh⟩⟩)
        case turnA=>
         rintro E' j2 x Q8 g2 I2 D2 C2 SI Rx RK SU hj3 hx ⟨rfl,Rv⟩ xC;obtain⟨S0,to,rfl⟩:=bW hC hx;have Ql:=bC _ S0;have Tm:((aj d.Ye d.Yl).take (j2+1)).flatMap (fun s=>bA d.Yy s code)=((aj d.Ye d.Yl).take j2).flatMap (fun s=>bA d.Yy s code)++bA d.Yy ((aj d.Ye d.Yl).getD j2 0) code:=by refine aa Ql (aa N8 ?_);simp
         generalize (aj d.Ye d.Yl).getD j2 0=o at Tm⊢;revert o;refine wrap ?_;intro o Tm;refine GB (pre:=[_]) rfl xC fun Q7 Qx=>GS (a:=L+1) (gM co) QB.ot ⟨rfl, .list TO v1.YM v1.c5,fun q mC PL g=>(g=[]/\mC (Yc "spot")=some (.int o to))/\IntsAre PL (((aj d.Ye d.Yl).take j2).flatMap (fun s=>bA d.Yy s code)++bA (d.Yy.take q) o code),Q7,_,[],rfl,Qx, .refl _, .inl Am,by show v1.YM.length<=1000;lia,⟨⟨rfl,rfl⟩,by refine aa List.take_zero ?_;show IntsAre Q8 (_++[]);refine aa (Lh _) ?_;exact Rv⟩,?turnB,?lastB⟩
         case lastB=>
          rintro mC Wv g ⟨⟨rfl,-⟩,hi⟩;rw[show dv.N (.list TO v1.YM v1.c5)=d.Yy.length from htn,Lk] at hi;refine⟨rfl,?_⟩;exact aa Tm hi
         case turnB=>
          rintro E3 q x Wv g3 I3 D3 C3 oI3 oC3 mC3 cD3 Y N hq hx ⟨⟨rfl,hsp⟩,TQ⟩ Vc hY hN;obtain⟨ta,x1,y1,tx,ty,rfl,hta,S6⟩:=QB.t.at hx;have To:=qB (s:=o) (code:=code) S6;refine Hp (.inl (gM (dj (uO (Kz _ hta))))) (GB (pre:=[_]) rfl Vc fun oC4 xC4=>GB (pre:=[_]) rfl xC4 fun oC5 Ta=>HR (GR (Gy (Gb (Gh aJ Ta rfl (Gh aJ Ta hsp (GY (F9 ?tb))))))))
          case tb=>
           by_cases h1:x1=o
           ·refine aa (Mx.mpr h1) ?_
            refine Gy (Gb (F8 (Gh aJ Ta rfl (F7 fun w1=>GF (by decide) (by decide) fun w2=>F8 (GS (a:=L+2) (gM co) RT (F7 fun w3=>GF (by decide) (by decide) fun w4=>GY (F9 ?_)))))))
            by_cases h2:y1.fdiv 4096=code.fdiv 4096
            ·refine aa (Mx.mpr h2) ?_
             refine He (Gh aJ Ta rfl (hY _ _ _ ⟨rfl,oC5,_,[],Ta, .refl _,⟨rfl,hsp⟩,?_⟩));refine aa To (aa (KW (by rw[Mx.mpr h1,Mx.mpr h2];rfl)) (ae (KQ _ _ _) ?_));exact aH TQ
            ·refine aa (LL.mpr h2) ?_
             refine hN _ _ ⟨rfl,oC5,_,[],Ta, .refl _,⟨rfl,hsp⟩,?_⟩;refine aa To (aa (KM (by rw[LL.mpr h2,Bool.and_false];exact KP)) (aa (Lh _) ?_));exact TQ
           ·refine aa (LL.mpr h1) ?_
            refine hN _ _ ⟨rfl,oC5,_,[],Ta, .refl _,⟨rfl,hsp⟩,?_⟩;refine aa To (aa (KM (by rw[LL.mpr h1];exact KP)) (aa (Lh _) ?_));exact TQ
       ·refine aa (KY hc) ?_
        exact F6 (RU _ _ _ ⟨rfl,g++Z,M0,[.int (-1) u3],0,wU,fun p hp=>Kz _ hp,QB.s.trans (Ly _ _),Ky _ hg,by refine aa (show d.meant j code=[-1] from KM hc) ?_;exact .cons _ _ .nil,me2,Rb⟩)
     case sN=>
      rintro _ m n ⟨rfl,Z1,M,ws,k,hp,hZ1,VF,hM,U4,me,Qd⟩;refine Gd hp ?_;have QL:qF d ⟨L,TO,CL,HL,ME,MA,dl,ml⟩ v1 Qp Z1:=⟨QB.c,QB.h,QB.m,QB.k,QB.t.mono hZ1,QB.oc,QB.ot,VF⟩;have W4:=hZ1 _ Wg;have SG:∀ x∈d.meant j code,-1<=x/\x<32768:=fun x=>yt ok;have hme:=uN ok (by exact L2 [_,_] V1 (.n 15) 1 V0 (.n 15) 1 (.a V1 W1) V0 rfl hz hj) j code;clear hp hZ1 VF QB Wg me2 pl2 Rb mh;obtain⟨th,mh⟩:=Qd.r;refine Gk (Gb (FX me (Gx (FY ⟨K0 _,fun N=>JT (dj (uO hM)) (.head _) (F9 ?_)⟩))));generalize d.meant j code=mt at U4 he SG hme;revert mt;refine wrap ?_;intro mt U4 he SG hme;have hwn:=U4.length
      cases U4 with
      |nil=>
       change dZ Yi ag=(d.text,bT code) at he;have hr:=gY code;have hn:=jt hr;refine Gf (GE (f:=236) (fun J h=>Gz (by k_is) h) (by k_is) (GE (f:=262) (fun J h=>Gz (by k_is) h) (by k_is) (GJ (a:=L+2) rfl co RT ((oF code tc Vn.1 Vn.2).to (by show 3<=9;decide) fun v hv=>?_))));obtain⟨v6,rfl⟩:=hv;refine(oD (ac code) v6 (bd (eL hr))).to (by show 2<=9;decide) fun v hv=>?_;obtain⟨v7,rfl⟩:=hv;have hw:bT code=Yc "Prefix "++Txt.slice (av (ac code)) none (some 4)++Yc " of QName \""++av (ac code)++Yc "\" is not declared in scope":=rfl;generalize av (ac code)=Ux at hn hw⊢;revert Ux;refine wrap ?_;intro Ux hn hw;have QM:=LY Ux none (some 4);refine Gf (F8 (F8 (F8 (F8 (Gc fun w1=>HO (FX rfl ⟨_,_,rfl,bd hn,fun w2=>Gm (KA rfl) ?n1 fun w3=>Gc fun w4=>Gm ?n2 (KA rfl) fun w5=>FX rfl (Gm ?n3 ?n4 fun w6=>Gc fun w7=>Gm ?n5 (KA rfl) fun w8=>?n6)⟩))))))
       case n1=>exact L2 [_,_] V1 (.n 1000000) 1 V0 (.n 24) 1 V1 V0 rfl hn QM
       case n2=>refine aa (KB _ _) ?_;show 7+_<=_;exact L2 [_,_] (.a (.n 7) V1) (.n 1000000) 1 V0 (.n 24) 1 V1 V0 rfl hn QM
       case n3=>(refine aa (KB _ _) ?_;rw[KB]);show 7+_+11<=_;exact L2 [_,_] (.a (.a (.n 7) V1) (.n 11)) (.n 1000000) 1 V0 (.n 24) 1 V1 V0 rfl hn QM
       case n4=>exact bd hn
       case n5=>(refine aa (KB _ _) ?_;rw[KB,KB]);show 7+_+11+_<=_;exact L2 [_,_] (.a (.a (.a (.n 7) V1) (.n 11)) V0) (.n 1000000) 2 V0 (.n 24) 1 V1 V0 rfl hn QM
       case n6=>
        refine ae hw ?_;refine GM (GA (FZ (G2 (f:=274) (fun J h=>Gz (by k_is) h) (by k_is) (FZ (FX Qd.c (FZ (FX Qd.h (FZ (FX Qd.e (FZ (FX Qd.k (FY (H3 (pre:=[_,_]) (.refl _) QL ok (by exact L2 [_,_] V1 (.n 30) 1 V0 (.n 15) 1 (.a V1 W1) V0 rfl hz hj) (by show 8<=9;decide) fun tt=>FZ (FX rfl (FY ⟨KA rfl,fun T=>RV _ _ _<|hK2 _ _ _ ⟨_, .cons₂ _ (.cons _ (.cons _ (.cons _ (.cons _ (.cons _ (.cons _ (.cons _ (.cons _ (.cons _ QL.s))))))))),T,tt,w8,rfl,by exact aa he rfl⟩⟩)))))))))))))))
      |cons i ti U4=>
       change dZ Yi ag=eJ (d.add code i) (j+1) ((bz Yi ag).drop (j+1)) at he;have hib:=SG i (.head _);clear SG;have lc:∀ (vs:X8) (x:Value),vs.length<=100->(vs++[x]).length<=100000:=fun vs x h=>aa KH (KF (Ms h) (by decide));refine F6 (Ge (Ga (FX Qd.c (Gj iu NA NB (Gq (FZ (GJ (a:=L+2) rfl co RT (FY (Gs (pre:=[_,_,_,_]) rfl (by lia) ?_)))))))));refine Ge (Ga (FX Qd.h (Gj qZ NA NB (Gq (FZ (FX mh (FY (Gs (pre:=[_,_,_,_,_]) rfl (by lia) ?_))))))));refine Ge (Ga (FX Qd.e (Gj uQ NA NB (Gq (FZ (Gg (FX me (F7 fun w1=>Gi (j:=0) (Eo hM) rfl rfl (KF (Md hwn) (KF hme (by decide))) (FY (Gs (pre:=[_,_,_,_,_,_]) rfl (by lia) ?_))))))))));have e2:(v1.Yr++[Value.int code tc]).length=d.Yd.length+1:=aa KH (aa SA rfl);have e1:(((v1.Yr++[Value.int code tc]).length:Nat):Int)-1=(d.Yd.length:Int):=by refine aa e2 ?_;exact tY
       refine Ge (Ga (FX Qd.k (Gj q6 NA NB (Gq (FZ (F8 (GN (by k_is) (by boot_fast) (by decide) (FX Qd.c (G9 iu (lc _ _ (by lia)) fun w2=>F7 fun w3=>Hm fun w4=>FY (Gs (pre:=[_,_,_,_,_,_,_]) rfl (by lia) ?_))))))))));refine aa e1 ?_;refine Gk (Gb (F8 (GJ (a:=L+2) rfl co RT (F7 fun w5=>GF (by decide) (by decide) fun w6=>F7 fun w7=>GY (F9 ?_)))))
       by_cases h4:code.fdiv 4096=4
       ·refine aa (Mx.mpr h4) ?_
        have hk4:(d.add code i).marks=d.marks++[(d.Yd.length:Int)]:=by show _++(if _ then _ else _)=_;exact aa (KW h4) (aa (Lh _) rfl)
        have hh4:(d.add code i).Yl=(d.Yd.length:Int):=KW h4;refine Gf (F8 (GN (by k_is) (by boot_fast) (by decide) (FX Qd.c (G9 iu (lc _ _ (by lia)) fun w8=>F7 fun w9=>Hm fun wa=>?_))));refine aa e1 ?_;exact Gd (List.Perm.swap _ _ _) (F6 (F6 (F6 (F6 (RV _ _ _ ⟨_,rfl,⟨_,_,_,_,rfl⟩,d.add code i,⟨v1.Yr++[.int code tc],v1.Yx++[.int d.Yl th],v1.Yo++[.int i ti],v1.Yz++[.int d.Yd.length w4],v1.YM,v1.c1+1,v1.c2+1,v1.c3+1,v1.c4+1,v1.c5,v1.oc,v1.ot⟩,(N,_)::Z1,(Ld (l₁:=[_,_,_,_,_,_,_])).symm, .tail _ W4,⟨aH QL.c,aH QL.h,aH QL.m,by refine aa hk4 ?_;exact aH QL.k,QL.t.mono fun _ hp=> .tail _ hp,⟨_,RT⟩,QL.ot, .cons _ QL.s⟩,by refine aa hh4 ?_;exact⟨Qd.de,Qd.mo,Qd.c,Qd.h,Qd.e,Qd.k,wa,rfl⟩,ok.add Vn hib,he⟩)))))
       ·refine aa (LL.mpr h4) ?_
        have hk4:(d.add code i).marks=(d.marks++[(d.Yd.length:Int)])++[-((d.Yd.length+1:Nat):Int)]:=by show _++(if _ then _ else _)=_;exact aa (KM h4) rfl
        have hh4:(d.add code i).Yl=d.Yl:=KM h4;refine Ge (Ga (FX Qd.k (Gj q6 NA NB (Gq (FZ (Ku (GN (by k_is) (by boot_fast) (by decide) (FX Qd.c (G9 iu (lc _ _ (by lia)) fun w8=>⟨_,_,rfl,fun w9=>FY (Gs (pre:=[_,_,_,_,_,_,_]) rfl (lc _ _ (by lia)) ?_)⟩)))))))));refine aa e2 ?_;exact Gd (List.Perm.swap _ _ _) (F6 (F6 (F6 (F6 (RV _ _ _ ⟨_,rfl,⟨_,_,_,_,rfl⟩,d.add code i,⟨v1.Yr++[.int code tc],v1.Yx++[.int d.Yl th],v1.Yo++[.int i ti],(v1.Yz++[.int d.Yd.length w4])++[.int (-((d.Yd.length+1:Nat):Int)) w9],v1.YM,v1.c1+1,v1.c2+1,v1.c3+1,v1.c4+1+1,v1.c5,v1.oc,v1.ot⟩,(N,_)::Z1,(Ld (l₁:=[_,_,_,_,_,_,_])).symm, .tail _ W4,⟨aH QL.c,aH QL.h,aH QL.m,by refine aa hk4 ?_;exact aH (aH QL.k),QL.t.mono fun _ hp=> .tail _ hp,⟨_,RT⟩,QL.ot, .cons _ QL.s⟩,by refine aa hh4 ?_;exact⟨Qd.de,Qd.mo,Qd.c,Qd.h,Qd.e,Qd.k,th,mh⟩,ok.add Vn hib,he⟩)))))
theorem go:Q Yi ag aR Yo dl ml kd km:=fun RO QQ hln hz hdz hb=>B.2 (cT (P:=B.1) (zZ RO QQ hln hz hdz hb))
end DUk
theorem A8(Yi ag:X9)(aR Yo:X8)(dl ml kd km:Nat):DUk.Q Yi ag aR Yo dl ml kd km:=cT (P:=DUk.P_) DUk.go (((Yi,ag),(aR,Yo)),((dl,ml),(kd,km)))
section
variable{c:Fx}{E:X6}{m:X5}{n:X4}{J:ad Value}{env:Env}
theorem ax.list{s:Shared}(l:ax c s m n){a:Addr}{its:Array Value}(hm:c.h₀.IsList a its):s.heap.IsList a its:=by
 obtain⟨o,e,r⟩:=hm;exact⟨o,l.F.keep _ _ e,r⟩
theorem Ki{o:X7}{j:Nat}{kk:Nat}{pc ps p:Pos}(h:Tr c E m n (eval o env) fun v m' n'=>ru (fun(l:Nat) (vs:X8)=>v=.ref l) (fun l vs=>c.h₀.IsList l vs.toArray) (fun _ vs=>vs.length<=1000) (fun _ vs=>∀ D:Nat,J (.ref D) m' ((D,lO (vs.take j) 0)::n')))
  (hs:∀ l r,subscripted (.Slice none (some (.Constant (.int (j:Int)) kk pc)) none ps) false (.ref l) (.ref r)=operate [.ref r, .ref l] (getItem (.ref l) (.ref r)):=by intro l r;with_unfolding_all rfl) (ht:∀ l r,letTemporaryGo o (.ref l) r=Pure.pure ():=by intro _ _;with_unfolding_all rfl):
  Tr c E m n (eval (.Subscript o (.Slice none (some (.Constant (.int (j:Int)) kk pc)) none ps) p) env) J:= .mk fun s l=>
 Oa (up (h.go s l) fun v s1 hv=>wpAny_Slice (by
  obtain⟨m',n',l1,a,vs,e,hm,hz,q⟩:=hv;subst e;refine KC (Nd (k:=kk) (pos:=pc) (KC ?_));refine slice_list (s:={s1 with toks:=_}) l1.F l1.N (l1.list hm) .none (.int _ _) (fun h' F' N'=>?_) (hs a _) (ht a) (by refine aa Lf (aa Lu ?_);exact bd hz);rw[slicePick_upto'] at N';exact⟨m',_,l1.to F' N' (l1.D.fresh fun p hp=>LG (KO (l1.N p hp).1)) l1.G rfl,q _⟩))
theorem Kn{a:Addr}{vs:X8}{ns:X9}(hm:c.h₀.IsList a vs.toArray)(hi:IntsAre vs ns)(h:∀ t,J (.int ns.sum t) m n):Tr c E m n (call (.builtin "sum") [.ref a]) J:= .mk fun s l=>
 LSm.sum_ints l.F l.N rfl (l.list hm) hi fun h' tk t F N=>⟨m,n,l.to F N l.D l.G rfl,h t⟩
inductive j1:List X7->X9->Prop
 |nil:j1 [] []
 |cons {i:Int} {k:Nat} {p:Pos} {r:List X7} {is:X9} (h:j1 r is):j1 (.Constant (.int i) k p::r) (i::is)
theorem JK{c:Fx}{E:X6}{m:X5}{n:X4}{env:Env}{p:Pos}{es:List X7}{is:X9}(h:j1 es is):∀ {K:ad X8},(∀ vs,IntsAre vs is->K vs m n)->Tr c E m n (spliced (backTo p (starEach es env))) K:=by
 induction h with
 |nil=>intro K k;exact FY (k [] .nil)
 |cons h ih=>intro K k;exact FZ (F7 fun t=>ih fun vs hv=>k (.int _ t::vs) (.cons _ _ hv))
theorem JW{c:Fx}{E:X6}{m:X5}{n:X4}{K:ad Flow}{es:List X7}{is:X9}{vs:X8}{j:Nat}{r:Yb}{x y:Str}{p' pl py pc ps psb pb pa:Pos}{kk:Nat}{l:Addr}{p0:Sem Flow}
  (hp:p0=execs (.Assign [.Name x p'] (.BinOp (.List es pl) .Add (.Subscript (.Name y py) (.Slice none (some (.Constant (.int (j:Int)) kk pc)) none ps) psb) pb) pa::r) c.env)
  (he:j1 es is) (hi:is.length<=100) (hy:m y=some (.ref l)) (hl:c.h₀.IsList l vs.toArray) (hz:vs.length<=1000)
  (h:∀ (D1 D2 D3:Nat) ws k1,IntsAre ws is->Tr c E (fun y=>if y=x then some (.ref D3) else m y) ((D3,lO (ws++vs.take j) 0)::(D2,lO (vs.take j) 0)::(D1,lO ws k1)::n) (execs r c.env) K)
  (Rw:swapsWith (.BinOp (.List es pl) .Add (.Subscript (.Name y py) (.Slice none (some (.Constant (.int (j:Int)) kk pc)) none ps) psb) pb) (some (.Name x p')) pa.line c.env=Pure.pure false:=by rfl)
  (hx:c.env.kindOf x=some .local:=by rfl) (hyk:c.env.kindOf y=some .local:=by rfl) (hd:(y==("__debug__":Str))=false:=by decide):Tr c E m n p0 K:=by
 subst hp;refine Gf (F8 (Gx (JK he fun ws hw=>⟨?_,fun D1=>Ki (FX hy ⟨l,vs,rfl,hl,hz,fun D2=>H5 aJ (.head _) ?_ fun D3=>h D1 D2 D3 ws 0 hw⟩ hyk hd)⟩))) hx Rw
 ·exact KF (Md hw.length) (KF hi (by decide))
 ·refine KF (Ny (KF (Md hw.length) hi) (KF (List.length_take_le' _ _) hz)) (by decide:100+1000<=100000)
noncomputable def Cj:X9:=[43024,39940,147379,49074,35056,49075,49104,386930,47527]
def bh(ns:X9):X9:=Cj++ns.take 5
end
def cu(ns:X9):X9:=2::(bh ns).map fun n=>n.fmod 4
def aV(ns:X9):X9:=(16384+(1023+ns.sum).fmod 4096)::(bh ns).map fun n=>eZ (n.fdiv 4)
theorem jy(ns:X9):9<=(bh ns).length/\(bh ns).length<=14:=by
 unfold bh;refine aa KH (aa Mr ?_);show 9<=9+_/\9+_<=14
 lia
theorem Ac{p0:Sem Flow}{h₀:Heap}{L a l:Nat}{ccd:Value}{os:OsState}{E:X6}{vs:X8}{ns:X9}(hl:h₀.IsList l vs.toArray)(hv:IntsAre vs ns)(hn:ns.length<=63)
  (hb:∀ y∈aV ns,0<=y/\y<65536) (Sp:∀ y∈aV ns,(aO y).length<=100) (hT:ke ((aV ns).map aO) (cu ns) (aV ns)) (Vv:dB ((aV ns).map aO) (cu ns) (aV ns)=dZ (cu ns) (aV ns)):
  let c:Fx:=⟨callerA,h₀,16,2+claimMargin,7,some [],eY.1.1.name,eY.1.1.scope,L,a,ccd,[],[],h₀,os,#[]⟩
  p0=execs eY.1.1.body c.env->Tr c E (fun x=>[(Yc "script",Value.ref l)].reverse.lookup x) [(123,tabObj #[])] p0 fun fl m n=>fl=.ret (.bool true)/\∃ tb,(123,tabObj tb)∈n:=by
 intro c hp;have hvn:=hv.length;refine JW hp (.cons (.cons (.cons (.cons (.cons (.cons (.cons (.cons (.cons .nil))))))))) (by decide) rfl hl (by exact L2 [_,_] V1 (.n 1000) 1 V0 (.n 63) 1 V1 V0 rfl hn (eL hvn)) fun D1 D2 D3 ws k1 hw=>?_;have VA:IntsAre (ws++vs.take 5) (bh ns):=hw.append (hv.take 5);generalize ws++vs.take 5=Rd at VA⊢;revert Rd;refine wrap ?_;intro Rd VA;show Tr _ _ _ _ _ _;generalize PQ:(fun y=>if y=Yc "numbers" then some (Value.ref D3) else _)=m1;revert m1;refine wrap ?_;intro m1 PQ;have sc1:m1 (Yc "script")=some (.ref l):=ae PQ rfl;have nu1:m1 (Yc "numbers")=some (.ref D3):=ae PQ rfl;clear PQ;refine IH [0,3] (by decide) ?_;show Tr c E m1 [(D3,lO Rd 0),(123,tabObj #[])] _ _;have Qs:=VA.length;have S4:=jy ns;refine Gf (F8 (Gx (FZ (F7 fun u1=>FY ⟨KA rfl,fun D4=>GU (FX nu1 ⟨.list D3 Rd 0,fun q mC PL g=>g=[]/\IntsAre PL (((bh ns).take q).map fun n=>n.fmod 4),rfl, .inl aJ,by show Rd.length<=1000;exact L3 [_,_] V0 (.n 1000) 3 V0 V1 2 V1 V0 1 V1 (.n 14) rfl (eL Qs) (eG Qs) S4.2,⟨rfl, .nil⟩,?YI,?last1⟩)⟩))))
 case YI=>
  rintro E' q x Q8 g2 I2 D2 C2 SI Rx RK SU Y N hq hx ⟨rfl,Rv⟩ xC hY hN;obtain⟨S0,to,rfl⟩:=bW VA hx;have Ql:=bC _ S0;generalize (bh ns).getD q 0=o at Ql⊢;revert o;refine wrap ?_;intro o Ql;refine GB (pre:=[_]) rfl xC fun Q7 Qx=>GI (F8 (Gh aJ Qx rfl (F7 fun w1=>GO (by decide) fun w2=>(hY _ _ _ ⟨rfl,Q7,_,[],Qx, .refl _,rfl,?_⟩))));exact aa Ql (aa KN (aH Rv))
 case last1=>
  rintro D5 mC PL g cD _ ⟨rfl,hs⟩;rw[show dv.N (.list D3 Rd 0)=(bh ns).length from Qs,Lk] at hs;have To:=hs.length;rw[KE] at To;refine H5 aJ (.head _) (by show 1+PL.length<=100000;exact L2 [_,_] (.a W1 V1) (.n 100000) 1 V0 (.n 14) 1 V1 V0 rfl S4.2 (eL To)) fun dl=>?_;have RO:IntsAre ([Value.int 2 u1]++PL) (cu ns):= .cons _ _ hs;generalize [Value.int 2 u1]++PL=aR at RO⊢;revert aR;refine wrap ?_;intro aR RO;show Tr _ _ _ _ _ _;generalize PQ:(fun y=>if y=Yc "deeds" then some (Value.ref dl) else m1 y)=m2;revert m2;refine wrap ?_;intro m2 PQ;have sc2:m2 (Yc "script")=some (.ref l):=ae PQ sc1;have nu2:m2 (Yc "numbers")=some (.ref D3):=ae PQ nu1;have de2:m2 (Yc "deeds")=some (.ref dl):=ae PQ rfl;clear PQ sc1 nu1;refine IH [0,3,4] (by decide) ?_;show Tr c E m2 [(dl,lO aR 0),(D3,lO Rd 0),(123,tabObj #[])] _ _;refine Gf (F8 (Gx (FZ (F8 (F7 fun v1=>F8 (F8 (F7 fun v2=>GN (by k_is) (by boot_fast) (by decide) (FX sc2 (Kn hl hv fun v3=>Hd fun v4=>F7 fun v5=>GO (by decide) fun v6=>Hd fun v7=>FY ⟨KA rfl,fun D6=>GU (FX nu2 ⟨.list D3 Rd 0,fun q mC PL g=>g=[]/\IntsAre PL (((bh ns).take q).map fun n=>eZ (n.fdiv 4)),rfl, .inl co,by show Rd.length<=1000;exact L3 [_,_] V0 (.n 1000) 3 V0 V1 2 V1 V0 1 V1 (.n 14) rfl (eL Qs) (eG Qs) S4.2,⟨rfl, .nil⟩,?YG,?last2⟩)⟩)))))))))
  case YG=>
   rintro E' q x Q8 g2 I2 D2 C2 SI Rx RK SU Y N hq hx ⟨rfl,Rv⟩ xC hY hN;obtain⟨S0,to,rfl⟩:=bW VA hx;have Ql:=bC _ S0;generalize (bh ns).getD q 0=o at Ql⊢;revert o;refine wrap ?_;intro o Ql;refine GB (pre:=[_]) rfl xC fun Q7 Qx=>GI (GE (f:=229) (fun J h=>H7 (by k_is) h) (by k_is) (F8 (Gh aJ Qx rfl (F7 fun w1=>GF (by decide) (by decide) fun w2=>(zK _ w2).to (by show 3<=16;decide) fun v hv=>?_))));obtain⟨w3,rfl⟩:=hv;refine hY _ _ _ ⟨rfl,Q7,_,[],Qx, .refl _,rfl,?_⟩;exact aa Ql (aa KN (aH Rv))
  case last2=>
   rintro D7 mC PL g cD _ ⟨rfl,hs⟩;rw[show dv.N (.list D3 Rd 0)=(bh ns).length from Qs,Lk] at hs;have To:=hs.length;rw[KE] at To;refine H5 aJ (.head _) (by show 1+PL.length<=100000;exact L2 [_,_] (.a W1 V1) (.n 100000) 1 V0 (.n 14) 1 V1 V0 rfl S4.2 (eL To)) fun ml=>?_;have QQ:IntsAre ([Value.int (16384+(1023+ns.sum).fmod 4096) v7]++PL) (aV ns):= .cons _ _ hs;generalize [Value.int (16384+(1023+ns.sum).fmod 4096) v7]++PL=Yo at QQ⊢;revert Yo;refine wrap ?_;intro Yo QQ;show Tr _ _ _ _ _ _;generalize PQ:(fun y=>if y=Yc "modes" then some (Value.ref ml) else m2 y)=m3;revert m3;refine wrap ?_;intro m3 PQ;have de3:m3 (Yc "deeds")=some (.ref dl):=ae PQ de2;have mo3:m3 (Yc "modes")=some (.ref ml):=ae PQ rfl;clear PQ de2 sc2 nu2;have SX:(cu ns).length=(bh ns).length+1:=by unfold cu;exact aa Lc (aa (KE _) rfl)
   have Rq:(aV ns).length=(bh ns).length+1:=by unfold aV;exact aa Lc (aa (KE _) rfl)
   refine GM (IB (G2 (f:=248) (fun J h=>Gz (by k_is) h) (by k_is) (FZ (FX de3 (FZ (FX mo3 (FY ?Yy)))))))
   case Yy=>
    refine IH [3,0,5] (by decide) ?_;refine zO callerA h₀ 15 (2+claimMargin) 7 (some []) eY.1.1.name eY.1.1.scope L a ccd os E m3 _ (cu ns) (aV ns) aR Yo 0 0 dl ml (by decide) RO QQ (by lia) (by exact L3 [_,_] (.n 2) V1 2 (.n 9) V0 1 V0 (.n 14) 1 (.a V0 W1) V1 rfl S4.1 S4.2 (eG Rq)) Sp hT fun T t1 t2 tb=>?_;refine G2 (f:=279) (fun J h=>Gz (by k_is) h) (by k_is) (FZ (FX de3 (FZ (FX mo3 (FY ?due)))));refine Gd (n':=[(dl,lO aR 0),(ml,lO Yo 0)]++[_,_]) (LU (l₁:=[_,_]) (l₂:=[(dl,lO aR 0),(ml,lO Yo 0)])) ((A8 (cu ns) (aV ns) aR Yo dl ml 0 0 RO QQ (by exact L2 [_,_,_] V2 V0 1 (.a V1 W1) V0 1 V2 (.a V1 W1) rfl (eG SX) (eL Rq)) (by exact L2 [_,_] V1 (.n 15) 1 V0 (.n 14) 1 V1 (.a V0 W1) rfl S4.2 (eL Rq)) (by exact L2 [_,_] V1 (.n 100) 1 V0 (.n 14) 1 V1 (.a V0 W1) rfl S4.2 (eL SX)) hb).to c E m3 _ _ (by show 10<=16;decide) ?_ dC.no);rintro v n' ⟨T2,t3,t4,rfl,rfl⟩;refine Jb ir (.head _) ⟨?_,tb,iu⟩;refine aa Vv ?_;simp
theorem yB{VV:List (Addr×Addr)}{h₁ h':Heap}(hT:TabsAt VV h₁)(keep:∀ b o,(ghostOf h₁ VV).get? b=some o->h'.get? b=some o)(hg:∀ q∈VV,∃ ps,h'.get? q.2=some (tabObj ps)):OldK h₁ h':=by
 constructor
 ·intro b o e
  by_cases hb:b∈VV.map (·.2)
  ·obtain⟨q,hq,rfl⟩:=KI.mp hb
   obtain⟨ps,hp⟩:=hg q hq;have e2:=(hT q hq).2;rw[e] at e2
   cases e2;exact .inr (.inl ⟨((hT q hq).1.tab (hT q hq).2).isCodeTable,rfl,#[],ps,rfl,by refine aa Array.empty_append ?_;exact hp⟩)
  ·exact .inl (keep b o (ghost_ne e hb))
 ·intro b o e
  by_cases hb:b∈VV.map (·.2)
  ·obtain⟨q,hq,rfl⟩:=KI.mp hb
   obtain⟨ps,hp⟩:=hg q hq;exact⟨_,hp⟩
  ·exact⟨o,keep b o (ghost_ne e hb)⟩
structure rD(ns:X9):Prop where
 b:∀ y∈aV ns,0<=y/\y<65536
 r:∀ y∈aV ns,(aO y).length<=100
 t:ke ((aV ns).map aO) (cu ns) (aV ns)
 e:dB ((aV ns).map aO) (cu ns) (aV ns)=dZ (cu ns) (aV ns)
theorem Bb(Vv:∀ ns:X9,rD ns):qw.1 w:=by
 intro Qq PZ mg mb G Y fa o pm cd doc dV kV ho hd QZ hD hmg hg args Q4 as QW hlay hrd hwl Qr;have KX:(am w.params).In PZ.heap:=Y.1;have hT:TabsAt [(125,123)] PZ.heap:=KS.mpr ⟨⟨codeHd_of_K (c:=125) (P:=123) KX (by kernel_rfl),Y.2 123 (.head _)⟩,fun _ h=>nomatch h⟩;refine Ground.open G ?_;intro T B D TE TW;clear D TE TW hmg G
 wrow_args QW hlay hrd hwl Qr
 rename List Int=>ns;rename IntsAre _ _=>hv;rename Heap.IsList _ _ _=>hL;rename¬_<_=>QI;refine enter_call ?_
 w_top on
 w_call any ho hd QZ hD T F
 rename Fr _ _ _ _=>F;rename News _ _ _ _=>N0;have X':=ghost_K hT KX (by kernel_rfl);have T':=ghost_top hT T;have N':=ghost_news hT F N0;have F':=ghost_fr hT F;have hL':=ghost_list hT hL;have ok:=Vv ns;obtain⟨p0,S5⟩:∃ p0:Env->Sem Flow,∀ env,p0 env=execs eY.1.1.body env:=⟨_,fun _=>rfl⟩;rw[←S5];refine K7 ((Ac hL' hv (by omega) ok.b ok.r ok.t ok.e (S5 _)).go _ ⟨ghost_below hT,X',⟨_,_,_,T'⟩,rfl,by show 2+claimMargin+16<recursionLimit;decide,by show 7+20*16<cLine;decide,F',N',?hD,⟨by refine aa hg ?_;exact .of_eq rfl,fun h=>by cases h⟩,rfl⟩) ?_ fun _ _ e=>e
 case hD=>exact Lx.mpr ⟨Lw, .nil⟩
 rintro fl s' ⟨m',n',l',rfl,tb,htb⟩;refine⟨.inl ⟨.bool true, .bool true,[],rfl,fun _=>rfl, .bool true,?post,fun _=>⟨.nil,fun _ h=>nomatch h⟩⟩,yB hT l'.F.keep fun q hq=>?gr,l'.O,l'.G.1⟩
 case gr=>
  exact aa (KD.mp hq) ⟨tb,(l'.N _ htb).1⟩
 case post=>wrow_post
theorem law_call(Vv:∀ ns:X9,rD ns):WalkO cr loose (XL cr []) D9.says RR eY.1.1 eY.1.2 fun f vs=>PySem.call f vs:=qw.2 (cT (Bb Vv))
noncomputable def kc (k:Nat):Nat:=[45,63,98,99,100,108,112,115].getD k 0
noncomputable def d3(f:Nat):List Nat:=[if 8<=f then 114 else 45,if f/4%2=1 then 119 else 45,[45,83,115,120].getD (f%4) 0]
noncomputable def iq(f:Nat):List Nat:=[if 8<=f then 114 else 45,if f/4%2=1 then 119 else 45,[45,84,116,120].getD (f%4) 0]
def dw(c:Nat):List Nat:=kc (c/4096)::(d3 (c/256%16)++(d3 (c/16%16)++iq (c%16)))
theorem Cg:∀ k,k<8->Txt.item (Yc "-?bcdlps") ((k:Nat):Int)=⟨#[kc k]⟩:=by decide+kernel
theorem wB:∀ f,f<16->Txt.item (Yc "-r") (((f:Nat):Int).fdiv 8)=⟨#[if 8<=f then 114 else 45]⟩:=by decide+kernel
theorem wC:∀ f,f<16->Txt.item (Yc "-w") ((((f:Nat):Int).fdiv 4).fmod 2)=⟨#[if f/4%2=1 then 119 else 45]⟩:=by decide+kernel
theorem z7:∀ f,f<16->Txt.item (Yc "-Ssx") (((f:Nat):Int).fmod 4)=⟨#[[45,83,115,120].getD (f%4) 0]⟩:=by decide+kernel
theorem Ch:∀ f,f<16->Txt.item (Yc "-Ttx") (((f:Nat):Int).fmod 4)=⟨#[[45,84,116,120].getD (f%4) 0]⟩:=by decide+kernel
theorem b7(n:Nat):n%16<16:=L8 _ (by decide)
theorem uH(h:n<32768):n/4096<8:=Mp h
theorem fX(c:Nat)(h:c<32768):ac (c:Int)=⟨(dw c).toArray⟩:=by
 have d:∀ x:Nat,x/16*16+x%16=x:=fun x=>Nat.div_add_mod' x 16;have h2:=kW (c/4096) (c/256%16) (c/16%16) (c%16) (b7 _) (b7 _) (b7 _);have e:((c/4096*16+c/256%16)*16+c/16%16)*16+c%16=c:=by(refine aa (show c/4096=c/256/16 from(M2 c 256 16).symm) ?_;rw[d];refine aa (show c/256=c/16/16 from(M2 c 16 16).symm) ?_;rw[d];exact aa (d _) rfl)
 rw[e] at h2;refine aa h2 ?_;unfold dw d3 iq;exact aa (Cg _ (uH h)) (aa (wB _ (b7 _)) (aa (wC _ (b7 _)) (aa (z7 _ (b7 _)) (aa (wB _ (b7 _)) (aa (wC _ (b7 _)) (aa (z7 _ (b7 _)) (aa (wB _ (b7 _)) (aa (wC _ (b7 _)) (aa (Ch _ (b7 _)) rfl)))))))))
theorem Ba:∀ j,j<8->∀ k,k<8->j<k->kc j<kc k:=by decide+kernel
theorem xG:∀ f,f<16->∀ g,g<16->f<g->d3 f<d3 g:=by decide+kernel
theorem zQ:∀ f,f<16->∀ g,g<16->f<g->iq f<iq g:=by decide+kernel
theorem uI{x y a b:List Nat}(hl:a.length=b.length)(h:a<b):a++x<b++y:=by
 induction a generalizing b with
 |nil=>
  rw[Me hl.symm] at h;exact absurd h (List.lt_irrefl _)
 |cons p a ih=>
  cases b with
  |nil=>cases hl
  |cons q b=>
   rcases Mk.mp h with h|⟨e,h⟩
   ·exact Mk.mpr (.inl h)
   ·exact Mk.mpr (.inr ⟨e,ih (Nat.succ.inj hl) h⟩)
theorem oz:∀ {a x y:List Nat},x<y->a++x<a++y
 |[],_,_,h=>h
 |_::_,_,_,h=>Mk.mpr (.inr ⟨rfl,oz h⟩)
theorem zS(h:x<=y)(e:x/16=y/16):x%16<=y%16:=by
 have h1:=Nj x 16;have h2:=Nj y 16;rw[e] at h1;exact Nat.le_of_add_le_add_left (KF (Md h1) (KF h (Md h2.symm)))
theorem rk(hd:d<32768)(h:c<d):dw c<dw d:=by
 have hc:=Mg h hd;have h':=LD h;have g:∀ x k:Nat,x/(k*16)=x/k/16:=fun x k=>(M2 x k 16).symm;unfold dw;rcases Nat.lt_or_eq_of_le (Nat.div_le_div_right (c:=4096) h') with h1|h1
 ·exact Mk.mpr (.inl (Ba _ (uH hc) _ (uH hd) h1))
 refine aa h1 ?_;refine Mk.mpr (.inr ⟨rfl,?_⟩);have e2:c/256/16=d/256/16:=ae (g _ _) (ae (g _ _) h1);rcases Nat.lt_or_eq_of_le (zS (Nat.div_le_div_right (c:=256) h') e2) with h2|h2
 ·exact uI rfl (xG _ (b7 _) _ (b7 _) h2)
 refine aa h2 ?_;refine oz ?_;have j2:c/256=d/256:=by exact ae (Nj (c/256) 16) (ae (Nj (d/256) 16) (aa e2 (aa h2 rfl)))
 have e3:c/16/16=d/16/16:=ae (g _ _) (ae (g _ _) j2);rcases Nat.lt_or_eq_of_le (zS (Nat.div_le_div_right (c:=16) h') e3) with h3|h3
 ·exact uI rfl (xG _ (b7 _) _ (b7 _) h3)
 refine aa h3 ?_;have j3:c/16=d/16:=by exact ae (Nj (c/16) 16) (ae (Nj (d/16) 16) (aa e3 (aa h3 rfl)))
 refine oz (zQ _ (b7 _) _ (b7 _) (OX (zS h' j3) fun q=>K6 h ?_));exact ae (Nj c 16) (ae (Nj d 16) (aa j3 (aa q rfl)))
def ai(c:Int):Prop:=0<=c/\c<32768
theorem ai.nat(h:ai c):aM (fun(n:Nat)=>c=(n:Int)) (fun n=>n<32768):=⟨c.toNat,(OL h.1).symm,(Int.toNat_lt h.1).mpr h.2⟩
theorem lM(hc:ai c)(hd:ai d):(ac c).cps.toList<(ac d).cps.toList↔c<d:=by
 obtain⟨m,rfl,hm⟩:=hc.nat;obtain⟨n,rfl,hn⟩:=hd.nat
 (rw[fX m hm];refine aa (fX n hn) ?_)
 show dw m<dw n↔_
 constructor
 ·intro h
  rcases Nat.lt_trichotomy m n with q|rfl|q
  ·exact LC.mpr q
  ·exact absurd h (List.lt_irrefl _)
  ·exact absurd h (List.lt_asymm (rk hm q))
 ·exact fun h=>rk hn (LC.mp h)
theorem mA(hc:ai c)(hd:ai d)(h:ac c=ac d):c=d:=by
 have h1:=lM hc hd;have h2:=lM hd hc;rw[h] at h1 h2;have n1:¬c<d:=fun q=>List.lt_irrefl _ (h1.mpr q);have n2:¬d<c:=fun q=>List.lt_irrefl _ (h2.mpr q);exact ON (Oe.mp n2) (Oe.mp n1)
noncomputable def ee:List Nat:=[45,63,98,99,100,108,112,115,114,119,83,120,84,116]
theorem qY:∀ k,k<8->kc k∈ee:=by decide+kernel
theorem qQ:∀ f,f<16->∀ x∈d3 f,x∈ee:=by decide+kernel
theorem wh:∀ f,f<16->∀ x∈iq f,x∈ee:=by decide+kernel
theorem fk(h:c<32768):∀ x∈dw c,x∈ee:=by
 intro x hx;rcases KG.mp hx with rfl|hx
 ·exact qY _ (uH h)
 rcases KK.mp hx with hx|hx
 ·exact qQ _ (b7 _) x hx
 rcases KK.mp hx with hx|hx
 ·exact qQ _ (b7 _) x hx
 ·exact wh _ (b7 _) x hx
theorem bZ(a b:List Nat):(⟨a.toArray⟩:Str)++⟨b.toArray⟩=⟨(a++b).toArray⟩:=congrArg Str.mk (List.append_toArray a b)
theorem bN(l:List Nat):(⟨l.toArray⟩:Str).length=l.length:=Lu
theorem nU{l:List Nat}{j:Nat}(h:j<=l.length):Txt.slice ⟨l.toArray⟩ none (some (j:Int))=⟨(l.take j).toArray⟩:=by
 have:=eq_of_beq (slice_closes_toL (x:=⟨l.toArray⟩) (j:=(j:Int)) (K1 _) (by refine aa (bN _) ?_;exact NH.mpr h));refine aa this ?_;simp
theorem jc{l:List Nat}{j:Nat}(h:j<=l.length):Txt.slice ⟨l.toArray⟩ (some (j:Int)) none=⟨(l.drop j).toArray⟩:=by
 have:=eq_of_beq (slice_closes_fromL (x:=⟨l.toArray⟩) (i:=(j:Int)) (b:=(l.length:Int)) (K1 _) (by refine aa (bN _) ?_;exact NH.mpr h) (by exact aa (bN _) rfl));refine aa this ?_
 congr 2
 simp only[K8];exact aa (List.take_of_length_le (by rw[Nx];exact Md (Int.toNat_sub _ _).symm)) rfl
noncomputable def nQ(l:List Nat):List Nat:=[107,49,95]++l.take 1++[58]++l.drop 1
theorem Ad:Yc "k1_"=⟨([107,49,95]:List Nat).toArray⟩:=by decide+kernel
theorem gj:Yc ":"=⟨([58]:List Nat).toArray⟩:=by decide+kernel
theorem yx{l:List Nat}(h:l.length=10):av ⟨l.toArray⟩=⟨(nQ l).toArray⟩:=by
 unfold av nQ;have h1:=nU (l:=l) (j:=1) (by refine aa h ?_;decide);have h2:=jc (l:=l) (j:=1) (by refine aa h ?_;decide)
 (refine aa (show (some (1:Int))=some ((1:Nat):Int) from rfl) (aa h1 (aa h2 (aa Ad (aa gj ?_))));rw[bZ,bZ];exact aa (bZ _ _) rfl)
theorem e9(c:Nat):(dw c).length=10:=rfl
theorem e7(c:Nat)(h:c<32768):av (ac (c:Int))=⟨(nQ (dw c)).toArray⟩:=by exact aa (fX c h) (aa (yx (e9 c)) rfl)
theorem e6(c:Nat):nQ (dw c)=[107,49,95,kc (c/4096),58]++(dw c).drop 1:=rfl
theorem hH(c:Nat)(h:c<32768):n4 (ac (c:Int))=⟨([107,49,95,kc (c/4096)]:List Nat).toArray⟩:=by
 unfold n4;refine aa (e7 c h) (aa (show (some (4:Int))=some ((4:Nat):Int) from rfl) (aa (nU (by rw[e6,KH];exact Ol (KA rfl))) ?_))
 rfl
theorem ln(c:Nat)(h:c<32768):n5 (ac (c:Int))=⟨([107,49,95,kc (c/4096),58]:List Nat).toArray⟩:=by
 unfold n5;refine aa (e7 c h) (aa (show (some (5:Int))=some ((5:Nat):Int) from rfl) (aa (nU (by rw[e6,KH];exact Ol (KA rfl))) ?_))
 rfl
theorem fi(c:Nat)(h:c<32768):n9 (ac (c:Int))=⟨((dw c).drop 1).toArray⟩:=by
 unfold n9;refine aa (e7 c h) (aa (show (some (5:Int))=some ((5:Nat):Int) from rfl) (aa (jc (by rw[e6,KH];exact Ol (KA rfl))) ?_))
 rfl
theorem BM(c:Nat)(h:c<32768):n5 (ac (c:Int))++n9 (ac (c:Int))=av (ac (c:Int)):=by
 exact aa (ln c h) (aa (fi c h) (aa (e7 c h) (aa (bZ _ _) (aa (e6 _) rfl))))
theorem yo:∀ k,k<8->([98,99,100,108,112,115].contains (kc k))=decide (2<=k):=by decide+kernel
theorem qP:∀ f,f<16->(d3 f).all (· !=45)=decide (12<f):=by decide+kernel
theorem wg:∀ f,f<16->(iq f).all (· !=45)=decide (12<f):=by decide+kernel
theorem yL(l:List Nat)(i d:Nat):(⟨l.toArray⟩:Str).cps.getD i d=l.getD i d:=by
 show l.toArray.getD i d=l.getD i d;exact aa KR (aa NF (aa Ot rfl))
theorem qX(l:List Nat):eX ⟨l.toArray⟩=([98,99,100,108,112,115].contains (l.getD 3 0)&&(l.drop 5).all (· !=45)):=by
 unfold eX;exact aa (yL _ _ _) rfl
theorem yn(hc:ai c):eX (av (ac c))=(decide (8191<c)&&eM c):=by
 obtain⟨n,rfl,hn⟩:=hc.nat;refine aa (e7 n hn) (aa (qX _) (aa (e6 _) ?_));have e1:(([107,49,95,kc (n/4096),58]++(dw n).drop 1).drop 5).all (· !=45)=((d3 (n/256%16)).all (· !=45)&&((d3 (n/16%16)).all (· !=45)&&(iq (n%16)).all (· !=45))):=by
  exact ae List.all_append (ae List.all_append rfl)
 have e2:([107,49,95,kc (n/4096),58]++(dw n).drop 1).getD 3 0=kc (n/4096):=rfl;refine aa e1 (aa e2 (aa (yo _ (uH hn)) (aa (qP _ (b7 _)) (aa (qP _ (b7 _)) (aa (wg _ (b7 _)) ?_)))));have f:∀ (p q:Nat),16^p=q->0<q->decide (12<((n:Int).fdiv (16^p)).fmod 16)=decide (12<n/q%16):=fun p q e hq=>by
  have e3:((16:Int)^p)=((q:Nat):Int):=ae e ((Int.natCast_pow 16 p).symm);refine aa e3 (aa (LI _ (K1 _)) (aa (Mo _ (by decide)) ?_));have:((n:Int)/(q:Int))%16=((n/q%16:Nat):Int):=rfl;exact aa this (OH.mpr LC)
 have e4:eM (n:Int)=(decide (12<n/1%16)&&(decide (12<n/16%16)&&(decide (12<n/256%16)&&true))):=by
  exact ae (f 0 1 rfl (by decide)) (ae (f 1 16 rfl (by decide)) (ae (f 2 256 rfl (by decide)) rfl))
 have k8:decide (8191<(n:Int))=decide (2<=n/4096):=OH.mpr ((show (8191:Int)<n↔2*4096<=n from LC).trans (Nat.le_div_iff_mul_le (by decide)).symm);refine aa e4 (aa k8 (aa (Nat.div_one _) ?_));exact(by decide:∀ a b c d:Bool,(a&&(b&&(c&&d)))=(a&&(d&&(c&&(b&&true))))) _ _ _ _
theorem dX:∀ {a b:X9},a.Pairwise (·<·)->b.Pairwise (·<·)->(∀ x,x∈a↔x∈b)->a=b
 |[],[],_,_,_=>rfl
 |[],y::b,_,_,h=>nomatch (h y).mpr (.head _)
 |x::a,[],_,_,h=>nomatch (h x).mp (.head _)
 |x::a,y::b,ha,hb,h=>by
  obtain⟨a1,a2⟩:=LX.mp ha;obtain⟨b1,b2⟩:=LX.mp hb;have e:x=y:=by
   rcases KG.mp ((h x).mp (.head _)) with q|q
   ·exact q
   rcases KG.mp ((h y).mpr (.head _)) with p|p
   ·exact p.symm
   ·have:=b1 x q;have:=a1 y p;lia
  subst e
  congr 1
  refine dX a2 b2 fun z=>?_;have hz:=h z;simp only[KG] at hz
  constructor
  ·intro q
   rcases hz.mp (.inr q) with rfl|r
   ·exact absurd (a1 _ q) (Int.lt_irrefl _)
   ·exact r
  ·intro q
   rcases hz.mpr (.inr q) with rfl|r
   ·exact absurd (b1 _ q) (Int.lt_irrefl _)
   ·exact r
theorem cZ(l:X9):(aF (dd l)).Pairwise (·<·):=by
 have h1:=pK (dd l);have h2:(aF (dd l)).Nodup:=(bo _).nodup_iff.mpr (gW l [] .nil);generalize aF (dd l)=s at h1 h2
 induction s with
 |nil=>exact .nil
 |cons x s ih=>
  obtain⟨a1,a2⟩:=LX.mp h1;obtain⟨b1,b2⟩:=Lx.mp h2;refine LX.mpr ⟨fun y hy=>?_,ih a2 b2⟩;have:=a1 y hy;have:x≠y:=fun e=>b1 (e▸hy)
  lia
theorem dg:x∈aF (dd l)↔x∈l:=(bo _).mem_iff.trans zR
def jF(us:List X9):Prop:=∀ u∈us,∀ c∈u,ai c
theorem eK(h:ai c):(bm us c).fmod 32768=c:=by
 unfold bm;refine aa (Mo _ (by decide)) ?_;have h1:=h.1;have h2:=h.2;exact tW h1 h2
theorem lg:x∈bY us↔aM (fun c=>(∃ u∈us,c∈u)) (fun c=>x=bm us c):=by
 unfold bY
 constructor
 ·intro h
  obtain⟨u,hu,hx⟩:=M6.mp h;obtain⟨c,hc,rfl⟩:=KI.mp hx;exact⟨c,⟨u,hu,hc⟩,rfl⟩
 ·rintro⟨c,⟨u,hu,hc⟩,rfl⟩
  exact M6.mpr ⟨u,hu,KU hc⟩
theorem dG(ok:jF us):c∈af us↔∃ u∈us,c∈u:=by
 unfold af
 constructor
 ·intro h
  obtain⟨x,hx,rfl⟩:=KI.mp h;obtain⟨d,⟨u,hu,hd⟩,rfl⟩:=lg.mp (dg.mp hx);exact aa (eK (ok u hu d hd)) ⟨u,hu,hd⟩
 ·rintro⟨u,hu,hc⟩
  exact KI.mpr ⟨bm us c,dg.mpr (lg.mpr ⟨c,⟨u,hu,hc⟩,rfl⟩),eK (ok u hu c hc)⟩
theorem jn:∀ {l:List X9} {r:List X9},(∃ u∈l,p u=true)->(l++r).findIdx p=l.findIdx p
 |[],_,h=>by obtain⟨_,h,_⟩:=h;cases h
 |x::l,r,h=>by
  refine aa Mb (aa O9 (aa O9 ?_))
  cases hx:p x with
  |true=>rfl
  |false=>
   obtain⟨u,hu,hp⟩:=h;rcases KG.mp hu with rfl|hu
   ·rw[hx] at hp;cases hp
   ·exact aa (jn ⟨u,hu,hp⟩) rfl
theorem jo:∀ {l:List X9} {u:X9},(∀ v∈l,p v=false)->p u=true->(l++[u]).findIdx p=l.length
 |[],u,_,hu=>aa (Og _) (aa O9 (aa hu rfl))
 |x::l,u,h,hu=>by
  exact aa Mb (aa O9 (aa (h x (.head _)) (aa (jo (fun v hv=>h v (.tail _ hv)) hu) rfl)))
theorem sd(ok:jF us)(hu:∀ c∈u,ai c):af (us++[u])=af us++(aF (dd u)).filter fun c=>decide (c∉af us):=by
 have R7:∀ c,(∃ v∈us,c∈v)->bm (us++[u]) c=bm us c:=fun c ⟨v,hv,hc⟩=>by
  unfold bm;exact aa (jn ⟨v,hv,KV hc⟩) rfl
 have Rk:∀ c∈u,(¬∃ v∈us,c∈v)->bm (us++[u]) c=32768*(us.length:Int)+c:=fun c hc hn=>by
  unfold bm;exact aa (jo (fun v hv=>KY fun q=>hn ⟨v,hv,q⟩) (KV hc)) rfl
 have PU:∀ x∈aF (dd (bY us)),x<32768*(us.length:Int):=fun x hx=>by
  obtain⟨c,⟨v,hv,hc⟩,rfl⟩:=lg.mp (dg.mp hx);have h1:us.findIdx (fun u=>decide (c∈u))<us.length:=List.findIdx_lt_length_of_exists ⟨v,hv,KV hc⟩;have h2:=(ok v hv c hc).2;unfold bm;exact Ft h1 h2
 have Qb:aF (dd (bY (us++[u])))=aF (dd (bY us))++((aF (dd u)).filter fun c=>decide (c∉af us)).map fun c=>32768*(us.length:Int)+c:=by
  refine dX (cZ _) ?_ fun x=>?_
  ·refine List.pairwise_append.mpr ⟨cZ _,?_,fun a ha b hb=>?_⟩
   ·exact List.pairwise_map.mpr (((cZ u).filter _).imp fun {a b} h=>Fu h)
   ·obtain⟨c,hc,rfl⟩:=KI.mp hb
    have h1:=PU a ha;have h2:=(hu c (dg.mp (Le.mp hc).1)).1;exact Fv h1 h2
  ·rw[dg,lg,KK,dg,lg]
   constructor
   ·rintro⟨c,⟨v,hv,hc⟩,rfl⟩
    by_cases hc':∃ v∈us,c∈v
    ·exact .inl ⟨c,hc',R7 c hc'⟩
    ·rcases KK.mp hv with hv|hv
     ·exact absurd ⟨v,hv,hc⟩ hc'
     ·rw[KD.mp hv] at hc
      refine .inr (KI.mpr ⟨c,Le.mpr ⟨dg.mpr hc,KV fun q=>hc' ((dG ok).mp q)⟩,(Rk c hc hc').symm⟩)
   ·rintro(⟨c,hc,rfl⟩|h)
    ·obtain⟨v,hv,Rh⟩:=hc
     exact⟨c,⟨v,Ky _ hv,Rh⟩,(R7 c ⟨v,hv,Rh⟩).symm⟩
    ·obtain⟨c,hc,rfl⟩:=KI.mp h
     obtain⟨h1,h2⟩:=Le.mp hc;have h1:=dg.mp h1;exact⟨c,⟨u,Kz _ (.head _),h1⟩,(Rk c h1 fun q=>Np h2 ((dG ok).mpr q)).symm⟩
 have hm:((aF (dd u)).filter fun c=>decide (c∉af us)).map (fun c=>(32768*(us.length:Int)+c).fmod 32768)=(aF (dd u)).filter fun c=>decide (c∉af us):=by
  refine(MI fun c hc=>?_).trans (List.map_id _);have h1:=hu c (dg.mp (Le.mp hc).1);show _=c;refine aa (Mo _ (by decide)) ?_;have:=h1.1;have:=h1.2
  lia
 show (aF (dd (bY (us++[u])))).map _=_;exact aa Qb (aa KN (aa M1 (congrArg (af us++·) hm)))
theorem wL(us:List X9)(ok:jF us):(af us).Nodup:=by
 refine lb ((cZ (bY us)).imp fun {a b} h e=>z6 h e) fun a ha b hb e=>?_;obtain⟨c,⟨v,hv,hc⟩,rfl⟩:=lg.mp (dg.mp ha);obtain⟨d,⟨v',Uw,hd⟩,rfl⟩:=lg.mp (dg.mp hb);rw[eK (ok v hv c hc),eK (ok v' Uw d hd)] at e;exact aa e rfl
def cI(N:X9)(c:Int):UP:=(ac c,aK N c)
def bX(N:X9):List UP:=N.map (cI N)
theorem lr(h:c∈N):aK (N++M) c=aK N c:=by
 unfold aK;exact aa List.idxOf_append (aa (KW h) rfl)
theorem uU(h:c∉N):aK (N++[c]) c=Yc "n"++Yc (toString ((N.length:Nat):Int)):=by
 unfold aK;refine aa List.idxOf_append (aa (KM h) ?_);have:([c]:X9).idxOf c=0:=by simp
 exact aa this (aa (Nk _) rfl)
theorem g7{N M l:X9}(h:∀ c∈l,c∈N):l.map (cI (N++M))=l.map (cI N):=MI fun c hc=>by
 unfold cI;exact aa (lr (h c hc)) rfl
theorem yF{N:X9}{c:Int}(h:c∉N):bX (N++[c])=bX N++[(ac c,cG (bX N))]:=by
 unfold bX;refine aa KN (aa (g7 fun _ hc=>hc) ?_)
 congr 1
 show [(ac c,aK (N++[c]) c)]=_;refine aa (uU h) ?_;unfold cG;exact aa (KE _) rfl
theorem gK(hc:ai c):∀ {l:X9},(∀ x∈l,ai x)->((l.map (cI N)).find? fun x=>x.1==ac c).map (·.2)=if c∈l then some (aK N c) else none
 |[],_=>rfl
 |y::l,h=>by
  refine aa LA (aa MK ?_)
  by_cases e:y=c
  ·subst e
   exact aa (show ((cI N y).1==ac y)=true from OF _) (aa (KW (.head _)) rfl)
  ·refine aa (show ((cI N y).1==ac c)=false from LL.mpr fun q=>e (mA (h y (.head _)) hc q)) ?_
   dsimp only;refine aa (gK hc fun x hx=>h x (.tail _ hx)) ?_;have:(c∈y::l)↔c∈l:=⟨fun q=>(KG.mp q).resolve_left fun q=>e q.symm, .tail _⟩;simp only[this]
theorem jq(a b:List UP)(u:Str):aY (a++b) u=(aY a u).or (aY b u):=by
 unfold aY;refine aa List.find?_append ?_
 cases List.find? _ a<;>rfl
structure rB(Ym:List UP)(A N:X9):Prop where
 some:∀ c∈A,∃ p,aY Ym (ac c)=some p
 none:∀ c,ai c->c∉A->aY Ym (ac c)=none
 sub:∀ c∈A,c∈N
noncomputable def dc (A:X9) (cur:X9) (c:Int):X9:=if c∈cur∨c∈A then cur else cur++[c]
noncomputable def ce (N:X9) (c:Int):X9:=if c∈N then N else N++[c]
theorem BH{Ym:List UP}{A N cur:X9}{c:Int}(hi:rB Ym A N)(hN:∀ x∈N,ai x)(QN:∀ x∈cur,x∈N)(hc:ai c):
  (aL Ym (cur.map (cI N),bX N) (ac c)).2=((dc A cur c).map (cI (ce N c)),bX (ce N c)):=by
 have h1:aY (cur.map (cI N)) (ac c)=if c∈cur then some (aK N c) else none:=gK hc fun x hx=>hN x (QN x hx)
 have h2:b8 (bX N) (ac c)=if c∈N then some (aK N c) else none:=gK hc hN
 unfold aL;refine aa (jq _ _ _) (aa h1 ?_)
 by_cases a1:c∈cur
 ·have a3:=QN c a1
  simp only[dc,ce,a1,a3,if_true,true_or,Option.some_or]
 by_cases a2:c∈A
 ·obtain⟨p,hp⟩:=hi.some c a2
  have a3:=hi.sub c a2;simp only[dc,ce,a1,a2,a3,hp,if_true,if_false,or_true,Option.none_or]
 have hn:=hi.none c hc a2
 by_cases a3:c∈N
 ·simp only[dc,ce,a1,a2,a3,hn,h2,if_true,if_false,or_self,Option.or_none,Option.none_or,KN]
  rfl
 ·have e1:cur.map (cI (N++[c]))=cur.map (cI N):=g7 QN
  have e2:cI (N++[c]) c=(ac c,cG (bX N)):=by
   unfold cI;refine aa (uU a3) ?_;unfold cG bX;exact aa (KE _) rfl
  simp only[dc,ce,a1,a2,a3,hn,h2,if_true,if_false,or_self,Option.or_none,Option.none_or,KN,e1,LA,OU,e2,yF a3]
theorem jG(h:x∈N):x∈ce N c:=by
 unfold ce
 split
 ·exact h
 ·exact Ky _ h
theorem mP(N:X9)(c:Int):c∈ce N c:=by
 unfold ce
 split
 ·assumption
 ·exact Kz _ (.head _)
theorem vb:∀ (L:X9) {N cur:X9},rB Ym A N->(∀ x∈N,ai x)->(∀ x∈cur,x∈N)->(∀ c∈L,ai c)->
  (aG Ym (cur.map (cI N),bX N) (L.map ac)).2=((L.foldl (dc A) cur).map (cI (L.foldl ce N)),bX (L.foldl ce N))
 |[],_,_,_,_,_,_=>rfl
 |c::L,N,cur,hi,hN,QN,hL=>by
  (refine aa LA ?_;rw[aG])
  show (aG Ym (aL Ym (cur.map (cI N),bX N) (ac c)).2 (L.map ac)).2=_;refine aa (BH hi hN QN (hL c (.head _))) ?_;refine vb L ⟨hi.some,hi.none,fun x hx=>jG (hi.sub x hx)⟩ (fun x hx=>?_) (fun x hx=>?_) fun x hx=>hL x (.tail _ hx)
  ·unfold ce at hx
   split at hx
   ·exact hN x hx
   ·rcases KK.mp hx with hx|hx
    ·exact hN x hx
    ·refine aa (KD.mp hx) ?_;exact hL c (.head _)
  ·unfold dc at hx
   split at hx
   ·exact jG (QN x hx)
   ·rcases KK.mp hx with hx|hx
    ·exact jG (QN x hx)
    ·refine aa (KD.mp hx) ?_;exact mP N c
noncomputable def ph (c m:Int):X9:=if m<c then[m,c] else[c,m]
theorem vy(hc:ai c)(hm:ai m)(tg xn:Str):dS (ac c) tg xn (some (ac m))=(ph c m).map ac:=by
 unfold dS ph bE;have hl:Yc "{"=⟨([123]:List Nat).toArray⟩:=by decide+kernel
 have hcps:∀ x:Str,(Yc "{"++x).cps.toList=123::x.cps.toList:=fun x=>by
  refine aa hl ?_;show (([123]:List Nat).toArray++x.cps).toList=[123]++x.cps.toList;exact aa Array.toList_append rfl
 by_cases e:m=c
 ·subst e
  exact aa (KM (Int.lt_irrefl m)) (ite_self _)
 ·have P2:Yc "{"++ac m≠Yc "{"++ac c:=fun q=>e (mA hm hc (gC q))
  have h1:decide ((Yc "{"++ac m).cps.toList<(Yc "{"++ac c).cps.toList)=decide (m<c):=by
   rw[hcps,hcps];refine OH.mpr ⟨fun q=>?_,fun q=>?_⟩
   ·rcases Mk.mp q with q|⟨_,q⟩
    ·exact absurd q (Nq _)
    ·exact(lM hm hc).mp q
   ·exact Mk.mpr (.inr ⟨rfl,(lM hm hc).mpr q⟩)
  dsimp only
  (rw[KM P2];refine aa h1 ?_)
  by_cases q:m<c
  ·refine aa (KV q) (aa (KW rfl) (aa (KW q) ?_));rfl
  ·refine aa (KY q) (aa (KM KP) (aa (KM q) ?_));rfl
theorem mY(h:x<=y):[x,y].foldl ce N=N++(aF (dd [x,y])).filter fun c=>decide (c∉N):=by
 have hs:aF (dd [x,y])=if x=y then[x] else[x,y]:=by
  refine dX (cZ _) ?_ fun z=>?_
  ·split
   ·exact LX.mpr ⟨(fun _ h=>nomatch h), .nil⟩
   ·exact LX.mpr ⟨fun z hz=>by refine aa (KD.mp hz) ?_;lia,LX.mpr ⟨(fun _ h=>nomatch h), .nil⟩⟩
  ·rw[dg]
   split
   ·rename_i e;subst e;simp
   ·rfl
 refine aa hs ?_;show ce (ce N x) y=_;unfold ce
 by_cases e:x=y
 ·subst e
  refine aa (KW rfl) ?_
  by_cases h1:x∈N<;>simp[h1]
 ·refine aa (KM e) ?_
  have e':¬y=x:=fun q=>e q.symm
  by_cases h1:x∈N<;>by_cases h2:y∈N<;>simp[h1,h2,e,e']
theorem mZ(h:x<=y):[x,y].foldl (dc A) []=(aF (dd [x,y])).filter fun c=>decide (c∉A):=by
 have hs:aF (dd [x,y])=if x=y then[x] else[x,y]:=by
  refine dX (cZ _) ?_ fun z=>?_
  ·split
   ·exact LX.mpr ⟨(fun _ h=>nomatch h), .nil⟩
   ·exact LX.mpr ⟨fun z hz=>by refine aa (KD.mp hz) ?_;lia,LX.mpr ⟨(fun _ h=>nomatch h), .nil⟩⟩
  ·rw[dg]
   split
   ·rename_i e;subst e;simp
   ·rfl
 refine aa hs ?_;show dc A (dc A [] x) y=_;unfold dc
 by_cases e:x=y
 ·subst e
  refine aa (KW rfl) ?_
  by_cases h1:x∈A<;>simp[h1]
 ·refine aa (KM e) ?_
  have e':¬y=x:=fun q=>e q.symm
  by_cases h1:x∈A<;>by_cases h2:y∈A<;>simp[h1,h2,e,e']
theorem gT(ok:bP Ye):∀ (f g:Nat) (s:Int),-1<=s->s<Ye.length->(s+1).toNat<f->(s+1).toNat<g->bw Ye f s=bw Ye g s
 |0,_,_,_,_,h,_=>absurd h (LK _)
 |_+1,0,_,_,_,_,h=>absurd h (LK _)
 |f+1,g+1,s,h0,h1,hf,hg=>by
  refine aa (ej _ f _) (aa (ej _ g _) ?_)
  by_cases hs:s=-1
  ·exact aa (KW hs) (aa (KW hs) rfl)
  ·obtain⟨g0,g1⟩:=ok s.toNat (mK h0 hs h1)
   exact aa (gT ok f g _ g0 (vt h0 hs h1 g1) (B0 h0 hs hf g1) (B0 h0 hs hg g1)) rfl
theorem ko(ok:bP Ye):∀ (f:Nat) (s:Int),-1<=s->s<Ye.length->bw (Ye++more) f s=bw Ye f s
 |0,_,_,_=>rfl
 |f+1,s,h0,h1=>by
  refine aa (ej _ f _) (aa (ej _ f _) ?_)
  by_cases hs:s=-1
  ·exact aa (KW hs) (aa (KW hs) rfl)
  ·obtain⟨g0,g1⟩:=ok s.toNat (mK h0 hs h1)
   have e:(Ye++more).getD s.toNat (-1)=Ye.getD s.toNat (-1):=by
    exact aa KR (aa (Mt (mK h0 hs h1)) (ae KR rfl))
   exact aa e (aa (ko ok f _ g0 (vt h0 hs h1 g1)) rfl)
theorem dW(Ye:X9):aj Ye (-1)=[]:=kl Ye _
theorem eH{Ye:X9}(ok:bP Ye){s:Int}(h0:0<=s)(h1:s<Ye.length):aj Ye s=s::aj Ye (Ye.getD s.toNat (-1)):=by
 obtain⟨g0,g1⟩:=ok s.toNat (iV h0 h1);unfold aj
 (refine aa (ej _ _ _) ?_;exact aa (KM (FA h0)) (aa (gT ok Ye.length (Ye.length+1) _ g0 (tB h0 h1 g1) (tH h0 h1 g1) (Fk h0 h1 g1)) rfl))
theorem fM{Ye more:X9}(ok:bP Ye){s:Int}(h0:-1<=s)(h1:s<Ye.length):aj (Ye++more) s=aj Ye s:=by
 unfold aj;refine aa (ko ok _ s h0 h1) ?_;exact gT ok _ _ s h0 h1 (by refine aa KH ?_;exact Fn h1) (B2 h1)
theorem cM{α:Type}{l r:List α}{i:Nat}{d:α}(h:i<l.length):(l++r).getD i d=l.getD i d:=by
 exact aa KR (aa (Mt h) (ae KR rfl))
theorem ea:∀ {l:List α},(∀ x∈l,f x=g x)->l.flatMap f=l.flatMap g
 |[],_=>rfl
 |x::l,h=>by exact aa MX (aa MX (aa (h x (.head _)) (aa (ea fun y hy=>h y (.tail _ hy)) rfl)))
theorem qb{us vs:List X9}{Ye more:X9}(ok:bP Ye)(hl:us.length=Ye.length){s:Nat}(hs:s<Ye.length):cK (us++vs) (Ye++more) s=cK us Ye s:=by
 obtain⟨g0,g1⟩:=ok s hs;unfold cK;refine aa (cM hs) (aa (fM ok g0 (vG g1 hs)) ?_);refine ea fun o ho=>?_;have:=fN ok (Ye.length+1) _ g0 (vG g1 hs) o ho;exact cM (D8 this.1 this.2 hl)
theorem kN{us vs:List X9}{Ye more:X9}(ok:bP Ye)(hl:us.length=Ye.length){s:Nat}(hs:s<Ye.length):aQ (us++vs) (Ye++more) s=aQ us Ye s:=by
 unfold aQ;exact aa (qb ok hl hs) (aa (cM (q1 hs hl)) rfl)
section
open PySem.Builtin.Str PySem.StrLaws
theorem yA(hp:x.cps.toList[p]?=some c)(hb:∀ i,x.cps.toList[i]?=some c->i=p):occurrences x ⟨#[c]⟩ 0 x.length 1=[p]:=by
 rcases occ_head x ⟨#[c]⟩ 1 (KZ 1) with⟨_,h⟩|⟨i,r,h1,h2,_⟩
 ·exact absurd ((subAt_one x c p).mpr hp) (h p)
 ·have hl:=occ_length_le x ⟨#[c]⟩ 0 x.length 1
  rw[h1] at hl⊢;exact aa (Me (Nat.le_zero.mp (Pf hl))) (aa (hb i ((subAt_one x c i).mp h2)) rfl)
theorem pe(hb:∀ i,x.cps.toList[i]?=some c->i=p):∀ (l:List Nat),((forIn l ((#[]:Array Nat),x.length) (occRBody x ⟨#[c]⟩ 1)).run.fst=#[]/\∀ k∈l,x.cps.toList[x.length-k]?≠some c)∨(forIn l ((#[]:Array Nat),x.length) (occRBody x ⟨#[c]⟩ 1)).run.fst=#[p]
 |[]=> .inl ⟨rfl,fun _ h=>nomatch h⟩
 |k::l=>by
  have full:∀ (l:List Nat) (f:Nat),(forIn l (#[p],f) (occRBody x ⟨#[c]⟩ 1)).run.fst=#[p]:=fun l=>by
   induction l with
   |nil=>exact fun _=>rfl
   |cons a l ih=>
    intro f;refine aa (Of _ _ _ _) ?_;unfold occRBody;exact aa (KM (fun h=>Nq 1 h.1.1)) (ih f)
  refine aa (Of _ _ _ _) ?_
  by_cases h:x.cps.toList[x.length-k]?=some c
  ·have h2:=(subAt_one x c (x.length-k)).mpr h
   have e:occRBody x ⟨#[c]⟩ 1 k (#[],x.length)=pure (ForInStep.yield (#[x.length-k],x.length-k)):=KW ⟨⟨Nat.zero_lt_one,h2.1⟩,h2.2⟩;exact aa e (aa (hb _ h) (.inr (full l p)))
  ·have e:occRBody x ⟨#[c]⟩ 1 k (#[],x.length)=pure (ForInStep.yield (#[],x.length)):=KM fun q=>h ((subAt_one x c _).mp ⟨q.1.2,q.2⟩)
   refine aa e ?_;rcases pe hb l with⟨h1,h2⟩|h1
   ·exact .inl ⟨h1,fun q hq=>(KG.mp hq).elim (fun e=>e▸h) (h2 q)⟩
   ·exact .inr h1
theorem wN(hp:x.cps.toList[p]?=some c)(hb:∀ i,x.cps.toList[i]?=some c->i=p):occurrencesFromRight x ⟨#[c]⟩ 1=[p]:=by
 refine aa (occR_eq _ _ _) ?_;have hl:p<x.length:=(Lj.mp hp).1;rcases pe hb (List.range' 0 (x.length+1)) with⟨_,h⟩|h
 ·refine absurd ?_ (h (x.length-p) (List.mem_range'_1.mpr ⟨K0 _,sH⟩))
  exact aa (Nat.sub_sub_self (LD hl)) hp
 ·refine aa h ?_;rfl
theorem ny:partsBetween ⟨(a++c::b).toArray⟩ [a.length] 1=[⟨a.toArray⟩,⟨b.toArray⟩]:=by
 show [strSub _ 0 a.length,strSub _ (a.length+1) _]=_;have e:(⟨(a++c::b).toArray⟩:Str).length=a.length+1+b.length:=by
  show (a++c::b).toArray.size=_;refine aa Lu (aa KH (aa Lc ?_));exact LE [_,_] (.a V0 (.a V1 W1)) (.a (.a V0 W1) V1) rfl
 refine aa e ?_;unfold strSub;simp
theorem zH(ha:c∉a)(hb:c∉b):(⟨(a++c::b).toArray⟩:Str).cps.toList[a.length]?=some c/\∀ i,(⟨(a++c::b).toArray⟩:Str).cps.toList[i]?=some c->i=a.length:=by
 constructor
 ·simp
 ·intro i h
  rcases Nat.lt_trichotomy i a.length with q|q|q
  ·rw[show (⟨(a++c::b).toArray⟩:Str).cps.toList=a++c::b from rfl,Mt q] at h
   exact absurd (LJ h) ha
  ·exact q
  ·rw[show (⟨(a++c::b).toArray⟩:Str).cps.toList=a++c::b from rfl,LS (LD q),show i-a.length=i-a.length-1+1 from s1 q,List.getElem?_cons_succ] at h
   exact absurd (LJ h) hb
theorem mj(ha:c∉a)(hb:c∉b)(hk:Builtin.Str.strKind ⟨#[c]⟩<=Builtin.Str.strKind ⟨(a++c::b).toArray⟩):Txt.splitMax ⟨(a++c::b).toArray⟩ ⟨#[c]⟩ 1=[⟨a.toArray⟩,⟨b.toArray⟩]/\Txt.rsplitMax ⟨(a++c::b).toArray⟩ ⟨#[c]⟩ 1=[⟨a.toArray⟩,⟨b.toArray⟩]:=by
 obtain⟨h1,h2⟩:=zH ha hb;have hl:¬(⟨(a++c::b).toArray⟩:Str).length<(⟨#[c]⟩:Str).length:=by
  show¬(a++c::b).toArray.size<1;refine aa Lu (aa KH (aa Lc ?_));exact E4
 have hg:¬(decide ((⟨(a++c::b).toArray⟩:Str).length<(⟨#[c]⟩:Str).length)||decide (strKind ⟨(a++c::b).toArray⟩<strKind ⟨#[c]⟩))=true:=by
  exact aa (KY hl) (aa (KY (MW.mpr hk)) KP)
 constructor
 ·unfold Txt.splitMax
  refine aa (KM hg) ?_;show (if (occurrences _ _ 0 _ 1).isEmpty=true then _ else partsBetween _ (occurrences _ _ 0 _ 1) 1)=_;exact aa (yA h1 h2) ny
 ·unfold Txt.rsplitMax
  refine aa (KM hg) ?_;show (if (occurrencesFromRight _ _ 1).isEmpty=true then _ else partsBetween _ (occurrencesFromRight _ _ 1) 1)=_;exact aa (wN h1 h2) ny
theorem jP(h:c<256)(x:Str):Builtin.Str.strKind ⟨#[c]⟩<=Builtin.Str.strKind x:=by
 have e:Builtin.Str.strKind ⟨#[c]⟩=1:=by unfold Builtin.Str.strKind;exact aa (KW (by simpa using h)) rfl
 refine aa e ?_;unfold Builtin.Str.strKind
 split
 ·exact KZ 1
 ·split<;>decide
end
theorem gZ:Yc "{"=⟨([123]:List Nat).toArray⟩:=by decide+kernel
theorem iI:Yc "}"=⟨([125]:List Nat).toArray⟩:=by decide+kernel
theorem fV(l t:List Nat):ah ⟨l.toArray⟩ ⟨t.toArray⟩=⟨(123::(l++125::t)).toArray⟩:=by
 show Yc "{"++_++Yc "}"++_=_
 (refine aa gZ (aa iI ?_);rw[bZ,bZ];refine aa (bZ _ _) ?_)
 congr 2
 simp
theorem jU{l:List Nat}(h:∀ x∈l,x∈ee){c:Nat}(hc:c∉ee):c∉l:=fun q=>hc (h c q)
theorem jS{l:List Nat}(h:∀ x∈l,x∈ee∨x=107∨x=49∨x=95∨x=58):bn ⟨l.toArray⟩:=fun c hc=>by
 have k:∀ x∈ee++[107,49,95,58],x≠38/\x≠60/\x≠62/\x≠34/\x≠9/\x≠10/\x≠13:=by decide+kernel
 refine k c ?_;rcases h c hc with h|rfl|rfl|rfl|rfl
 ·exact Ky _ h
 all_goals exact Kz _ (by decide)
theorem pP{l t:List Nat}(hl:∀ x∈l,x∈ee)(ht:∀ x∈t,x∈ee)(zl:l.length=10)(zt:t.length<=100):fr ⟨l.toArray⟩ ⟨t.toArray⟩:=by
 have n1:125∉l:=jU hl (by decide+kernel);have n2:125∉t:=jU ht (by decide+kernel);have e2:Txt.slice (ah ⟨l.toArray⟩ ⟨t.toArray⟩) (some 1) none=⟨(l++125::t).toArray⟩:=by
  refine aa (fV _ _) ?_;exact jc (l:=123::(l++125::t)) (j:=1) (by refine aa Lc ?_;exact Oi 1 _)
 refine⟨⟨?_,?_,?_,?_,?_⟩,fun tk=>?_,jS fun x hx=> .inl (hl x hx),fun e=>?_⟩
 ·refine aa (bN _) (aa zl ?_);decide
 ·refine aa (bN _) ?_;exact KF zt (by decide)
 ·have e1:Txt.slice (ah ⟨l.toArray⟩ ⟨t.toArray⟩) none (some 1)=⟨([123]:List Nat).toArray⟩:=by
   refine aa (fV _ _) ?_;exact nU (l:=123::(l++125::t)) (j:=1) (by refine aa Lc ?_;exact Oi 1 _)
  exact aa e1 (aa gZ (OF _))
 ·refine aa e2 (aa iI ?_)
  exact(mj n1 n2 (jP (by decide) _)).2
 ·refine aa e2 (aa (bN _) (aa KH (aa Lc (aa zl ?_))))
  exact KF (Mi (Ms zt) 10) (by decide)
 ·show Txt.splitMax (ah ⟨l.toArray⟩ ⟨t.toArray⟩) (Yc "}") 1=[Yc "{"++⟨l.toArray⟩,⟨t.toArray⟩]
  refine aa (fV _ _) (aa iI (aa gZ (aa (bZ _ _) ?_)));refine(mj (a:=123::l) (fun q=>?_) n2 (jP (by decide) _)).1;rcases KG.mp q with q|q
  ·exact absurd q (by decide)
  ·exact n1 q
 ·have e2:=congrArg Str.length e
  rw[bN,zl] at e2;exact absurd e2 (by decide+kernel)
theorem du(j:Nat):ao j=⟨([if j=0 then 114 else 116]:List Nat).toArray⟩:=by
 unfold ao
 match j with
 |0=>rfl
 |1=>rfl
 |j+2=>
  exact aa (KW (by exact LC.mpr (Pl (MN j)))) (aa (KM (Pm _)) rfl)
theorem mM{c:Int}(hc:ai c)(j:Nat):fr (ac c) (ao j):=by
 obtain⟨n,rfl,hn⟩:=hc.nat;refine aa (fX n hn) (aa (du _) ?_);refine pP (fk hn) (fun x hx=>?_) (e9 n) (by show 1<=100;decide);refine aa (KD.mp hx) ?_
 split<;>decide
theorem xe{c d:Int}(hc:ai c)(hd:ai d):fr (ac c) (n9 (ac d)):=by
 obtain⟨n,rfl,hn⟩:=hc.nat;obtain⟨k,rfl,hk⟩:=hd.nat
 (rw[fX n hn];refine aa (fi k hk) ?_)
 exact pP (fk hn) (fun x hx=>fk hk x (OA hx)) (e9 n) (by refine aa Nx (aa (e9 _) ?_);decide)
theorem qR:∀ f,f<16->∀ x∈d3 f,x=45∨Sre.isWordUni x=true:=by decide+kernel
theorem wi:∀ f,f<16->∀ x∈iq f,x=45∨Sre.isWordUni x=true:=by decide+kernel
theorem uT(n:Nat):∀ x∈(dw n).drop 1,x=45∨Sre.isWordUni x=true:=fun x hx=>by
 have hx:x∈d3 (n/256%16)++(d3 (n/16%16)++iq (n%16)):=hx;rcases KK.mp hx with hx|hx
 ·exact qR _ (L8 _ (by decide)) x hx
 rcases KK.mp hx with hx|hx
 ·exact qR _ (L8 _ (by decide)) x hx
 ·exact wi _ (L8 _ (by decide)) x hx
theorem Aa:∀ k,k<8->((kc k=45∨kc k=63)∨gO (kc k)):=by unfold gO;decide+kernel
theorem qW(h:b=true↔gO c0/\∀ v∈l,v≠45):eX ⟨(107::49::95::c0::58::l).toArray⟩=b:=by
 refine aa (qX _) ?_;show ([98,99,100,108,112,115].contains c0&&l.all (· !=45))=b
 (rw[MY,h];refine aa (Nv _ _) ?_)
 unfold gO;simp
theorem vg(n:Nat):(dw n).drop 1=[(d3 (n/256%16)).getD 0 0,(d3 (n/256%16)).getD 1 0,(d3 (n/256%16)).getD 2 0,(d3 (n/16%16)).getD 0 0,(d3 (n/16%16)).getD 1 0,(d3 (n/16%16)).getD 2 0,(iq (n%16)).getD 0 0,(iq (n%16)).getD 1 0,(iq (n%16)).getD 2 0]:=rfl
theorem yJ(h0:(c0=45∨c0=63)∨gO c0)(hv:∀ v∈[v1,v2,v3,v4,v5,v6,v7,v8,v9],v=45∨Sre.isWordUni v=true):
  j9 ⟨(107::49::95::c0::58::[v1,v2,v3,v4,v5,v6,v7,v8,v9]).toArray⟩ (eX ⟨(107::49::95::c0::58::[v1,v2,v3,v4,v5,v6,v7,v8,v9]).toArray⟩):=by
 rcases AN h0 hv with⟨h,h6,h7⟩|⟨h,h6⟩
 ·exact aa (qW (b:=true) ⟨fun _=>⟨h6,h7⟩,fun _=>rfl⟩) ⟨c0,v1,v2,v3,v4,v5,v6,v7,v8,v9,rfl,h⟩
 ·exact aa (qW (b:=false) ⟨(fun q=>nomatch q),fun q=>absurd q h6⟩) ⟨c0,v1,v2,v3,v4,v5,v6,v7,v8,v9,rfl,h⟩
theorem jQ{c:Int}(hc:ai c):j7 (n5 (ac c)) (n9 (ac c))/\dH (n5 (ac c))=n4 (ac c):=by
 obtain⟨n,rfl,hn⟩:=hc.nat;have hs:=fun x hx=>fk hn x (OA (i:=1) hx);have hp:dH (n5 (ac (n:Int)))=n4 (ac (n:Int)):=aa (ln n hn) (aa (hH n hn) rfl);have hk:kc (n/4096)∈ee:=qY _ (Mp hn);refine⟨⟨?_,?_,?_,?_,?_,?_,?_⟩,hp⟩
 ·refine aa (ln n hn) (aa (fi n hn) (aa (bZ _ _) ?_))
  have hw:=uT n;rw[vg] at hw⊢;exact yJ (Aa _ (Mp hn)) hw
 ·exact aa hp (aa (ln n hn) (aa (hH n hn) (aa gj (aa (bZ _ _) rfl))))
 ·(refine aa hp (aa (hH n hn) (aa (fi n hn) (aa gj ?_)));rw[bZ];refine aa (bZ _ _) ?_)
  refine(mj (a:=[107,49,95,kc (n/4096)]) (fun q=>?_) (jU hs (by decide+kernel)) (jP (by decide) _)).1;simp only[KG,Lw,O0] at q;rcases q with q|q|q|q
  ·exact absurd q (by decide)
  ·exact absurd q (by decide)
  ·exact absurd q (by decide)
  ·exact absurd (q▸hk) (by decide+kernel)
 ·refine aa (ln n hn) (aa (fi n hn) (aa (bZ _ _) ?_))
  refine jS fun x hx=>?_;rcases KK.mp hx with hx|hx
  ·simp only[KG,Lw,O0] at hx
   rcases hx with rfl|rfl|rfl|rfl|rfl<;>simp[hk]
  ·exact .inl (hs x hx)
 ·exact aa (fi n hn) (jS fun x hx=> .inl (hs x hx))
 ·refine aa hp (aa (hH n hn) (aa (bN _) ?_));show 4<=100;decide
 ·refine aa (fi n hn) (aa (bN _) (aa Nx (aa (e9 _) ?_)));decide
theorem cH(a b c:Str):a++b++c=a++(b++c):=congrArg Str.mk Array.append_assoc
theorem mx(a:Str):(⟨#[]⟩:Str)++a=a:=congrArg Str.mk Array.empty_append
theorem r6(l:List Str):Txt.join (Yc "") l=l.foldl (·++·) ⟨#[]⟩:=by
 have Qb:∀ (r:List Str) (x:Str),(⟨r.foldl (fun PS p=>PS++(Yc "").cps++p.cps) x.cps⟩:Str)=r.foldl (·++·) x:=fun r=>by
  induction r with
  |nil=>exact fun x=>rfl
  |cons y r ih=>
   intro x
   (refine aa L7 ?_;rw[L7];refine ae (ih _) ?_)
   have e:x.cps++(Yc "").cps++y.cps=(x++y).cps:=by
    have h0:(Yc "").cps=#[]:=by decide+kernel
    (refine aa h0 ?_;rw[Array.append_empty])
    rfl
   exact aa e rfl
 cases l with
 |nil=>rfl
 |cons x r=>
  exact aa L7 (aa (mx _) (ae (Qb r x) rfl))
theorem oX(a b:List Str):Txt.join (Yc "") (a++b)=b.foldl (·++·) (Txt.join (Yc "") a):=by exact aa (r6 _) (aa (r6 _) (aa NQ rfl))
theorem oy(p:Str):∀ (l:List Str) (q:Str),p++l.foldl (·++·) q=l.foldl (·++·) (p++q)
 |[],_=>rfl
 |x::l,q=>by(refine aa L7 ?_;rw[L7];exact aa (oy p l _) (aa (cH _ _ _) rfl))
theorem zG(p:Str)(l:List Str):p++Txt.join (Yc "") l=l.foldl (·++·) p:=by
 exact aa (r6 _) (aa (oy _ _ _) (congrArg (fun q:Str=>l.foldl (·++·) q) (congrArg Str.mk Array.append_empty)))
def vE(p:Str×Int):Str×Str:=(Yc "xmlns:"++p.1,ac p.2)
theorem uJ(a x y:Str):(a++x).cps.toList<(a++y).cps.toList↔x.cps.toList<y.cps.toList:=by
 have e:∀ z:Str,(a++z).cps.toList=a.cps.toList++z.cps.toList:=fun z=>Array.toList_append;refine aa (e _) (aa (e _) ?_)
 induction a.cps.toList with
 |nil=>exact Iff.rfl
 |cons q l ih=>
  (refine aa Mb (aa Mb ?_);rw[Mk])
  exact⟨fun h=>ih.mp (h.resolve_left (Nq q)).2,fun h=> .inr ⟨rfl,ih.mpr h⟩⟩
theorem jh(N:X9):∀ F:X9,aX (F.map (cI N))=(bu (az N F)).map vE
 |[]=>rfl
 |[x]=>rfl
 |[x,y]=>by
  show (if (Yc "xmlns:"++aK N y).cps.toList<(Yc "xmlns:"++aK N x).cps.toList then _ else _)=(if (aK N y).cps.toList<(aK N x).cps.toList then _ else _:List (Str×Int)).map vE
  by_cases h:(aK N y).cps.toList<(aK N x).cps.toList
  ·(rw[KW h];refine aa (KW ((uJ _ _ _).mpr h)) ?_);rfl
  ·(rw[KM h];refine aa (KM fun q=>h ((uJ _ _ _).mp q)) ?_);rfl
 |x::y::z::r=>by
  show ((x::y::z::r).map (cI N)).map aU=((x::y::z::r).map fun c=>(aK N c,c)).map vE
  (rw[M1];refine aa M1 ?_)
  rfl
theorem Ae:Yc " xmlns:"=Yc " "++Yc "xmlns:":=by decide+kernel
theorem mQ(L:List (Str×Int))(Yh:Str):Yh++fL (L.map vE)=L.foldl aT Yh:=by
 unfold fL;refine aa (zG _ _) (aa M1 (aa List.foldl_map ?_));refine congrArg (fun f=>L.foldl f Yh) (funext fun pg=>funext fun p=>?_);unfold aT vE;refine aa Ae ?_;simp only[Function.comp_apply,cH]
theorem tT(N F:X9)(Yh:Str):(if aX (F.map (cI N))=[] then[] else[fL (aX (F.map (cI N)))]).foldl (·++·) Yh=(bu (az N F)).foldl aT Yh:=by
 refine aa (jh _ _) ?_
 cases bu (az N F) with
 |nil=>rfl
 |cons x L=>
  exact aa (KM (by exact Ph _ _)) (mQ (x::L) Yh)
def AU(xn:Str):Option Str->Str
 |none=>⟨#[]⟩
 |some p=>p++Yc ":"++xn
theorem qu(N F:X9)(QK tg:Str)(Qu:Option Str)(xn Yh:Str):(aW QK tg (aX (F.map (cI N))) Qu xn).foldl (·++·) Yh=
  (bu (az N F)).foldl aT (Yh++Yc "<"++(QK++Yc ":"++tg))++Yc ">"++AU xn Qu:=by
 unfold aW
 (refine aa L7 (aa NQ (aa (tT _ _ _) ?_));rw[←cH Yh])
 cases Qu with
 |none=>exact(congrArg Str.mk Array.append_empty).symm
 |some p=>rfl
theorem cy(l:List α)(x d:α):(l++[x]).getD l.length d=x:=by
 refine aa KR (aa (LS (KZ _)) (aa (OY _) ?_));rfl
def bJ(c m:Int):X9:=[c,m].filter fun c=>decide (0<=c)
theorem sU(h:means.length=Yd.length)(c m:Int):aP (Yd++[c]) (means++[m])=aP Yd means++[bJ c m]:=by
 unfold aP;refine aa KH (aa M8 (aa List.range_succ (aa KN ?_)))
 congr 1
 ·refine MI fun s hs=>?_
  have hs:=NV.mp hs;unfold cJ;exact aa (cM hs) (aa (cM (h▸hs)) rfl)
 ·show [cJ _ _ _]=_
  unfold cJ;exact aa (cy _ _ _) (ae h (aa (cy _ _ _) rfl))
theorem eB(Yd means:X9):(aP Yd means).length=Yd.length:=by unfold aP;exact aa (KE _) (aa Oo rfl)
theorem jY(h:s<Yd.length):(aP Yd means).getD s []=cJ Yd means s:=by
 unfold aP;exact aa KR (aa LV (aa (List.getElem?_range h) rfl))
theorem yQ(hc:∀ x∈Yd,ai x)(hm:∀ x∈means,-1<=x/\x<32768)(hl:means.length=Yd.length):jF (aP Yd means):=fun u hu c hcu=>by
 obtain⟨s,hs,rfl⟩:=KI.mp hu;have hs:=NV.mp hs;obtain⟨h1,h2⟩:=Le.mp hcu;rcases KG.mp h1 with rfl|h1
 ·exact hc _ (bi hs)
 ·rw[KD.mp h1] at h2⊢
  exact⟨Np h2,(hm _ (bi (hl▸hs))).2⟩
theorem pN(n:Nat):cV (n:Int)=n:=KM (Fw)
theorem pM(n:Nat):cV (-1-(n:Int))=n:=by
 unfold cV;refine aa (KW (Fy)) ?_;exact B6
structure ei(Yd Ye means:X9):Prop where
 hl:Ye.length=Yd.length
 ml:means.length=Yd.length
 hh:bP Ye
 c0:∀ x∈Yd,ai x
 m0:∀ x∈means,-1<=x/\x<32768
theorem ei.us(h:ei Yd Ye means):jF (aP Yd means):=yQ h.c0 h.m0 h.ml
theorem ei.need(h:ei Yd Ye means)(hs:s<Yd.length)(hc:c∈cJ Yd means s):c∈af (aP Yd means):=
 (dG h.us).mpr ⟨cJ Yd means s,KU (NV.mpr hs),hc⟩
theorem ei.codeAt(h:ei Yd Ye means)(hs:s<Yd.length):Yd.getD s 0∈af (aP Yd means):=
 h.need hs (Le.mpr ⟨.head _,KV (h.c0 _ (bi hs)).1⟩)
theorem uK{Yd Ye means:X9}(h:ei Yd Ye means){c ho m:Int}{u:X9}{M:X9}{Yh:Str}{s:Nat}(hs:s<Yd.length){k:Int}(hk:k=s∨k=-1-(s:Int)):
  bg (Yd++[c]) (Ye++[ho]) (means++[m]) (aP Yd means++[u]) (af (aP Yd means)++M) Yh k=bg Yd Ye means (aP Yd means) (af (aP Yd means)) Yh k:=by
 have e1:cV k=(s:Int):=by rcases hk with rfl|rfl;exact pN s;exact pM s
 have e2:bb (Yd++[c]) (af (aP Yd means)++M) s=bb Yd (af (aP Yd means)) s:=by
  unfold bb;exact aa (cM hs) (aa (lr (h.codeAt hs)) rfl)
 have e3:az (af (aP Yd means)++M) (aQ (aP Yd means++[u]) (Ye++[ho]) s)=az (af (aP Yd means)) (aQ (aP Yd means) Ye s):=by
  refine aa (kN h.hh (by rw[eB,h.hl]) (by rw[h.hl];exact hs)) ?_;refine MI fun x hx=>?_;have hx:=dg.mp (Le.mp hx).1;rw[jY hs] at hx;exact aa (lr (h.need hs hx)) rfl
 have e4:eR (Yd++[c]) (means++[m]) (af (aP Yd means)++M) s=eR Yd means (af (aP Yd means)) s:=by
  unfold eR;refine aa (cM hs) (aa (cM (h.ml▸hs)) ?_)
  split
  ·rename_i q
   exact aa (lr (h.need hs (Le.mpr ⟨aJ,KV q⟩))) rfl
  ·rfl
 unfold bg
 (refine aa e1 (aa (K8 _) ?_);rw[e2];exact aa e3 (aa e4 rfl))
theorem oH(ok:bP Ye):∀ (f:Nat) (s:Int),-1<=s->s<Ye.length->∀ o∈bw Ye f s,o<=s
 |0,_,_,_,_,h=>nomatch h
 |f+1,s,h0,h1,o,ho=>by
  unfold bw at ho
  split at ho
  ·cases ho
  ·rename_i hs
   obtain⟨g0,g1⟩:=ok s.toNat (mK h0 hs h1);rcases KG.mp ho with rfl|ho
   ·exact Int.le_refl _
   ·have:=oH ok f _ g0 (vt h0 hs h1 g1) o ho
    exact FC h0 hs g1 this
def DS.us(d:DS):List X9:=aP d.Yd d.means
def DS.N(d:DS):X9:=af d.us
def DS.chain(d:DS):X9:=aj d.Ye d.Yl
def DS.declAt(d:DS)(s:Int):List UP:=(aQ d.us d.Ye s.toNat).map (cI d.N)
def jd(p:Int×Int):UP:=(ac p.2,n4 (ac p.2))
def DS.nsAt(d:DS)(s:Int):List UP:=(d.Yy.filter fun p=>p.1==s).map jd
def DS.tagAt(d:DS)(s:Int):Str×Str:=(ac (d.Yd.getD s.toNat 0),ao s.toNat)
structure dz(d:DS)(j:Nat):Prop where
 ll:ei d.Yd d.Ye d.means
 mr:∀ k∈d.marks,aM (fun(s:Nat)=>s<d.Yd.length) (fun s=>(k=s∨k=-1-(s:Int)))
 t0:∀ p∈d.Yy,ai p.2/\p.1<d.Yd.length
 h0:-1<=d.Yl
 h1:d.Yl<d.Yd.length
 hz:∀ s:Nat,0<s->s<d.Yd.length->0<=d.Ye.getD s (-1)
 cz:d.Yd.length<=j
 tz:d.Yy.length<=j
structure cX(d:DS)(a:AW)(st:List (Str×Str))(j P:Nat):Prop where
 ok:dz d j
 Yg:a.Yg=none
 data:a.data=none
 Yh:Txt.join (Yc "") a.Yh=d.text
 pm:a.pm=bX d.N
 decl:a.decl=[bq]::(d.chain.map d.declAt).reverse
 ns:a.ns=[]::(d.chain.map d.nsAt).reverse
 st:st=(d.chain.map d.tagAt).reverse
 YO:a.Yh.length<=P
 pgx:∀ x∈a.Yh,x.length<=4000
theorem dz.Yl(h:dz d j)(h0:0<=d.Yl):fJ (fun(s:Nat)=>d.Yl=s) (fun s=>s<d.Yd.length) (fun s=>d.chain=(s:Int)::aj d.Ye (d.Ye.getD s (-1))):=by
 have h1:=h.h1;refine⟨d.Yl.toNat,(OL h0).symm,iV h0 h1,?_⟩;unfold DS.chain;exact aa (eH h.ll.hh h0 (by rw[h.ll.hl];exact h1)) (aa (OL h0) rfl)
theorem dz.chainIn(h:dz d j)(ho:o∈d.chain):0<=o/\o<d.Yd.length:=by
 refine ae h.ll.hl ?_;exact fN h.ll.hh _ _ h.h0 (by refine aa h.ll.hl ?_;exact h.h1) o ho
theorem dz.chainLen(h:dz d j):d.chain.length<=j:=by
 have:=dF h.ll.hh (d.Ye.length+1) d.Yl h.h0 (by refine aa h.ll.hl ?_;exact h.h1);have h1:=h.h1;have h2:=h.cz;refine KF this ?_;exact Fo h1 h2
theorem dz.usOk(h:dz d j):jF d.us:=h.ll.us
theorem dz.nOk(h:dz d j):∀ c∈d.N,ai c:=fun c hc=>by
 obtain⟨u,hu,hcu⟩:=(dG h.usOk).mp hc;exact h.usOk u hu c hcu
theorem pV(Yd means:X9)(s:Nat):(cJ Yd means s).length<=2:=M7 _ _
theorem dz.nLen(h:dz d j):d.N.length<=2*j:=by
 refine KF (nj fun u hu=>?_) ?_
 ·obtain⟨s,_,rfl⟩:=KI.mp hu
  exact pV _ _ s
 ·exact aa (show d.us.length=d.Yd.length from eB _ _) (Mj 2 h.cz)
theorem ez(h:ai c):(ac c).length=10:=by
 obtain⟨n,rfl,hn⟩:=h.nat;exact aa (fX n hn) (aa (bN _) (aa (e9 _) rfl))
theorem yI(h:ai c):ac c≠bq.1:=fun e=>by
 have e2:=congrArg Str.length e;rw[ez h] at e2;exact absurd e2 (by decide+kernel)
theorem rb(h:N.length<=2*j)(hj:j<=20)(c:Int):(aK N c).length<=1000:=by
 have:=List.idxOf_le_length (a:=c) (l:=N);exact(nP (N.idxOf c) (by exact L3 [_,_,_] (.a V2 W1) (.n 64) 1 V0 (.m 2 V1) 2 V1 (.n 20) 1 V2 V0 rfl h hj this)).1
theorem yE(h:∀ c∈N,ai c)(nd:N.Nodup):bK (bX N):=by
 refine⟨fun i x hx=>?_,?_,fun x hx=>?_⟩
 ·unfold bX at hx
  rw[LV] at hx;obtain⟨c,hc,rfl⟩:=Ls.mp hx;obtain⟨hi,rfl⟩:=Lj.mp hc;show aK N N[i]=_;unfold aK;exact aa (nd.idxOf_getElem i hi) rfl
 ·unfold bX
  exact aa M1 (lb nd fun a ha b hb e=>mA (h a ha) (h b hb) e)
 ·obtain⟨c,hc,rfl⟩:=KI.mp hx
  show (ac c).length<=1000;refine aa (ez (h c hc)) ?_;decide
theorem dz.YC(h:dz d j):bK (bX d.N):=yE h.nOk (wL _ h.usOk)
noncomputable def DS.F (d:DS) (l:X9):X9:=l.flatMap fun s=>aQ d.us d.Ye s.toNat
noncomputable def DS.A(d:DS)(l:X9):X9:=l.flatMap fun s=>d.us.getD s.toNat []
theorem mX(d:DS)(l:X9):aB ([bq]::(l.map d.declAt).reverse)=(d.F l).map (cI d.N)++[bq]:=by
 unfold aB;refine aa Ml (aa (List.reverse_reverse _) (aa List.flatten_append ?_))
 congr 1
 unfold DS.F;exact aa Pi (aa List.flatMap_def rfl)
theorem dz.fresh(h:dz d j):∀ (n:Nat) (s:Int),-1<=s->s<d.Yd.length->(s+1).toNat<=n->(c∈d.F (aj d.Ye s)↔c∈d.A (aj d.Ye s))
 |n,s,h0,h1,hn=>by
  rcases Int.lt_or_le s 0 with q|q
  ·exact aa (show s=-1 from B5 h0 q) (aa (dW _) Iff.rfl)
  ·cases n with
   |zero=>exact FD q hn
   |succ n=>
    obtain⟨g0,g1⟩:=h.ll.hh s.toNat (by refine aa h.ll.hl ?_;exact iV q h1);have ih:=h.fresh (c:=c) n (d.Ye.getD s.toNat (-1)) g0 (tB q h1 g1) (Fg q hn g1);refine aa (eH h.ll.hh q (by rw[h.ll.hl];exact h1)) ?_;unfold DS.F DS.A at ih⊢
    (refine aa MX (aa MX ?_);rw[KK,KK,ih])
    unfold aQ
    (rw[Le,dg];refine aa MH ?_)
    unfold cK
    constructor
    ·rintro(⟨h1,_⟩|h2)
     ·exact .inl h1
     ·exact .inr h2
    ·rintro(h1|h2)
     ·by_cases hc:c∈(aj d.Ye (d.Ye.getD s.toNat (-1))).flatMap fun o=>d.us.getD o.toNat []
      ·exact .inr hc
      ·exact .inl ⟨h1,hc⟩
     ·exact .inr h2
theorem dz.fresh'(h:dz d j):c∈d.F d.chain↔c∈d.A d.chain:=h.fresh _ _ h.h0 h.h1 (KZ _)
theorem dz.aN(h:dz d j)(hc:c∈d.A d.chain):c∈d.N:=by
 obtain⟨s,hs,Uc⟩:=M6.mp hc;have hs:=h.chainIn hs;have S7:s.toNat<d.us.length:=by refine aa (show d.us.length=d.Yd.length from eB _ _) ?_;exact iV hs.1 hs.2
 exact(dG h.usOk).mpr ⟨_,bi S7,Uc⟩
theorem dz.Ym(h:dz d j):rB (aB ([bq]::(d.chain.map d.declAt).reverse)) (d.A d.chain) d.N:=by
 have Qb:∀ c,ai c->aY (aB ([bq]::(d.chain.map d.declAt).reverse)) (ac c)=if c∈d.F d.chain then some (aK d.N c) else none:=fun c hc=>by
  have h1:aY ((d.F d.chain).map (cI d.N)) (ac c)=if c∈d.F d.chain then some (aK d.N c) else none:=gK hc fun x hx=>h.nOk x (h.aN (h.fresh'.mp hx))
  have h2:aY [bq] (ac c)=none:=by
   unfold aY;exact aa (List.find?_cons_of_neg (by simpa using fun e=>yI hc e.symm)) rfl
  (refine aa (mX _ _) (aa (jq _ _ _) ?_);rw[h1];refine aa h2 ?_)
  split<;>rfl
 refine⟨fun c hc=>⟨aK d.N c,?_⟩,fun c hc hn=>?_,fun c hc=>h.aN hc⟩
 ·exact aa (Qb c (h.nOk c (h.aN hc))) (aa (KW (h.fresh'.mpr hc)) rfl)
 ·exact aa (Qb c hc) (aa (KM fun q=>hn (h.fresh'.mp q)) rfl)
theorem A0(h:c∈N):cI N c∈bX N:=KU h
theorem dz.dk(h:dz d j):bj (aB ([bq]::(d.chain.map d.declAt).reverse)) (bX d.N):=fun x hx=>by
 rw[mX] at hx;rcases KK.mp hx with hx|hx
 ·obtain⟨c,hc,rfl⟩:=KI.mp hx
  exact .inl (A0 (h.aN (h.fresh'.mp hc)))
 ·exact .inr (KD.mp hx)
theorem m9(us:List X9)(Ye:X9)(s:Nat)(h:∀ u∈us,u.length<=2):(aQ us Ye s).length<=2:=by
 unfold aQ;refine KF (M7 _ _) ?_;refine aa ((bo _).length_eq) ?_;refine KF (iD _) ?_;rcases M3 s us.length with q|q
 ·exact h _ (bi q)
 ·refine aa KR (aa (NM q) ?_);exact K0 2
theorem vA(d:DS):∀ u∈d.us,u.length<=2:=fun u hu=>by
 obtain⟨s,_,rfl⟩:=KI.mp hu;exact pV _ _ s
theorem ui(h:∀ x∈l,x.length<=k):(aB l).length<=k*l.length:=by
 unfold aB;refine aa List.length_flatten (aa List.map_reverse (aa (List.sum_reverse _) ?_))
 induction l with
 |nil=>exact K0 _
 |cons x l ih=>
  exact aa LA (aa List.sum_cons (aa Lc (aa (Nat.mul_succ _ _) (aa (Nat.add_comm _ _) (Ny (ih fun y hy=>h y (.tail _ hy)) (h x (.head _)))))))
theorem Ao(hc:ai c):(n4 (ac c)).length=4:=by
 obtain⟨n,rfl,hn⟩:=hc.nat;exact aa (hH n hn) (aa (bN _) rfl)
theorem dz.nsRow(h:dz d j)(hp:p∈d.nsAt s):p.1.length<=1000/\p.2.length<=1000:=by
 unfold DS.nsAt at hp;obtain⟨q,hq,e⟩:=KI.mp hp;have hc:=(h.t0 q (Le.mp hq).1).1;refine ae e ?_;unfold jd;dsimp only
 (rw[ez hc];refine aa (Ao hc) ?_)
 decide
theorem dz.nsLen(h:dz d j)(s:Int):(d.nsAt s).length<=j:=by
 unfold DS.nsAt;exact aa (KE _) (KF (M7 _ _) h.tz)
theorem cX.declLen{d:DS}{a:AW}{st:List (Str×Str)}{j P:Nat}(h:cX d a st j P):a.decl.length<=j+1:=by
 exact aa h.decl (aa Lc (aa List.length_reverse (aa (KE _) (Ms h.ok.chainLen))))
theorem cX.nsLen{d:DS}{a:AW}{st:List (Str×Str)}{j P:Nat}(h:cX d a st j P):a.ns.length<=j+1:=by
 exact aa h.ns (aa Lc (aa List.length_reverse (aa (KE _) (Ms h.ok.chainLen))))
theorem cX.stLen{d:DS}{a:AW}{st:List (Str×Str)}{j P:Nat}(h:cX d a st j P):st.length=d.chain.length:=by
 exact aa h.st (aa List.length_reverse (aa (KE _) rfl))
structure B9(a:AW):Prop where
 YC:bK a.pm
 dk:bj (aB a.decl) a.pm
 YL:a.pm.length<=40
 il:∀ l∈a.decl,l.length<=1000
 fl:(aB a.decl).length<=900
 nl:∀ l∈a.ns,l.length<=1000
 nn:a.ns.length<=1000
 ne:a.ns≠[]
 nu:∀ p∈aB a.ns,p.1.length<=1000/\p.2.length<=1000
 dn:a.decl≠[]
 dl:a.decl.length<=1000
theorem cX.fits{d:DS}{a:AW}{st:List (Str×Str)}{j P:Nat}(h:cX d a st j P)(hj:j<=15):B9 a:=by
 have hd:=h.declLen;have hn:=h.nsLen;have d2:∀ l∈a.decl,l.length<=2:=fun l hl=>by
  rw[h.decl] at hl;rcases KG.mp hl with rfl|hl
  ·exact MD 1
  ·obtain⟨s,_,rfl⟩:=KI.mp (Pj.mp hl)
   unfold DS.declAt;exact aa (KE _) (m9 _ _ _ (vA d))
 have n2:∀ l∈a.ns,l=[]∨∃ s,l=d.nsAt s:=fun l hl=>by
  rw[h.ns] at hl;rcases KG.mp hl with rfl|hl
  ·exact .inl rfl
  ·obtain⟨s,_,rfl⟩:=KI.mp (Pj.mp hl)
   exact .inr ⟨s,rfl⟩
 refine⟨by refine aa h.pm ?_;exact h.ok.YC,by refine aa h.pm (aa h.decl ?_);exact h.ok.dk,?_,fun l hl=>KF (d2 l hl) (by decide),?_,fun l hl=>?_,by exact L2 [_,_] V1 (.n 1000) 1 V0 (.n 15) 1 V1 (.a V0 W1) rfl hj hn,by refine aa h.ns ?_;exact Ph _ _,fun p hp=>?_,by refine aa h.decl ?_;exact Ph _ _,by exact L2 [_,_] V1 (.n 1000) 1 V0 (.n 15) 1 V1 (.a V0 W1) rfl hj hd⟩
 ·refine aa h.pm ?_
  unfold bX;refine aa (KE _) ?_;have:=h.ok.nLen;exact L2 [_,_] V1 (.n 40) 2 V0 (.n 15) 1 V1 (.m 2 V0) rfl hj this
 ·have:=ui d2
  exact L3 [_,_,_] V2 (.n 900) 2 V0 (.n 15) 2 V1 (.a V0 W1) 1 V2 (.m 2 V1) rfl hj hd this
 ·rcases n2 l hl with rfl|⟨s,rfl⟩
  ·exact K0 _
  ·have:=h.ok.nsLen s
   exact L2 [_,_] V1 (.n 1000) 1 V0 (.n 15) 1 V1 V0 rfl hj this
 ·obtain⟨l,hl,hp⟩:=List.mem_flatten.mp hp
  rcases n2 l (Pj.mp hl) with rfl|⟨s,rfl⟩
  ·cases hp
  ·exact h.ok.nsRow hp
theorem cX.good{d:DS}{a:AW}{st:List (Str×Str)}{j P:Nat}(h:cX d a st j P)(hj:j<=15)(hP:P<=200):eD a:=by
 have f:=h.fits hj;exact⟨f.YC,f.dk,f.YL,f.il,f.fl,f.nl,KF f.nn (by decide),f.ne,f.nu,KF h.YO (KF hP (by decide)),fun p q e=>(by rw[h.data] at e;cases e),
  fun u tg e=>(by rw[h.Yg] at e;cases e),fun _=>h.Yg,fun e=>absurd h.data e,fun u tg p q u2 e=>(by rw[h.Yg] at e;cases e)⟩
theorem cX.endOk{d:DS}{a:AW}{st:List (Str×Str)}{j P:Nat}(h:cX d a st j P)(hj:j<=15)(hP:P<=200)(h0:0<=d.Yl):iX a (d.tagAt d.Yl).1 (d.tagAt d.Yl).2:=by
 have f:=h.fits hj;obtain⟨s,e,hs,QD⟩:=h.ok.Yl h0;have Q0:=h.ok.ll.c0 _ (bi (d:=0) hs);refine⟨f.YC,f.dk,KF f.YL (by decide),f.il,f.fl,f.dn,KF f.dl (by decide),KF f.nn (by decide),f.ne,KF h.YO (KF hP (by decide)),?_,?_⟩
 ·refine aa e ?_;exact mM Q0 s
 ·refine aa h.decl (aa e ?_)
  have hA:d.Yd.getD s 0∈d.A d.chain:=by
   unfold DS.A;refine aa QD (aa MX ?_);refine Ky _ ?_;exact aa (show d.us.getD (s:Int).toNat []=cJ d.Yd d.means s from jY hs) (Le.mpr ⟨.head _,KV Q0.1⟩)
  obtain⟨p,hp⟩:=h.ok.Ym.some _ hA;show aY _ (ac (d.Yd.getD s 0))≠none;exact aa hp (fun q=>nomatch q)
theorem Bc{d:DS}{c:Int}:∀ s,s≠d.Yl->(d.tell c).nsAt s=d.nsAt s:=fun s hs=>by
 unfold DS.nsAt;show ((d.Yy++[(d.Yl,c)]).filter _).map _=_;refine aa (MM _ _) (aa (O5 (by simpa using fun e=>hs e.symm)) ?_);simp
theorem cX.tell{d:DS}{a:AW}{st:List (Str×Str)}{j P:Nat}(h:cX d a st j P){c:Int}(hc:ai c)(h0:0<=d.Yl):cX (d.tell c) (uW (n4 (ac c)) (ac c) a) st (j+1) P:=by
 obtain⟨s,e,hs,QD⟩:=h.ok.Yl h0;have UW:∀ l:X9,(∀ o∈l,o≠d.Yl)->l.map (d.tell c).nsAt=l.map d.nsAt:=fun l hl=>MI fun o ho=>Bc o (hl o ho);refine⟨⟨h.ok.ll,h.ok.mr,fun p hp=>?_,h.ok.h0,h.ok.h1,h.ok.hz,MG h.ok.cz,?_⟩,h.Yg,h.data,h.Yh,h.pm,h.decl,?_,h.st,h.YO,h.pgx⟩
 ·rcases KK.mp hp with hp|hp
  ·exact h.ok.t0 p hp
  ·exact aa (KD.mp hp) ⟨hc,h.ok.h1⟩
 ·show (d.Yy++_).length<=_
  exact aa KH (Ms h.ok.tz)
 ·show a.ns.dropLast++[a.ns.getLast?.getD []++[(ac c,n4 (ac c))]]=[]::(d.chain.map (d.tell c).nsAt).reverse
  (refine aa h.ns (aa QD (aa LA (aa LA (aa Ml (aa Ml (ae Mb (ae Mb (aa LN (aa Ni (aa Option.getD_some ?_))))))))));rw[UW];refine aa Mb ?_)
  ·congr 3
   unfold DS.nsAt;show _=((d.Yy++[(d.Yl,c)]).filter _).map _;exact aa (MM _ _) (aa (O6 (by simp[e])) (aa KN rfl))
  ·intro o ho
   obtain⟨g0,g1⟩:=h.ok.ll.hh s (by refine aa h.ok.ll.hl ?_;exact hs);have:=oH h.ok.ll.hh _ _ g0 (by refine aa h.ok.ll.hl ?_;exact vG g1 hs) o ho;exact FE e g1 this
theorem nH(Yd Ye means marks:X9)(k:Int):bO Yd Ye means (marks++[k])=bg Yd Ye means (aP Yd means) (af (aP Yd means)) (bO Yd Ye means marks) k:=by
 unfold bO;exact aa NQ rfl
theorem pw(hN:∀ x∈N,ai x)(hc:ai c)(h:c∈N):preOf (bX N) (ac c)=aK N c:=by
 have h2:b8 (bX N) (ac c)=if c∈N then some (aK N c) else none:=gK hc hN
 unfold preOf;exact aa h2 (aa (KW h) rfl)
theorem cX.close{d:DS}{a:AW}{st:List (Str×Str)}{j P:Nat}(h:cX d a st j P)(hj:j<=15)(h0:0<=d.Yl):
  cX d.close (iF (d.tagAt d.Yl).1 (d.tagAt d.Yl).2 a) st.dropLast j (P+1)/\st.getLast?=some (d.tagAt d.Yl):=by
 obtain⟨s,e,hs,QD⟩:=h.ok.Yl h0;have Q0:=h.ok.ll.c0 _ (bi (d:=0) hs);obtain⟨g0,g1⟩:=h.ok.ll.hh s (by refine aa h.ok.ll.hl ?_;exact hs);have QU:d.close.chain=aj d.Ye (d.Ye.getD s (-1)):=by
  unfold DS.chain DS.close;exact aa e (aa (K8 _) rfl)
 have hx:Yc "</"++(preOf a.pm (d.tagAt d.Yl).1++Yc ":"++(d.tagAt d.Yl).2)++Yc ">"=Yc "</"++bb d.Yd d.N s++Yc ">":=by
  refine aa h.pm (aa e ?_);show Yc "</"++(preOf (bX d.N) (ac (d.Yd.getD s 0))++_++ao s)++_=_;exact aa (pw h.ok.nOk Q0 (h.ok.ll.codeAt hs)) rfl
 refine⟨⟨⟨h.ok.ll,fun k hk=>?_,h.ok.t0,?_,?_,h.ok.hz,h.ok.cz,h.ok.tz⟩,h.Yg,h.data,?_,h.pm,?_,?_,?_,?_,?_⟩,?_⟩
 ·rcases KK.mp hk with hk|hk
  ·exact h.ok.mr k hk
  ·exact⟨s,hs, .inr (by exact aa (KD.mp hk) (aa e rfl))⟩
 ·show-1<=d.Ye.getD d.Yl.toNat (-1)
  refine aa e (aa (K8 _) ?_);exact g0
 ·show d.Ye.getD d.Yl.toNat (-1)<_
  exact aa e (aa (K8 _) (Int.lt_trans g1 (LC.mpr hs)))
 ·show Txt.join (Yc "") (a.Yh++[_])=bO d.Yd d.Ye d.means (d.marks++[-1-d.Yl])
  refine aa (oX _ _) (aa (nH _ _ _ _ _) (aa h.Yh (aa hx (aa e ?_))));unfold bg;refine aa (KW (tU h0 e)) (aa (pM _) (aa (K8 _) ?_));show d.text++(_++_++_)=bO _ _ _ _++_++_++_;rw[cH,cH,cH]
  rfl
 ·show a.decl.dropLast=[bq]::(d.close.chain.map d.declAt).reverse
  exact aa h.decl (aa QD (aa LA (aa Ml (ae Mb (aa LN (aa QU rfl))))))
 ·show a.ns.dropLast=[]::(d.close.chain.map d.nsAt).reverse
  exact aa h.ns (aa QD (aa LA (aa Ml (ae Mb (aa LN (aa QU rfl))))))
 ·show st.dropLast=(d.close.chain.map d.tagAt).reverse
  exact aa h.st (aa QD (aa LA (aa Ml (aa LN (aa QU rfl)))))
 ·show (a.Yh++[_]).length<=P+1
  exact aa KH (Ms h.YO)
 ·intro x hx2
  rcases KK.mp hx2 with hx2|hx2
  ·exact h.pgx x hx2
  ·refine aa (KD.mp hx2) (aa hx ?_)
   have h1:=rb h.ok.nLen (bd hj) (d.Yd.getD s 0);have h2:(Yc "</").length=2/\(Yc ">").length=1/\(Yc ":").length=1:=by decide+kernel
   unfold bb;have e3:(ao s).length=1:=aa (du _) (aa (bN _) rfl);simp only[KB,h2.1,h2.2.1,h2.2.2,e3];exact L1 [_] (.a (.a (.n 2) (.a (.a V0 W1) W1)) W1) (.n 4000) 1 V0 (.n 1000) rfl h1
 ·exact aa h.st (aa QD (aa LA (aa Ml (aa Ni (aa e rfl)))))
noncomputable def DS.push (d:DS) (c m:Int):DS:=⟨d.Yd++[c],d.Ye++[d.Yl],d.means++[m],d.marks++[(d.Yd.length:Int)],d.Yy,(d.Yd.length:Int)⟩
theorem ei.snoc{Yd Ye means:X9}(h:ei Yd Ye means){c ho m:Int}(hc:ai c)(hm:-1<=m/\m<32768)(h0:-1<=ho)(h1:ho<Yd.length):ei (Yd++[c]) (Ye++[ho]) (means++[m]):=by
 refine⟨?_,?_,fun i hi=>?_,fun x hx=>?_,fun x hx=>?_⟩
 ·refine aa KH (aa KH (aa h.hl ?_));rfl
 ·refine aa KH (aa KH (aa h.ml ?_));rfl
 ·rw[KH,M8] at hi
  refine aa (iG (No hi)) ?_
  split
  ·rename_i e
   exact aa e (aa h.hl ⟨h0,h1⟩)
  ·rename_i e
   exact h.hh i (u5 hi e)
 ·rcases KK.mp hx with hx|hx
  ·exact h.c0 x hx
  ·refine aa (KD.mp hx) ?_;exact hc
 ·rcases KK.mp hx with hx|hx
  ·exact h.m0 x hx
  ·refine aa (KD.mp hx) ?_;exact hm
theorem dz.push{d:DS}{j:Nat}(h:dz d j){c m:Int}(hc:ai c)(hm:-1<=m/\m<32768)(hr:0<d.Yd.length->0<=d.Yl):dz (d.push c m) (j+1):=by
 have hl:(d.Yd++[c]).length=d.Yd.length+1:=aa KH rfl;refine⟨h.ll.snoc hc hm h.h0 h.h1,fun k hk=>?_,fun p hp=>⟨(h.t0 p hp).1,?_⟩,?_,?_,fun s s0 s1=>?_,?_,MG h.tz⟩
 ·show aM (fun(s:Nat)=>s<(d.Yd++[c]).length) _
  refine aa hl ?_;rcases KK.mp hk with hk|hk
  ·obtain⟨s,hs,q⟩:=h.mr k hk
   exact⟨s,LG hs,q⟩
  ·exact⟨d.Yd.length,LP _, .inl (KD.mp hk)⟩
 ·show p.1<((d.Yd++[c]).length:Int)
  have:=(h.t0 p hp).2;refine aa hl ?_;exact A1 this
 ·show-1<=(d.Yd.length:Int)
  exact iW
 ·show (d.Yd.length:Int)<((d.Yd++[c]).length:Int)
  refine aa hl ?_;exact u6
 ·show 0<=(d.Ye++[d.Yl]).getD s (-1)
  have s1:s<(d.Yd++[c]).length:=s1;rw[hl] at s1;refine aa (iG (by rw[h.ll.hl];exact L1 [_,_] V0 V1 1 (.a V0 W1) (.a V1 W1) rfl s1)) ?_
  split
  ·exact hr (by rename_i e;rw[h.ll.hl] at e;exact q2 s0 e)
  ·rename_i e
   rw[h.ll.hl] at e;exact h.hz s s0 (u5 s1 e)
 ·show (d.Yd++[c]).length<=j+1
  refine aa hl ?_;exact Ms h.cz
theorem lR(h:∀ x,x∈a↔x∈b):aF (dd a)=aF (dd b):=dX (cZ _) (cZ _) fun x=>by rw[dg,dg,h]
theorem vB(hc:ai c)(hm:-1<=m/\m<32768):vH (fun(L:X9)=>(∀ tg xn,dS (ac c) tg xn (if 0<=m then some (ac m) else none)=L.map ac)) (fun L=>(∀ x∈L,ai x)) (fun L=>(∀ N,L.foldl ce N=N++(aF (dd (bJ c m))).filter fun x=>decide (x∉N))) (fun L=>∀ A,L.foldl (dc A) []=(aF (dd (bJ c m))).filter fun x=>decide (x∉A)):=by
 by_cases h:0<=m
 ·have hm':ai m:=⟨h,hm.2⟩
  have hu:bJ c m=[c,m]:=by
   unfold bJ;simp[hc.1,h]
  have ho:bV (fun x y=>ph c m=[x,y]) (fun x y=>x<=y) (fun x y=>(∀ z,z∈[x,y]↔z∈[c,m])):=by
   unfold ph
   by_cases q:m<c
   ·refine aa (KW q) ?_
    exact⟨m,c,rfl,Nh q,fun z=>by simp only[KG,Lw,O0];exact Or.comm⟩
   ·exact aa (KM q) ⟨c,m,rfl,Oe.mp q,fun z=>Iff.rfl⟩
  obtain⟨x,y,e,hxy,hz⟩:=ho;refine⟨ph c m,fun tg xn=>by refine aa (KW h) ?_;exact vy hc hm' tg xn,fun z q=>?_,fun N=>?_,fun A=>?_⟩
  ·rw[e,hz] at q
   rcases KG.mp q with rfl|q
   ·exact hc
   ·refine aa (KD.mp q) ?_;exact hm'
  ·exact aa e (aa (mY hxy) (aa hu (aa (lR hz) rfl)))
  ·exact aa e (aa (mZ hxy) (aa hu (aa (lR hz) rfl)))
 ·have hu:bJ c m=[c]:=by
   unfold bJ;simp[hc.1,h]
  have hz:∀ z,z∈[c,c]↔z∈[c]:=fun z=>by simp
  refine⟨[c],fun tg xn=>by refine aa (KM h) ?_;rfl,fun z q=>by refine aa (KD.mp q) ?_;exact hc,fun N=>?_,fun A=>?_⟩
  ·have:=mY (N:=N) (Int.le_refl c)
   refine aa hu (ae (lR hz) (ae this ?_));show ce N c=ce (ce N c) c;have:=mP N c;generalize ce N c=q at this⊢;unfold ce;exact aa (KW this) rfl
  ·have:=mZ (A:=A) (Int.le_refl c)
   refine aa hu (ae (lR hz) (ae this ?_));show dc A [] c=dc A (dc A [] c) c;have:c∈dc A [] c∨c∈A:=by
    unfold dc
    split
    ·rename_i q;exact q
    ·exact .inl (by simp)
   generalize dc A [] c=q at this⊢;unfold dc;exact aa (KW this) rfl
theorem kL:∀ {l:List α} {b:β},(∀ b,∀ a∈l,f b a=g b a)->l.foldl f b=l.foldl g b
 |[],_,_=>rfl
 |x::l,b,h=>by(refine aa L7 ?_;rw[L7];exact aa (h b x (.head _)) (aa (kL fun b a ha=>h b a (.tail _ ha)) rfl))
theorem AS(hc:ai c):Txt.slice (av (ac c)) (some 4) none=Yc ":"++n9 (ac c):=by
 obtain⟨n,rfl,hn⟩:=hc.nat;refine aa (e7 n hn) (aa (fi n hn) (aa gj (aa (bZ _ _) (aa (e6 _) ?_))));exact jc (l:=[107,49,95,kc (n/4096),58]++(dw n).drop 1) (j:=4) (by refine aa KH ?_;exact Ol (KA rfl))
section
variable{d:DS}{j:Nat}{c m:Int}
theorem ew(h:dz d j):(d.push c m).us=d.us++[bJ c m]:=sU h.ll.ml c m
theorem pA(h:dz d j)(hc:ai c)(hm:-1<=m/\m<32768):(d.push c m).N=d.N++(aF (dd (bJ c m))).filter fun x=>decide (x∉d.N):=by
 unfold DS.N;refine aa (ew h) ?_;refine sd h.usOk fun x hx=>?_;obtain⟨h1,h2⟩:=Le.mp hx;rcases KG.mp h1 with rfl|h1
 ·exact hc
 ·rw[KD.mp h1] at h2⊢
  exact⟨Np h2,hm.2⟩
theorem ii(h:dz d j)(hc:ai c)(hm:-1<=m/\m<32768):(d.push c m).chain=(d.Yd.length:Int)::d.chain:=by
 have hh:=(h.ll.snoc hc hm h.h0 h.h1).hh;show aj (d.Ye++[d.Yl]) (d.Yd.length:Int)=_;refine aa (eH hh (iW) (by rw[KH,h.ll.hl,M8];exact u6)) (aa (K8 _) (ae h.ll.hl (aa (cy _ _ _) (aa (fM h.ll.hh h.h0 (by rw[h.ll.hl];exact h.h1)) ?_))))
 rfl
theorem ij(h:dz d j):aQ (d.push c m).us (d.push c m).Ye d.Yd.length=(aF (dd (bJ c m))).filter fun x=>decide (x∉d.A d.chain):=by
 have e1:(d.push c m).us.getD d.Yd.length []=bJ c m:=by exact aa (ew h) (aa (show d.Yd.length=d.us.length from(eB _ _).symm) (aa (cy _ _ _) rfl))
 have e2:cK (d.push c m).us (d.push c m).Ye d.Yd.length=d.A d.chain:=by
  unfold cK DS.A;show (aj (d.Ye++[d.Yl]) ((d.Ye++[d.Yl]).getD d.Yd.length (-1))).flatMap _=_;refine ae h.ll.hl (aa (cy _ _ _) (aa (fM h.ll.hh h.h0 (by rw[h.ll.hl];exact h.h1)) ?_));refine ea fun o ho=>?_;have:=h.chainIn ho;refine aa (ew h) ?_;exact cM (by refine aa (show d.us.length=d.Yd.length from eB _ _) ?_;exact iV this.1 this.2)
 unfold aQ;exact aa e1 (aa e2 rfl)
theorem pB(h:dz d j)(hc:ai c)(hm:-1<=m/\m<32768)(hs:s∈d.chain):(d.push c m).declAt s=d.declAt s/\(d.push c m).tagAt s=d.tagAt s:=by
 have hs:=h.chainIn hs;have S7:s.toNat<d.Yd.length:=iV hs.1 hs.2
 constructor
 ·unfold DS.declAt
  refine aa (pA h hc hm) (aa (ew h) ?_);show List.map _ (aQ _ (d.Ye++[d.Yl]) _)=_;refine aa (kN h.ll.hh (by rw[show d.us.length=d.Yd.length from eB _ _,h.ll.hl]) (by rw[h.ll.hl];exact S7)) ?_;refine g7 fun x hx=>?_;have hx:=dg.mp (Le.mp hx).1;rw[show d.us.getD s.toNat []=cJ d.Yd d.means s.toNat from jY S7] at hx;exact h.ll.need S7 hx
 ·unfold DS.tagAt
  show (ac ((d.Yd++[c]).getD s.toNat 0),_)=_;exact aa (cM S7) rfl
theorem va(h:dz d j)(hc:ai c)(hm:-1<=m/\m<32768):(d.push c m).text=
  (bu (az (d.push c m).N ((aF (dd (bJ c m))).filter fun x=>decide (x∉d.A d.chain)))).foldl aT (d.text++Yc "<"++(aK (d.push c m).N c++Yc ":"++ao d.Yd.length))++Yc ">"++
   (if 0<=m then aK (d.push c m).N m++Yc ":"++n9 (ac c) else av (ac c)):=by
 have Uv:aP (d.Yd++[c]) (d.means++[m])=d.us++[bJ c m]:=ew h;have hN:=pA h hc hm;have R7:bO (d.Yd++[c]) (d.Ye++[d.Yl]) (d.means++[m]) d.marks=d.text:=by
  unfold bO;refine aa Uv (aa (show af (d.us++[bJ c m])=(d.push c m).N by unfold DS.N;rw[ew h]) (aa hN ?_));refine kL fun pg k hk=>?_;obtain⟨s,hs,q⟩:=h.mr k hk;exact uK h.ll hs q
 show bO (d.Yd++[c]) (d.Ye++[d.Yl]) (d.means++[m]) (d.marks++[(d.Yd.length:Int)])=_;refine aa (nH _ _ _ _ _) (aa R7 ?_);unfold bg;refine aa (KM (Fz)) (aa (pN _) (aa (K8 _) ?_));have e1:aQ (aP (d.Yd++[c]) (d.means++[m])) (d.Ye++[d.Yl]) d.Yd.length=(aF (dd (bJ c m))).filter fun x=>decide (x∉d.A d.chain):=ij h;refine aa e1 ?_;unfold bb eR
 (refine aa (cy _ _ _) (aa (show (d.means++[m]).getD d.Yd.length 0=m by rw[←h.ll.ml,cy]) (aa (AS hc) ?_));rw[←cH _ (Yc ":") (n9 (ac c))])
 exact aa (show af (aP (d.Yd++[c]) (d.means++[m]))=(d.push c m).N from rfl) rfl
variable{b:AW}{st:List (Str×Str)}{P:Nat}
def fZ(m:Int):Option Str:=if 0<=m then some (ac m) else none
theorem DZ(hc:ai c):(n9 (ac c)).length=9/\(av (ac c)).length=14:=by
 obtain⟨n,rfl,hn⟩:=hc.nat;exact aa (fi n hn) (aa (e7 n hn) (aa (bN _) (aa (bN _) ⟨rfl,rfl⟩)))
theorem wy{β:Type}{f:Str->β->Str}{k:Nat}(add:∀ pg p,(f pg p).length=pg.length+(f ⟨#[]⟩ p).length)(l:List β):∀ pg,(∀ p∈l,(f ⟨#[]⟩ p).length<=k)->(l.foldl f pg).length<=pg.length+l.length*k:=by
 induction l with
 |nil=>intro pg _;exact Nz _ _
 |cons p r ih=>
  intro pg h;refine KF (ih (f pg p) fun q hq=>h q (.tail _ hq)) ?_;refine aa (add pg p) (aa Lc (aa (Nat.succ_mul _ _) ?_));have:=h p (.head _)
  lia
theorem fw(h:cX d b st j P)(hc:ai c)(hm:-1<=m/\m<32768)(hr:0<d.Yd.length->0<=d.Yl)(hj:j<15)(Ro:a.Yg=none)(Uf:a.data=none)
  (e1:a.pm=b.pm) (e2:a.ns=b.ns) (e3:a.Yh=b.Yh) (U1:tg=ao d.Yd.length):
  cX (d.push c m) (let s:=cq a b.decl (ac c) tg (fZ m) (n9 (ac c));{s with Yh:=s.Yh++(if 0<=m then[] else[av (ac c)])}) (st++[(ac c,tg)]) (j+1) (P+5):=by
 subst U1;obtain⟨L,l1,l2,l3,l4⟩:=vB hc hm;have hq:(aG (aB b.decl) ([],b.pm) (dS (ac c) (ao d.Yd.length) (n9 (ac c)) (fZ m))).2=(((aF (dd (bJ c m))).filter fun x=>decide (x∉d.A d.chain)).map (cI (d.push c m).N),bX (d.push c m).N):=by
  have:=vb (Ym:=aB b.decl) L (cur:=[]) (by rw[h.decl];exact h.ok.Ym) h.ok.nOk (fun _ q=>nomatch q) l2;rw[l3,l4,←pA h.ok hc hm] at this;refine aa h.pm ?_;unfold fZ;exact aa (l1 _ _) this
 have ok':=h.ok.push hc hm hr;have Uv:jF (d.push c m).us:=ok'.usOk;have hcN:c∈(d.push c m).N:=by
  refine(dG Uv).mpr ⟨bJ c m,?_,Le.mpr ⟨.head _,KV hc.1⟩⟩;exact aa (ew h.ok) (Kz _ (.head _))
 have Vx:0<=m->m∈(d.push c m).N:=fun q=>by
  refine(dG Uv).mpr ⟨bJ c m,?_,Le.mpr ⟨aJ,KV q⟩⟩;exact aa (ew h.ok) (Kz _ (.head _))
 have Ru:(fZ m).map (preOf (bX (d.push c m).N))=if 0<=m then some (aK (d.push c m).N m) else none:=by
  unfold fZ
  split
  ·rename_i q
   show some (preOf _ (ac m))=_;exact aa (pw ok'.nOk ⟨q,hm.2⟩ (Vx q)) rfl
  ·rfl
 have Qi:((aF (dd (bJ c m))).filter fun x=>decide (x∉d.A d.chain)).length<=2:=by
  have:=m9 (d.push c m).us (d.push c m).Ye d.Yd.length (vA _);rwa [ij h.ok] at this
 have hpt:=va h.ok hc hm;generalize hFR:((aF (dd (bJ c m))).filter fun x=>decide (x∉d.A d.chain))=FR at hq Qi hpt;have Wm:(cq a b.decl (ac c) (ao d.Yd.length) (fZ m) (n9 (ac c))).Yh=b.Yh++aW (aK (d.push c m).N c) (ao d.Yd.length) (aX (FR.map (cI (d.push c m).N))) (if 0<=m then some (aK (d.push c m).N m) else none) (n9 (ac c)):=by
  show a.Yh++aW (preOf (aG (aB b.decl) ([],a.pm) _).2.2 _) _ (aX (aG (aB b.decl) ([],a.pm) _).2.1) (Option.map (preOf (aG (aB b.decl) ([],a.pm) _).2.2) _) _=_;exact aa e1 (aa hq (aa e3 (aa (pw ok'.nOk hc hcN) (aa Ru rfl))))
 refine⟨ok',Ro,Uf,?_,?_,?_,?_,?_,?_,?_⟩
 ·show Txt.join (Yc "") ((cq a b.decl (ac c) (ao d.Yd.length) (fZ m) (n9 (ac c))).Yh++_)=_
  (refine aa Wm (aa (oX _ _) (aa (oX _ _) ?_));rw[qu];refine aa h.Yh ?_;rw[hpt])
  by_cases q:0<=m
  ·refine aa (KW q) (aa (KW q) (aa (KW q) ?_));rfl
  ·refine aa (KM q) (aa (KM q) (aa (KM q) ?_))
   show _++_++(⟨#[]⟩:Str)++av (ac c)=_;rw[cH _ ⟨#[]⟩,mx]
 ·show (aG (aB b.decl) ([],a.pm) _).2.2=_
  exact aa e1 (aa hq rfl)
 ·show b.decl++[(aG (aB b.decl) ([],a.pm) _).2.1]=_
  refine aa e1 (aa hq (aa (ii h.ok hc hm) (aa LA (aa Ml (ae Mb (aa (MI fun s hs=>(pB h.ok hc hm hs).1) (aa h.decl ?_)))))))
  congr 2
  show FR.map _=(aQ (d.push c m).us (d.push c m).Ye (d.Yd.length:Int).toNat).map _;exact aa (K8 _) (aa (ij h.ok) (aa hFR rfl))
 ·show a.ns++[[]]=_
  refine aa e2 (aa (ii h.ok hc hm) (aa LA (aa Ml (ae Mb (aa h.ns ?_)))))
  congr 2
  unfold DS.nsAt;show []=(d.Yy.filter _).map _;rw[List.filter_eq_nil_iff.mpr fun p hp q=>?_]
  ·rfl
  ·have:=(h.ok.t0 p hp).2
   have:=eq_of_beq q
   lia
 ·have ht:(d.push c m).tagAt (d.Yd.length:Int)=(ac c,ao d.Yd.length):=by
   unfold DS.tagAt;refine aa (K8 _) ?_;show (ac ((d.Yd++[c]).getD d.Yd.length 0),ao d.Yd.length)=_;exact aa (cy _ _ _) rfl
  exact aa (ii h.ok hc hm) (aa LA (aa Ml (aa (MI fun s hs=>(pB h.ok hc hm hs).2) (aa h.st (aa ht rfl)))))
 ·show (_++_:List Str).length<=_
  refine aa Wm (aa KH (aa KH ?_));have h1:=eP (aK (d.push c m).N c) (ao d.Yd.length) (aX (FR.map (cI (d.push c m).N))) (if 0<=m then some (aK (d.push c m).N m) else none) (n9 (ac c));have h2:(if 0<=m then[] else[av (ac c)]:List Str).length<=1:=by split;exact K0 1;exact KZ 1
  have h3:=h.YO;exact L3 [_,_,_,_] (.a (.a V2 V0) V1) (.a V3 (.n 5)) 1 V0 (.n 4) 1 V1 W1 1 V2 V3 rfl h1 h2 h3
 ·intro x hx
  have hx:x∈(cq a b.decl (ac c) (ao d.Yd.length) (fZ m) (n9 (ac c))).Yh++_:=hx;rw[Wm] at hx;have hN:=ok'.nLen;have QR:∀ y,(aK (d.push c m).N y).length<=1000:=fun y=>rb hN (bd hj) y;have lits:(Yc "<").length=1/\(Yc ">").length=1/\(Yc ":").length=1/\(Yc " xmlns:").length=7/\(Yc "=\"").length=2/\(Yc "\"").length=1:=by decide+kernel
  obtain⟨k1,k2,k3,k4,k5,k6⟩:=lits;have h9:=DZ hc;rcases KK.mp hx with hx|hx
  ·rcases KK.mp hx with hx|hx
   ·exact h.pgx x hx
   ·unfold aW at hx
    rcases KG.mp hx with e|hx
    ·refine aa e ?_
     have:=QR c;have e3:(ao d.Yd.length).length=1:=aa (du _) (aa (bN _) rfl);simp only[KB,k1,k3,e3];exact L1 [_] (.a W1 (.a (.a V0 W1) W1)) (.n 4000) 1 V0 (.n 1000) rfl this
    rcases KK.mp hx with hx|hx
    ·rw[jh] at hx
     split at hx
     ·cases hx
     ·refine aa (KD.mp hx) ?_
      have hs:∀ p∈bu (az (d.push c m).N FR),(aT ⟨#[]⟩ p).length<=1021:=fun p hp=>by
       have Ru:p∈az (d.push c m).N FR:=nD hp;obtain⟨y,hy,rfl⟩:=KI.mp Ru;have hyok:ai y:=by
        have:=dg.mp (Le.mp (by refine aa hFR ?_;exact hy:y∈(aF (dd (bJ c m))).filter fun x=>decide (x∉d.A d.chain))).1;obtain⟨q1,q2⟩:=Le.mp this;rcases KG.mp q1 with e|q1
        ·refine aa e ?_;exact hc
        ·rw[KD.mp q1] at q2⊢
         exact⟨Np q2,hm.2⟩
       have h1:=QR y;have h2:=ez hyok;unfold aT;simp only[KB,k4,k5,k6,h2];show 0+7+_+2+10+1<=1021;exact L1 [_] (.a (.a (.a (.a (.a W0 (.n 7)) V0) (.n 2)) (.n 10)) W1) (.n 1021) 1 V0 (.n 1000) rfl h1
      have hl:(bu (az (d.push c m).N FR)).length<=2:=by
       refine aa (nC _) ?_;unfold az;exact aa (KE _) Qi
      have e:=mQ (bu (az (d.push c m).N FR)) ⟨#[]⟩;rw[mx] at e;refine aa e ?_;have add:∀ (pg:Str) (p:Str×Int),(aT pg p).length=pg.length+(aT ⟨#[]⟩ p).length:=fun pg p=>by
       unfold aT;simp only[KB];show _=pg.length+(0+_+_+_+_+_)
       lia
      refine KF (wy add _ _ hs) ?_;exact KF (Mi (MV 1021 hl) _) (by show 0+2*1021<=4000;decide)
    rcases KG.mp hx with rfl|hx
    ·refine aa k2 ?_;decide
    ·split at hx
     ·cases hx
     ·rename_i p hp
      split at hp
      ·cases hp
       have:=QR m;refine aa (KD.mp hx) ?_;simp only[KB,k3,h9.1];exact L1 [_] (.a (.a V0 W1) (.n 9)) (.n 4000) 1 V0 (.n 1000) rfl this
      ·cases hp
  ·split at hx
   ·cases hx
   ·refine aa (KD.mp hx) (aa h9.2 ?_);decide
theorem z9:∀ k,k<8->∀ l,l<8->kc k=kc l->k=l:=by decide+kernel
end
theorem An(hx:ai x)(hc:ai c):(n4 (ac x)==n4 (ac c))=(x.fdiv 4096==c.fdiv 4096):=by
 obtain⟨n,rfl,hn⟩:=hx.nat;obtain⟨k,rfl,hk⟩:=hc.nat
 (rw[hH n hn];refine aa (hH k hk) (aa (LI _ (by decide)) (aa (LI _ (by decide)) ?_));rw[MY,Mx,Mx])
 constructor
 ·intro e
  have e:=congrArg (fun s:Str=>s.cps.toList.getD 3 0) e;have e:kc (n/4096)=kc (k/4096):=e;have:=z9 _ (Mp hn) _ (Mp hk) e;exact FF this
 ·intro e
  have:n/4096=k/4096:=FH e;exact aa this rfl
def AZ(x:Int):UP:=(ac x,n4 (ac x))
section
variable{d:DS}{b:AW}{st:List (Str×Str)}{j P:Nat}{c m:Int}
theorem nf(h:cX d b st j P)(hc:ai c):cW b.ns (n4 (ac c))=((d.chain.flatMap fun s=>bA d.Yy s c).head?).map ac:=by
 have hf:aB b.ns=d.chain.flatMap d.nsAt:=by
  refine aa h.ns ?_;unfold aB;exact aa Ml (aa (List.reverse_reverse _) (aa List.flatten_append (ae List.flatMap_def (Lh _))))
 have hs:∀ s,(d.nsAt s).filter (fun p=>p.2==n4 (ac c))=(bA d.Yy s c).map AZ:=fun s=>by
  have ef:(AZ∘fun p:Int×Int=>p.2)=jd:=funext fun p=>by simp only[Function.comp_apply,AZ,jd]
  unfold DS.nsAt bA
  (refine aa List.filter_map ?_;rw[List.filter_filter];refine aa M1 ?_;rw[ef])
  refine congrArg (List.map jd) (List.filter_congr fun p hp=>?_);have e:=An (h.ok.t0 p hp).1 hc;simp only[Function.comp_apply,jd]
  (rw[e];exact aa (Bool.and_comm _ _) rfl)
 unfold cW;exact aa hf (ae List.head?_filter (aa List.filter_flatMap (aa (ea fun s _=>hs s) (ae Pi (aa List.head?_map (aa (O2 _ _ _) rfl))))))
theorem wI(h:cX d b st j P)(PQ:(d.meant i c).head?=some m):-1<=m/\m<32768:=by
 have hm:=List.mem_of_head? PQ;unfold DS.meant at hm
 split at hm
 ·obtain⟨s,_,hs⟩:=M6.mp hm
  obtain⟨p,hp,rfl⟩:=KI.mp hs;have:=(h.ok.t0 p (Le.mp hp).1).1;exact⟨by have:=this.1;exact B8 this,this.2⟩
 ·refine aa (KD.mp hm) ?_;decide
theorem xj(hc:ai c):lw (dH (n5 (ac c))) (n9 (ac c))=bT c:=by
 obtain⟨h1,h2⟩:=jQ hc;have e:n4 (ac c)++Yc ":"++n9 (ac c)=av (ac c):=by
  have:=h1.eq;rw[h2] at this;rw[←this];obtain⟨n,rfl,hn⟩:=hc.nat;exact BM n hn
 unfold lw bT
 (refine aa h2 ?_;rw[e])
 rfl
theorem Ap(hc:ai c):n5 (ac c)++n9 (ac c)=av (ac c):=by
 obtain⟨n,rfl,hn⟩:=hc.nat;exact BM n hn
theorem yj(hp:b.Yg=none)(hd:b.data=none):aq {im u tg b with data:=some (p,q)}=.ok (let s:=cq b b.decl u tg none xn;{s with Yh:=s.Yh++[p++q]}):=by
 obtain⟨x1,x2,x3,x4,x5,x6,x7⟩:=b
 cases hd
 cases hp
 rfl
theorem yi:aq {eb u tg b with data:=some (p,q)}=if eX (p++q)=true then match cW b.ns (dH p) with
  |none=> .error (lw (dH p) q)
  |some u2=> .ok (cq {eb u tg b with data:=none,Yg:=none} b.decl u tg (some u2) q)
  else .ok (let s:=cq {eb u tg b with data:=none,Yg:=none} b.decl u tg none q;{s with Yh:=s.Yh++[p++q]}):=by
 have UD:b.decl=(eb u tg b).decl.dropLast:=LN.symm;exact aa UD rfl
theorem wR(s:AW):({s with Yh:=s.Yh++[]}:AW)=s:=by exact aa (Lh _) rfl
theorem gX(h:cX d b st j P)(hc:ai c)(hj:j<15)(hr:0<d.Yd.length->0<=d.Yl)(hi:i=0↔d.Yd.length=0)(hS:S (ah (ac c) (ao i))=decide (0<i)):
  (match (d.meant i c).head? with
  |none=>aq (bR S (ac c) (ao i) b)=.error (bT c)/\(bR S (ac c) (ao i) b).Yh=b.Yh
  |some m=>aM (fun a'=>aq (bR S (ac c) (ao i) b)=.ok a') (fun a'=>cX (d.push c m) a' (st++[(ac c,ao i)]) (j+1) (P+5))):=by
 have QR:=Ap hc;have U1:ao i=ao d.Yd.length:=by refine aa (du _) (aa (du _) ?_);simp only[hi]
 have y0:fZ (-1)=none:=KM (by decide);have y1:(if (0:Int)<=-1 then[] else[av (ac c)])=[av (ac c)]:=KM (by decide);rcases Oh i with h0|h0
 ·have RW:S (ah (ac c) (ao i))=false:=aa hS (aa h0 rfl)
  have hm:(d.meant i c).head?=some (-1):=by
   unfold DS.meant;exact aa (KM fun q=>absurd q.1 (by lia)) rfl
  have sp:=fw (m:=-1) (a:=b) h hc (by decide) hr hj h.Yg h.data rfl rfl rfl U1;rw[y0,y1] at sp;have e:=yj (u:=ac c) (tg:=ao i) (p:=n5 (ac c)) (q:=n9 (ac c)) (xn:=n9 (ac c)) h.Yg h.data;rw[QR] at e;refine aa hm ?_;refine⟨_,?_,sp⟩;unfold bR;exact aa RW (aa (KM KP) e)
 ·have RW:S (ah (ac c) (ao i))=true:=aa hS (KV h0)
  have ho:bR S (ac c) (ao i) b={eb (ac c) (ao i) b with data:=some (n5 (ac c),n9 (ac c))}:=by
   unfold bR;exact aa RW (aa (KW rfl) rfl)
  have Qm:(bR S (ac c) (ao i) b).Yh=b.Yh:=aa ho rfl;have Qi:=yi (b:=b) (u:=ac c) (tg:=ao i) (p:=n5 (ac c)) (q:=n9 (ac c));rw[xj hc,QR,(jQ hc).2,←ho] at Qi;have Qb:=yn hc
  by_cases q:8191<c/\eM c=true
  ·have Vz:d.meant i c=d.chain.flatMap fun s=>bA d.Yy s c:=by
    unfold DS.meant;exact aa (KW ⟨h0,q.1,q.2⟩) rfl
   have hn:eX (av (ac c))=true:=aa Qb (aa (KV q.1) (aa q.2 rfl));rw[hn,KW rfl,nf h hc] at Qi;refine aa Vz ?_
   cases hm:(d.chain.flatMap fun s=>bA d.Yy s c).head? with
   |none=>
    rw[hm] at Qi;exact⟨Qi,Qm⟩
   |some m=>
    rw[hm] at Qi;have Tk:=wI h (by rw[Vz];exact hm);have P5:0<=m:=by
     obtain⟨s,_,hs⟩:=M6.mp (List.mem_of_head? hm);obtain⟨p,hp,rfl⟩:=KI.mp hs;exact(h.ok.t0 p (Le.mp hp).1).1.1
    have sp:=fw (a:={eb (ac c) (ao i) b with data:=none,Yg:=none}) h hc Tk hr hj rfl rfl rfl rfl rfl U1;have e:fZ m=some (ac m):=KW P5;rw[e,KW P5] at sp;have sp:cX (d.push c m) _ _ _ _:=wR _▸sp;exact⟨_,Qi,sp⟩
  ·have Vz:(d.meant i c).head?=some (-1):=by
    unfold DS.meant;exact aa (KM fun z=>q ⟨z.2.1,z.2.2⟩) rfl
   have hn:eX (av (ac c))=false:=by
    (refine aa Qb ?_;rw[Bool.eq_false_iff])
    intro z;rw[Nv,MH] at z;exact q z
   rw[hn,KM KP] at Qi;have sp:=fw (m:=-1) (a:={eb (ac c) (ao i) b with data:=none,Yg:=none}) h hc (by decide) hr hj rfl rfl rfl rfl rfl U1;rw[y0,y1] at sp;exact aa Vz ⟨_,Qi,sp⟩
theorem vq(x y:Str):cq a Ym u tg none x=cq a Ym u tg none y:=rfl
theorem nv(h:cX d b st j P)(hc:ai c)(hj:j<15)(hP:P<=190)(hr:0<d.Yd.length->0<=d.Yl)(hi:i=0↔d.Yd.length=0)(hS:S (ah (ac c) (ao i))=decide (0<i)):
  eD (bR S (ac c) (ao i) b):=by
 have U1:ao i=ao d.Yd.length:=by refine aa (du _) (aa (du _) ?_);simp only[hi]
 obtain⟨hn,hn4⟩:=jQ hc;have gen:∀ x y:Str,j7 x y->∀ p q,some (x,y)=some (p,q)->j7 p q:=fun x y h p q e=>by cases e;exact h
 have QR:=gen _ _ hn;have pg:=h.YO;rcases Oh i with h0|h0
 ·have ho:bR S (ac c) (ao i) b={im (ac c) (ao i) b with data:=some (n5 (ac c),n9 (ac c))}:=by
   unfold bR;exact aa hS (aa h0 rfl)
  refine aa ho ?_;have Qb:=fw (m:=-1) (a:=b) h hc (by decide) hr hj h.Yg h.data rfl rfl rfl U1;have y0:fZ (-1)=none:=KM (by decide);rw[y0,vq (n9 (ac c)) ⟨#[]⟩] at Qb;have f:=Qb.fits hj;have pl:=eP (preOf (im (ac c) (ao i) b).pm (ac c)) (ao i) (aX (aG (aB b.decl) ([],b.pm) (dS (ac c) (ao i) ⟨#[]⟩ none)).2.1) none ⟨#[]⟩;refine⟨f.YC,f.dk,f.YL,f.il,f.fl,f.nl,KF f.nn (by decide),f.ne,f.nu,?_,QR,fun u tg e=>?_,fun e=>(nomatch e),fun _ _=>rfl,fun u tg p q u2 e=>?_⟩
  ·show (b.Yh++aW _ _ _ none ⟨#[]⟩).length<=_
   refine aa KH ?_;exact KF (Ny pg pl) (by exact L1 [_] (.a V0 (.n 4)) (.n 40000) 1 V0 (.n 190) rfl hP)
  ·have e:b.Yg=some (u,tg):=e
   rw[h.Yg] at e;cases e
  ·have e:b.Yg=some (u,tg):=e
   rw[h.Yg] at e;cases e
 ·have ho:bR S (ac c) (ao i) b={eb (ac c) (ao i) b with data:=some (n5 (ac c),n9 (ac c))}:=by
   unfold bR;exact aa hS (aa (KV h0) (aa (KW rfl) rfl))
  refine aa ho ?_;have f:=h.fits (LD hj);have Qi:aB (b.decl++[[]])=aB b.decl:=kK _ _;refine⟨f.YC,by show bj (aB (b.decl++[[]])) _;refine aa Qi ?_;exact f.dk,f.YL,fun l hl=>?_,by show (aB (b.decl++[[]])).length<=_;refine aa Qi ?_;exact f.fl,f.nl,KF f.nn (by decide),f.ne,f.nu,KF pg (KF hP (by decide)),QR,fun u tg e=>?_,fun e=>(nomatch e),fun _ e=>(nomatch e),fun u tg p q u2 e1 e2 hu=>?_⟩
  ·rcases KK.mp hl with hl|hl
   ·exact f.il l hl
   ·refine aa (KD.mp hl) ?_;exact K0 _
  ·have e:some (ac c,ao i)=some (u,tg):=e
   obtain⟨rfl,rfl⟩:=Prod.mk.inj (Mq e);exact mM hc i
  ·have e1:some (ac c,ao i)=some (u,tg):=e1
   have e2:some (n5 (ac c),n9 (ac c))=some (p,q):=e2;obtain⟨rfl,rfl⟩:=Prod.mk.inj (Mq e1);obtain⟨rfl,rfl⟩:=Prod.mk.inj (Mq e2);rw[hn4] at hu;have hu:cW b.ns (n4 (ac c))=some u2:=hu;rw[nf h hc] at hu;obtain⟨m,hm,rfl⟩:=Ls.mp hu;have hmo:ai m:=by
    obtain⟨s,_,hs⟩:=M6.mp (List.mem_of_head? hm);obtain⟨p,hp,rfl⟩:=KI.mp hs;exact(h.ok.t0 p (Le.mp hp).1).1
   have h9:(n9 (ac c)).length=9:=by
    clear hu hmo QR gen hS U1 hn hn4 h hr f e1 e2;obtain⟨n,rfl,hn⟩:=hc.nat;refine aa (fi n hn) (aa (bN _) ?_);rfl
   have h1:(ao i).length=1:=aa (du _) (aa (bN _) rfl);refine⟨xe hmo hc,fun e=>?_,fun e=>?_⟩
   ·have e:=congrArg Str.length e
    unfold ah at e;rw[KB,KB,KB,KB,KB,KB,ez hmo,ez hc,h9,h1] at e;exact f0 (L1 [_,_] W1 W0 1 (.a (.a (.a V0 (.n 10)) V1) (.n 9)) (.a (.a (.a V0 (.n 10)) V1) W1) rfl (eL e))
   ·have e:=congrArg Str.length e.2
    rw[h9,h1] at e;exact absurd e (by decide)
theorem yH(h:cX d b st j P)(hc:ai c)(hj:j<15)(hP:P<=190)(i:Nat)(hz:d.Yd.length=0):et b b.decl (ac c) (ao i) ⟨#[]⟩ ⟨#[]⟩:=by
 have f:=h.fits (LD hj);refine⟨f.YC,f.dk,f.YL,f.il,f.fl,f.nl,KF f.nn (by decide),f.ne,f.nu,KF h.YO (KF hP (by decide)),mM hc i,by decide+kernel,(fun _ q=>nomatch q),by decide,by decide,fun u2 e=>?_⟩;have h1:=h.ok.h1;have h0:=h.ok.h0;have QD:d.chain=[]:=by
  unfold DS.chain;exact aa (show d.Yl=-1 from u8 hz h1 h0) (aa (dW _) rfl)
 rw[h.ns,QD] at e
 cases e
theorem cX.mono{d:DS}{a:AW}{st:List (Str×Str)}{j P P':Nat}(h:cX d a st j P)(hP:P<=P'):cX d a st j P':=⟨h.ok,h.Yg,h.data,h.Yh,h.pm,h.decl,h.ns,h.st,KF h.YO hP,h.pgx⟩
theorem cX.flush{d:DS}{a:AW}{st:List (Str×Str)}{j P:Nat}(h:cX d a st j P):aq a=.ok a:=by
 unfold aq;exact aa h.data rfl
end
theorem dz.long(h:dz d j)(h0:0<=d.Yl):1<d.chain.length↔0<d.Yl:=by
 obtain⟨s,e,hs,QD⟩:=h.Yl h0;refine aa QD (aa Lc (aa e ?_));rcases Oh s with q|q
 ·obtain⟨g0,g1⟩:=h.ll.hh s (by refine aa h.ll.hl ?_;exact hs)
  rw[q] at g0 g1⊢;refine aa (show d.Ye.getD 0 (-1)=-1 from u9 g0 g1) (aa (dW _) ?_)
  constructor
  ·intro z;exact absurd z (Nq 1)
  ·intro z;exact absurd z (by decide)
 ·have g:=h.hz s q hs
  obtain⟨_,g1⟩:=h.ll.hh s (by refine aa h.ll.hl ?_;exact hs);refine aa (eH h.ll.hh g (by rw[h.ll.hl];exact vG g1 hs)) (aa Lc ?_)
  constructor
  ·intro _;exact xR q
  ·intro _;exact L0 [_] (.a W1 W1) (.a (.a V0 W1) W1) rfl
theorem vC(h:PY.length<=P)(hP:P<=200)(hx:∀ x∈PY,x.length<=4000):dD PY:=by
 have:=StrLaws.sumLen_le PY hx;unfold dD
 lia
theorem cX.weighs{d:DS}{a:AW}{st:List (Str×Str)}{j P:Nat}(h:cX d a st j P)(hP:P<=200):dD a.Yh:=vC h.YO hP h.pgx
theorem jL:∀ (n:Nat) {d:DS} {a:AW} {st:List (Str×Str)} {j P:Nat},st.length=n->cX d a st j P->j<=15->P+n<=200->
  fy st.reverse a/\fJ (fun a'=>ck st.reverse a=.ok a') (fun a'=>Txt.join (Yc "") a'.Yh=d.fin.text) (fun a'=>dD a'.Yh)
 |0,d,a,st,j,P,hn,h,hj,hP=>by
  have hst:st=[]:=Me hn;have QD:d.chain=[]:=Me (by exact ae h.stLen (aa hn rfl));subst hst;refine⟨trivial,a,rfl,?_,h.weighs (by exact L1 [_] V0 (.n 200) 1 (.a V0 W0) (.n 200) rfl hP)⟩;refine aa h.Yh ?_;show bO _ _ _ d.marks=bO _ _ _ (d.marks++d.chain.map _);exact aa QD (congrArg _ (Lh _).symm)
 |n+1,d,a,st,j,P,hn,h,hj,hP=>by
  have h0:0<=d.Yl:=by
   have hh:=h.ok.h0;refine Oe.mp fun q=>?_;have hl:=h.stLen;unfold DS.chain at hl;rw[show d.Yl=-1 from B5 hh q,dW,hn] at hl
   cases hl
  obtain⟨QU,Up⟩:=h.close hj h0;obtain⟨l,hl⟩:=List.getLast?_eq_some_iff.mp Up;have hd:st.dropLast=l:=by exact aa hl (aa LN rfl)
  have hr:st.reverse=d.tagAt d.Yl::st.dropLast.reverse:=aa hd (aa hl (aa Nu rfl));have QI:st.dropLast.length=n:=aa List.length_dropLast (aa hn rfl);obtain⟨i1,a',i2,i3,i4⟩:=jL n QI QU hj (by exact L1 [_,_] (.a (.a V0 W1) V1) (.n 200) 1 (.a V0 (.a V1 W1)) (.n 200) rfl hP);refine aa hr ?_;refine⟨⟨h.good hj (by exact L1 [_,_] V0 (.n 200) 1 (.a V0 (.a V1 W1)) (.n 200) rfl hP),fun a2 e=>?_⟩,a',?_,?_,i4⟩
  ·rw[h.flush] at e
   cases e;exact⟨h.endOk hj (by exact L1 [_,_] V0 (.n 200) 1 (.a V0 (.a V1 W1)) (.n 200) rfl hP) h0,i1⟩
  ·show bp (bp (fl a) _) _=_
   exact aa (dM h.flush) i2
  ·refine aa i3 ?_
   obtain⟨s,e,hs,QD⟩:=h.ok.Yl h0;have We:d.close.chain=aj d.Ye (d.Ye.getD s (-1)):=by
    unfold DS.chain DS.close;exact aa e (aa (K8 _) rfl)
   show bO _ _ _ ((d.marks++[-1-d.Yl])++d.close.chain.map _)=bO _ _ _ (d.marks++d.chain.map _);exact aa We (aa QD (aa e (aa LA (aa (KQ _ _ _) rfl))))
theorem wl{n:Nat}(h:n<65536):bx (n:Int)=true↔(bf (n:Int)).fdiv 4096=4:=by
 have hk:∀ k,k<16->(jO k=4↔k=4):=by decide
 have l2:=eW (r:=n/256%2) (w:=n/128%2) (x:=n/64%2) (s:=n/2048%2) (L8 _ (by decide)) (L8 _ (by decide)) (L8 _ (by decide)) (L8 _ (by decide));have l1:=eW (r:=n/32%2) (w:=n/16%2) (x:=n/8%2) (s:=n/1024%2) (L8 _ (by decide)) (L8 _ (by decide)) (L8 _ (by decide)) (L8 _ (by decide));have l0:=eW (r:=n/4%2) (w:=n/2%2) (x:=n%2) (s:=n/512%2) (L8 _ (by decide)) (L8 _ (by decide)) (L8 _ (by decide)) (L8 _ (by decide));have hq:=hk (n/4096) (Mp h);refine aa (js n h) (aa (LI _ (by decide)) ?_);unfold bx
 (refine aa (mw n h) ?_;rw[Mx])
 generalize b0 (n/256%2) (n/128%2) (n/64%2) (n/2048%2)=f2 at l2⊢;generalize b0 (n/32%2) (n/16%2) (n/8%2) (n/1024%2)=f1 at l1⊢;generalize b0 (n/4%2) (n/2%2) (n%2) (n/512%2)=f0 at l0⊢;generalize jO (n/4096)=k at hq⊢;have:((k*16+f2)*16+f1)*16+f0<(k+1)*4096/\k*4096<=((k*16+f2)*16+f1)*16+f0:=AY l2 l1 l0;exact FT l2 l1 l0 hq
theorem pQ(h10:∀ r∈aA,r.length=10)(hj:j<aA.length):bL aA (ah (aA.getD j ⟨#[]⟩) (ao j))=decide (0<j):=by
 unfold bL;refine OH.mpr ?_;refine aa (du _) ?_
 constructor
 ·intro h
  refine NJ fun e=>?_;subst e;obtain⟨r,hr,e⟩:=KI.mp h;have e1:=h10 r (OA hr);have e2:=h10 _ (bi (d:=⟨#[]⟩) hj);generalize aA.getD 0 ⟨#[]⟩=q at e e2;have lt:Yc "}t"=⟨([125,116]:List Nat).toArray⟩:=by decide+kernel
  obtain⟨⟨x⟩⟩:=r;obtain⟨⟨y⟩⟩:=q;have e1:x.length=10:=e1;have e2:y.length=10:=e2;unfold nV at e;rw[fV] at e;rw[show (⟨⟨x⟩⟩:Str)=⟨x.toArray⟩ from rfl,gZ,lt,bZ,bZ] at e;have e:=congrArg (fun s:Str=>s.cps.toList) e;have e:[123]++x++[125,116]=123::(y++125::[114]):=e;rw[KQ,List.singleton_append] at e;have e:=(List.cons.inj e).2;have e:=(List.append_inj e (e1.trans e2.symm)).2;exact absurd e (by decide)
 ·intro h
  refine KI.mpr ⟨aA.getD j ⟨#[]⟩,?_,?_⟩
  ·rw[List.mem_iff_getElem?]
   refine⟨j-1,?_⟩;exact aa List.getElem?_drop (aa (show 1+(j-1)=j from sD h) (aa KR (aa (KJ hj) rfl)))
  ·refine aa (KM (Mh h)) ?_
   unfold nV ah;rw[cH _ (Yc "}")]
   congr 1
def iE(Yi ag:X9):Nat->Except (Str×Str) DS
 |0=> .ok DS.init
 |j+1=>match iE Yi ag j with
  | .error e=> .error e
  | .ok d=>match d.step j (Yi.getD j 0) (bf (ag.getD j 0)) with
   |none=> .error (d.text,bT (bf (ag.getD j 0)))
   |some d'=> .ok d'
theorem mU(Yi ag:X9)(j:Nat):iE Yi ag (j+1)=match iE Yi ag j with
  | .error e=> .error e
  | .ok d=>match d.step j (Yi.getD j 0) (bf (ag.getD j 0)) with
   |none=> .error (d.text,bT (bf (ag.getD j 0)))
   |some d'=> .ok d':=rfl
theorem qT(Yi ag:X9):∀ j,j<=ag.length->dZ Yi ag=match iE Yi ag j with| .error e=>e| .ok d=>eJ d j ((bz Yi ag).drop j)
 |0,_=>rfl
 |j+1,h=>by
  refine aa (qT Yi ag j (Nat.le_of_succ_le h)) (aa (mU _ _ _) ?_)
  cases iE Yi ag j with
  |error e=>rfl
  |ok d=>
   show eJ d j ((bz Yi ag).drop j)=_;refine aa (jB h) (aa (jm _ _ _ _) ?_);dsimp only;generalize (bz Yi ag).drop (j+1)=r
   cases d.step j (Yi.getD j 0) (bf (ag.getD j 0))<;>rfl
theorem yh(Yi ag:X9):dZ Yi ag=match iE Yi ag ag.length with| .error e=>e| .ok d=>(d.fin.text,Yc "none"):=by
 refine aa (qT Yi ag _ (KZ _)) (aa lC ?_)
 cases iE Yi ag ag.length<;>rfl
structure fq(d:DS)(a:AW)(st:List (Str×Str))(j:Nat):Prop where
 sim:cX d a st j (6*j)
 hr:0<j->0<=d.Yl
 hz:j=0↔d.Yd.length=0
theorem fq.hr'{d:DS}{a:AW}{st:List (Str×Str)}{j:Nat}(h:fq d a st j):0<d.Yd.length->0<=d.Yl:=fun q=>h.hr (by have:=h.hz;exact u7 q this)
def vW(d:DS)(i:Nat)(c:Int):Except (Str×Str) DS:=match (d.meant i c).head? with|none=> .error (d.text,bT c)|some m=> .ok (d.push c m)
def iw(S:Str->Bool)(j:Nat)(x:fK gc)(y:Except (Str×Str) DS):Prop:=
 (eg (fun d a st=>y=.ok d) (fun _ a st=>x=.ok (a,st)) (fun d a st=>fq d a st j))∨
 (zk (fun d b st c i=>i+1=j) (fun _ b st c i=>x=.ok (bR S (ac c) (ao i) b,st++[(ac c,ao i)])) (fun d b st _ i=>fq d b st i) (fun _ _ _ c _=>ai c) (fun _ _ _ c i=>S (ah (ac c) (ao i))=decide (0<i)) (fun d _ _ c i=>y=vW d i c))∨
 (gR (fun t wd PY=>y=.error (t,wd)) (fun _ wd PY=>x=.error (wd,PY)) (fun t _ PY=>Txt.join (Yc "") PY=t) (fun _ _ PY=>dD PY))
def Ec(j:Nat)(x:fK gc)(y:Except (Str×Str) DS):Prop:=
 (gR (fun t wd PY=>y=.error (t,wd)) (fun t _ PY=>Txt.join (Yc "") PY=t) (fun _ _ PY=>dD PY) (fun _ wd PY=>(x=.error (wd,PY)∨bV (fun a st=>x=.ok (a,st)) (fun a _=>fl a=.error (wd,PY)) (fun _ st=>st≠[]))))∨
 (vM (fun d a0 a st=>y=.ok d) (fun _ a0 _ st=>x=.ok (a0,st)) (fun _ a0 a _=>aq a0=.ok a) (fun d _ a st=>fq d a st j))
theorem sn{d:DS}{b:AW}{st:List (Str×Str)}{i:Nat}{c m:Int}{a:AW}{VU:List (Str×Str)}(h:cX (d.push c m) a VU (i+1) (6*i+5)):fq (d.push c m) a VU (i+1):=by
 have hl:(d.push c m).Yd.length=d.Yd.length+1:=by show (d.Yd++[c]).length=_;refine aa KH ?_;rfl
 refine⟨h.mono (by exact L0 [_] (.a (.m 6 V0) (.n 5)) (.m 6 (.a V0 W1)) rfl),fun _=>?_,by refine aa hl ?_;lia⟩;show 0<=(d.Yd.length:Int);exact iW
theorem iw.fl(hj:j<=15)(h:iw S j x y):Ec j x y:=by
 rcases h with⟨d,a,st,hy,hx,hR⟩|⟨d,b,st,c,i,rfl,hx,hR,hc,hS,hy⟩|⟨t,wd,PY,hy,hx,h1,h2⟩
 ·exact .inr ⟨d,a,a,st,hy,hx,hR.sim.flush,hR⟩
 ·have Qb:=gX hR.sim hc (Nat.lt_of_succ_le hj) hR.hr' hR.hz hS
  unfold vW at hy
  cases hm:(d.meant i c).head? with
  |none=>
   rw[hm] at Qb hy;obtain⟨k1,k2⟩:=Qb;refine .inl ⟨d.text,bT c,b.Yh,hy,hR.sim.Yh,hR.sim.weighs (by exact L1 [_] (.m 6 V0) (.n 200) 6 (.a V0 W1) (.n 15) rfl hj), .inr ⟨_,_,hx,by exact aa (fP k1) (aa k2 rfl),by simp⟩⟩
  |some m=>
   rw[hm] at Qb hy;obtain⟨a',k1,k2⟩:=Qb;exact .inr ⟨_,_,a',_,hy,hx,k1,sn (b:=b) (st:=st) k2⟩
 ·exact .inl ⟨t,wd,PY,hy,h1,h2, .inl hx⟩
theorem u0{S:Str->Bool}{j:Nat}{Yv mode:Int}{row:Str}{a:AW}{st:List (Str×Str)}{e:Str×List Str}(h:fl a=.error e):bM S j Yv mode row (a,st)=.error e:=by
 unfold bM cQ;dsimp only;refine aa h ?_
 split
 ·rfl
 ·split<;>rfl
theorem yM(hj:j<15)(h:iw S j x y)(hc:ai c)(WN:row=ac c)(Tg:bx mode=true↔c.fdiv 4096=4)(hS:S (ah row (ao j))=decide (0<j))
  (h0:j=0->Yv=2/\bx mode=true):iw S (j+1) (bp x fun st=>bM S j Yv mode row st) (match (generalizing:=false) y with| .error e=> .error e| .ok d=>match d.step j Yv c with|none=> .error (d.text,bT c)|some d'=> .ok d'):=by
 subst WN;rcases h.fl (LD hj) with⟨t,wd,PY,rfl,h1,h2,rfl|⟨a,st,rfl,hf,_⟩⟩|⟨d,a0,a,st,rfl,rfl,hf,hR⟩
 ·exact .inr (.inr ⟨t,wd,PY,rfl,rfl,h1,h2⟩)
 ·exact .inr (.inr ⟨t,wd,PY,rfl,u0 hf,h1,h2⟩)
 have hf':=dM hf;have QL:=hR.sim;show iw S (j+1) (bM S j Yv mode (ac c) (a0,st)) (match d.step j Yv c with|none=> .error (d.text,bT c)|some d'=> .ok d');unfold bM DS.step;dsimp only;refine aa hf' ?_
 by_cases d0:Yv=0
 ·have jp:0<j:=NJ fun e=>by have:=(h0 e).1;lia
  refine aa (KW d0) (aa (KW d0) ?_);exact .inl ⟨_,_,_,rfl,rfl,(QL.tell hc (hR.hr jp)).mono (by exact L0 [_] (.m 6 V0) (.m 6 (.a V0 W1)) rfl),fun _=>hR.hr jp,by have:=hR.hz;exact⟨(fun q=>nomatch q),fun q=>absurd (this.mpr q) (AM jp)⟩⟩
 refine aa (KM d0) (aa (KM d0) ?_);have Xc:(Yv=1/\1<st.length)↔(Yv=1/\0<d.Yl):=by
  rcases Oh j with e|e
  ·have:=(h0 e).1
   constructor<;>(intro q;lia)
  ·(refine aa QL.stLen ?_;rw[QL.ok.long (hR.hr e)])
 by_cases d1:Yv=1/\0<d.Yl
 ·have jp:0<j:=NJ fun e=>by have:=(h0 e).1;lia
  refine aa (KW (Xc.mpr d1)) (aa (KW d1) ?_);obtain⟨k1,k2⟩:=QL.close (LD hj) (Nh d1.2);refine aa k2 ?_;unfold cQ;refine aa hf' ?_;obtain⟨s,e,hs,QD⟩:=QL.ok.Yl (Nh d1.2);refine .inl ⟨_,_,_,rfl,rfl,⟨⟨k1.ok.ll,k1.ok.mr,k1.ok.t0,k1.ok.h0,k1.ok.h1,k1.ok.hz,MG k1.ok.cz,MG k1.ok.tz⟩,k1.Yg,k1.data,k1.Yh,k1.pm,k1.decl,k1.ns,k1.st,KF k1.YO (by exact L0 [_] (.a (.m 6 V0) W1) (.m 6 (.a V0 W1)) rfl),k1.pgx⟩,fun _=>?_,?_⟩
  ·show 0<=d.Ye.getD d.Yl.toNat (-1)
   refine aa e (aa (K8 _) ?_);exact QL.ok.hz s (by have:=d1.2;lia) hs
  ·have:=hR.hz
   exact⟨(fun q=>nomatch q),fun q=>absurd (this.mpr q) (AM jp)⟩
 refine aa (KM fun q=>d1 (Xc.mp q)) (aa (KM d1) ?_);show iw S (j+1) (if bx mode=true then _ else _) _
 by_cases dd:bx mode=true
 ·refine aa (KW dd) ?_
  have Wa:∀ m,d.add c m=d.push c m:=fun m=>by
   unfold DS.add DS.push;exact aa (KW (Tg.mp dd)) (aa (KW (Tg.mp dd)) (aa (Lh _) rfl))
  refine .inr (.inl ⟨d,a,st,c,j,rfl,rfl,hR,hc,hS,?_⟩);unfold vW
  cases (d.meant j c).head? with
  |none=>rfl
  |some m=>exact congrArg Except.ok (Wa m)
 ·have jp:0<j:=NJ fun e=>dd (h0 e).2
  refine aa (KM dd) ?_;have Wa:∀ m,d.add c m=(d.push c m).close:=fun m=>by
   have hn:=(not_congr Tg).mp dd;unfold DS.add DS.push DS.close;dsimp only;refine aa (KM hn) (aa (KM hn) (aa (K8 _) (ae QL.ok.ll.hl (aa (cy _ _ _) ?_))))
   congr 3
   lia
  have Qb:=gX QL hc hj hR.hr' hR.hz hS
  cases hm:(d.meant j c).head? with
  |none=>
   rw[hm] at Qb;obtain⟨q1,q2⟩:=Qb;refine .inr (.inr ⟨d.text,bT c,a.Yh,rfl,?_,QL.Yh,QL.weighs (by exact L1 [_] (.m 6 V0) (.n 200) 6 (.a V0 W1) (.n 15) rfl hj)⟩);unfold cQ;exact aa (fP q1) (aa q2 rfl)
  |some m=>
   rw[hm] at Qb;obtain⟨a',q1,q2⟩:=Qb;have TK:(0:Int)<=(d.push c m).Yl:=by show 0<=(d.Yd.length:Int);exact iW
   obtain⟨k1,k2⟩:=q2.close (Nat.succ_le_of_lt hj) TK;rw[Ni] at k2;have k3:=Mq k2;rw[LN,←k3] at k1;refine .inl ⟨(d.push c m).close,iF (ac c) (ao j) a',st,congrArg Except.ok (Wa m),?_,?_,fun _=>?_,?_⟩
   ·unfold cQ
    exact aa (dM q1) rfl
   ·exact k1.mono (by exact L0 [_] (.a (.a (.m 6 V0) (.n 5)) W1) (.m 6 (.a V0 W1)) rfl)
   ·refine ae (Wa m) ?_
    show 0<=(if c.fdiv 4096=4 then(d.Yd.length:Int) else d.Yl);have:=hR.hr jp
    split<;>lia
   ·refine⟨(fun q=>nomatch q),fun q=>?_⟩
    have q:(d.Yd++[c]).length=0:=q;rw[KH] at q
    cases q
theorem BI(hc:ai c)(i:Nat):PyData.strOk (ah (ac c) (ao i))=true:=by
 obtain⟨n,rfl,hn⟩:=hc.nat;have hs:∀ x∈ee,x<1114112:=by decide
 have h:=fk hn;refine aa (fX n hn) (aa (du _) (aa (fV _ _) ?_));unfold PyData.strOk
 (refine ae Array.all_toList ?_;rw[List.all_eq_true])
 intro x hx;refine KV ?_;rcases KG.mp hx with rfl|hx
 ·decide
 rcases KK.mp hx with hx|hx
 ·exact hs x (h x hx)
 rcases KG.mp hx with rfl|hx
 ·decide
 refine aa (KD.mp hx) ?_
 split<;>decide
theorem rY:fq DS.init a0 [] 0:=by
 have hN:DS.init.N=[]:=by
  unfold DS.N DS.us af;show (aF (dd [])).map _=[];refine aa (Me (l:=aF (dd [])) (by rw[(bo _).length_eq];rfl)) ?_
  rfl
 have QD:DS.init.chain=[]:=dW _;refine⟨⟨⟨⟨rfl,rfl,fun i h=>absurd h (LK i),(fun _ h=>nomatch h),fun _ h=>nomatch h⟩,(fun _ h=>nomatch h),(fun _ h=>nomatch h),by decide,by decide,fun s _ h=>absurd h (LK s),KZ 0,KZ 0⟩,rfl,rfl,rfl,?_,?_,?_,?_,KZ 0,fun _ h=>nomatch h⟩,fun h=>absurd h (Nq 0),⟨fun _=>rfl,fun _=>rfl⟩⟩
 ·refine aa hN ?_;rfl
 ·refine aa QD ?_;rfl
 ·refine aa QD ?_;rfl
 ·refine aa QD ?_;rfl
theorem fq.nonempty{d:DS}{a:AW}{st:List (Str×Str)}{j:Nat}(h:fq d a st j)(hj:0<j):st≠[]:=fun e=>by
 obtain⟨s,_,_,QD⟩:=h.sim.ok.Yl (h.hr hj);have:=h.sim.stLen;rw[e,QD] at this
 cases this
theorem iw.ready{S:Str->Bool}{j:Nat}{st:gc}{y:Except (Str×Str) DS}{a:AW}(h:iw S j (.ok st) y)(hj:j<=15)(hf:aq st.1=.ok a):aM (fun d=>y=.ok d) (fun d=>fq d a st.2 j):=by
 rcases h.fl hj with⟨_,_,_,_,_,_,h|⟨a2,s2,h,h2,_⟩⟩|⟨d,a2,a3,s2,hy,h,h2,h3⟩
 ·cases h
 ·cases h
  rw[dM hf] at h2
  cases h2
 ·cases h
  rw[hf] at h2
  cases h2;exact⟨d,hy,h3⟩
theorem iw.good{S:Str->Bool}{j:Nat}{st:gc}{y:Except (Str×Str) DS}(h:iw S j (.ok st) y)(hj:j<=15):eD st.1/\st.2.length<=j/\∀ ut∈st.2,bG (fun(c:Int) (i:Nat)=>ai c) (fun c i=>ut=(ac c,ao i)):=by
 have Yu:∀ {d:DS} {a:AW} {st:List (Str×Str)} {j:Nat},fq d a st j->∀ ut∈st,bG (fun(c:Int) (i:Nat)=>ai c) (fun c i=>ut=(ac c,ao i)):=fun {d a st j} hR ut YN=>by
  rw[hR.sim.st] at YN;obtain⟨s,hs,rfl⟩:=KI.mp (Pj.mp YN);have:=hR.sim.ok.chainIn hs;exact⟨_,_,hR.sim.ok.ll.c0 _ (bi (d:=0) (iV this.1 this.2)),rfl⟩
 rcases h with⟨d,a,st,hy,hx,hR⟩|⟨d,b,st,c,i,rfl,hx,hR,hc,hS,hy⟩|⟨t,wd,PY,hy,hx,h1,h2⟩
 ·cases hx
  exact⟨hR.sim.good hj (by exact L1 [_] (.m 6 V0) (.n 200) 6 V0 (.n 15) rfl hj),by refine aa hR.sim.stLen ?_;exact hR.sim.ok.chainLen,Yu hR⟩
 ·cases hx
  refine⟨nv hR.sim hc (Nat.lt_of_succ_le hj) (by exact L1 [_] (.m 6 V0) (.n 190) 6 (.a V0 W1) (.n 15) rfl hj) hR.hr' hR.hz hS,?_,fun ut YN=>?_⟩
  ·refine aa KH ?_
   exact Ms (by refine aa hR.sim.stLen ?_;exact hR.sim.ok.chainLen)
  ·rcases KK.mp YN with YN|YN
   ·exact Yu hR ut YN
   ·exact⟨c,i,hc,KD.mp YN⟩
 ·cases hx
theorem wT{S:Str->Bool}{j:Nat}{st:gc}{y:Except (Str×Str) DS}{Yv mode c:Int}{row:Str}(h:iw S j (.ok st) y)(hj:j<15)(hc:ai c)(WN:row=ac c)(hS:S (ah row (ao j))=decide (0<j)):mi S j Yv mode row st:=by
 subst WN;have SC:=LD hj;obtain⟨g1,g2,_⟩:=h.good SC;refine⟨g1,by refine aa (ez hc) ?_;decide,KF g2 (by exact L1 [_] V0 (.n 1000) 1 (.a V0 W1) (.n 15) rfl hj),fun _ hl a hf=>?_,fun _ _ a hf=>?_⟩
 ·obtain⟨d,_,hR⟩:=h.ready SC hf
  have hr:=hR.hr (by have:=hl.2;exact L2 [_,_] (.a W0 W1) V1 1 V0 V1 1 (.a W1 W1) V0 rfl g2 hl.2);obtain⟨_,k2⟩:=hR.sim.close SC hr;refine aa k2 ?_;exact hR.sim.endOk SC (by exact L1 [_] (.m 6 V0) (.n 200) 6 (.a V0 W1) (.n 15) rfl hj) hr
 ·obtain⟨d,_,hR⟩:=h.ready SC hf
  refine⟨KF hR.sim.declLen (bd hj),fun q=>?_,fun _=>⟨nv hR.sim hc hj (by exact L1 [_] (.m 6 V0) (.n 190) 6 (.a V0 W1) (.n 15) rfl hj) hR.hr' hR.hz hS,fun b hb=>?_⟩⟩
  ·rw[hS] at q
   exact yH hR.sim hc hj (by lia) j (hR.hz.mp (Nat.eq_zero_of_not_pos (of_decide_eq_false q)))
  ·have Qb:=gX hR.sim hc hj hR.hr' hR.hz hS
   cases hm:(d.meant j c).head? with
   |none=>
    rw[hm] at Qb;rw[Qb.1] at hb
    cases hb
   |some m=>
    rw[hm] at Qb;obtain⟨a',q1,q2⟩:=Qb;rw[q1] at hb
    cases hb;have TK:(0:Int)<=(d.push c m).Yl:=K1 _;have:=q2.endOk (Nat.succ_le_of_lt hj) (by exact L1 [_] (.a (.m 6 V0) (.n 5)) (.n 200) 6 (.a V0 W1) (.n 15) rfl hj) TK;obtain⟨_,k2⟩:=q2.close (Nat.succ_le_of_lt hj) TK;rw[Ni] at k2;rw[←Mq k2] at this;exact this
theorem wo{S:Str->Bool}{j:Nat}{st:gc}{y:Except (Str×Str) DS}(h:iw S j (.ok st) y)(hj:j<=15)(h0:0<j):fy st.2.reverse st.1:=by
 rcases hr:st.2.reverse with _|⟨ut,r⟩
 ·trivial
 ·refine⟨(h.good hj).1,fun a hf=>?_⟩
  obtain⟨d,_,hR⟩:=h.ready hj hf;have:=(jL _ rfl hR.sim hj (by have:=hR.sim.stLen;have:=hR.sim.ok.chainLen;lia)).1;rw[hr] at this;exact this.2 a hR.sim.flush
theorem wp(h:fl a=.ok a')(h2:fl a'=.ok a'):ck (ut::r) a=ck (ut::r) a':=by
 show bp (cQ ut a) (ck r)=bp (cQ ut a') (ck r);unfold cQ;exact aa h (aa h2 rfl)
theorem yN{S:Str->Bool}{j:Nat}{x:fK gc}{y:Except (Str×Str) DS}(h:iw S j x y)(hj:j<=15)(h0:0<j):
  (ru (fun a' d=>y=.ok d) (fun a' _=>(bp x fun st=>ck st.2.reverse st.1)=.ok a') (fun a' d=>Txt.join (Yc "") a'.Yh=d.fin.text) (fun a' _=>dD a'.Yh))∨gR (fun t wd PY=>y=.error (t,wd)) (fun _ wd PY=>(bp x fun st=>ck st.2.reverse st.1)=.error (wd,PY)) (fun t _ PY=>Txt.join (Yc "") PY=t) (fun _ _ PY=>dD PY):=by
 rcases h.fl hj with⟨t,wd,PY,hy,h1,h2,rfl|⟨a,st,rfl,hf,P2⟩⟩|⟨d,a0,a,st,hy,rfl,hf,hR⟩
 ·exact .inr ⟨t,wd,PY,hy,rfl,h1,h2⟩
 ·refine .inr ⟨t,wd,PY,hy,?_,h1,h2⟩
  show ck st.reverse a=_;rcases hr:st.reverse with _|⟨ut,r⟩
  ·exact absurd (List.reverse_eq_nil_iff.mp hr) P2
  ·show bp (cQ ut a) (ck r)=_
   unfold cQ;exact aa hf rfl
 ·obtain⟨_,a',k2,k3,k4⟩:=jL _ rfl hR.sim hj (by have:=hR.sim.stLen;have:=hR.sim.ok.chainLen;lia)
  refine .inl ⟨a',d,hy,?_,k3,k4⟩;show ck st.reverse a0=_;rcases hr:st.reverse with _|⟨ut,r⟩
  ·exact absurd (List.reverse_eq_nil_iff.mp hr) (hR.nonempty h0)
  ·exact aa (wp (dM hf) (dM hR.sim.flush)) (ae hr k2)
section
variable{Yi ag:X9}(hb:∀ y∈ag,0<=y/\y<65536)(RN:Yi.getD 0 0=2)(P5:bx (ag.getD 0 0)=true)(hn:ag.length<=15)(hp:0<ag.length)
include hb
theorem jT:∀ r∈ag.map aO,r.length=10:=fun r hr=>by
 obtain⟨y,hy,rfl⟩:=KI.mp hr;have h:=hb y hy;obtain⟨n,rfl⟩:∃ n:Nat,y=n:=⟨y.toNat,tE h.1⟩;exact aa (uk n (by lia)) (ez (iH h.1 h.2))
theorem vh(hj:j<ag.length):ai (bf (ag.getD j 0))/\(ag.map aO).getD j ⟨#[]⟩=ac (bf (ag.getD j 0))/\(bx (ag.getD j 0)=true↔(bf (ag.getD j 0)).fdiv 4096=4):=by
 have h:=hb _ (bi (d:=0) hj);have e:(ag.map aO).getD j ⟨#[]⟩=aO (ag.getD j 0):=by
  exact aa KR (aa LV (aa KR (aa (KJ hj) rfl)))
 refine aa e ?_;obtain⟨n,hq⟩:∃ n:Nat,ag.getD j 0=n:=⟨(ag.getD j 0).toNat,tE h.1⟩;rw[hq] at h⊢;exact⟨iH h.1 h.2,uk n (by lia),wl (by lia)⟩
include RN P5 hn
theorem ki:∀ j,j<=ag.length->iw (bL (ag.map aO)) j (b9 (bL (ag.map aO)) Yi ag (ag.map aO) (a0,[]) j) (iE Yi ag j)
 |0,_=> .inl ⟨_,_,_,rfl,rfl,rY⟩
 |j+1,hj=>by
  obtain⟨r1,r2,r3⟩:=vh hb hj;have h0:j=0->Yi.getD j 0=2/\bx (ag.getD j 0)=true:=fun e=>aa e ⟨RN,P5⟩;have Qb:=yM (Yv:=Yi.getD j 0) (mode:=ag.getD j 0) (BQ hj hn) (ki j (Nat.le_of_succ_le hj)) r1 r2 r3 (pQ (jT hb) (by refine aa (KE _) ?_;exact hj)) h0;exact aa (mU _ _ _) Qb
include hp
theorem uA:ke (ag.map aO) Yi ag/\dB (ag.map aO) Yi ag=dZ Yi ag:=by
 have hl:(ag.map aO).length=ag.length:=KE _;have Qb:=yN (ki hb RN P5 hn _ (KZ _)) hn hp;have hT:(bp (b9 (bL (ag.map aO)) Yi ag (ag.map aO) (a0,[]) ag.length) fun st=>ck st.2.reverse st.1)=dQ (bL (ag.map aO)) Yi ag (ag.map aO) a0:=by
  unfold dQ;exact aa hl rfl
 rw[hT] at Qb;refine⟨⟨fun j st hj e=>?_,fun st e=>?_,fun a e=>?_,fun w PY e=>?_⟩,?_⟩
 ·rw[hl] at hj
  obtain⟨r1,r2,r3⟩:=vh hb hj;have hA:=ki hb RN P5 hn j (LD hj);rw[e] at hA;exact wT hA (xN hj hn) r1 r2 (pQ (jT hb) (by refine aa hl ?_;exact hj))
 ·rw[hl] at e
  have hA:=ki hb RN P5 hn _ (KZ _);rw[e] at hA;obtain⟨_,g2,g3⟩:=hA.good hn;refine⟨wo hA hn hp,by exact L2 [_,_] V1 (.n 1000) 1 V0 (.n 15) 1 V1 V0 rfl hn g2,fun ut YN=>?_⟩;obtain⟨c,i,hc,rfl⟩:=g3 ut YN;exact BI hc i
 ·rcases Qb with⟨a',d,_,k2,_,k4⟩|⟨t,wd,PY,_,k2,_,_⟩
  ·rw[e] at k2;cases k2;exact k4
  ·rw[e] at k2;cases k2
 ·rcases Qb with⟨a',d,_,k2,_,k4⟩|⟨t,wd,PY,_,k2,_,k4⟩
  ·rw[e] at k2;cases k2
  ·rw[e] at k2;cases k2;exact k4
 ·refine aa (yh _ _) ?_
  unfold dB;rcases Qb with⟨a',d,k1,k2,k3,_⟩|⟨t,wd,PY,k1,k2,k3,_⟩
  ·exact aa k2 (aa k1 (congrArg (·,Yc "none") k3))
  ·exact aa k2 (aa k1 (congrArg (·,wd) k3))
end
theorem vX(n:Nat):Builtin.bitNot (n:Int)=Int.negSucc n:=by
 show-(n:Int)-1=_;refine aa (Int.negSucc_eq _) ?_
 omega
theorem rL(n:Nat):Builtin.bitNot (Int.negSucc n)=n:=by
 show-(Int.negSucc n)-1=_;refine aa (Int.negSucc_eq _) ?_;exact tY
theorem xX(n m:Nat):Builtin.bitOr (n:Int) (m:Int)=((n|||m:Nat):Int):=by
 unfold Builtin.bitOr;refine aa (vX n) (aa (vX m) ?_);have h:Builtin.bitAnd (Int.negSucc n) (Int.negSucc m)=Builtin.bitNot (((Builtin.bitNot (Int.negSucc n)).toNat|||(Builtin.bitNot (Int.negSucc m)).toNat:Nat):Int):=rfl;exact aa h (aa (rL _) (aa (rL _) (aa (K8 _) (aa (K8 _) (aa (vX _) (aa (rL _) rfl))))))
theorem uz(part:Int):0<=eZ part/\eZ part<65536:=by
 have h1:=di part (b:=24) (by decide);have h2:=di (part.fdiv 24) (b:=4096) (by decide);unfold eZ;generalize part.fmod 24=k at h1;generalize (part.fdiv 24).fmod 4096=r at h2;have hk:0<=(if 15<k then([4,4,4,6,2,10,1,12]:X9).getD (k-16).toNat 0 else k)/\(if 15<k then([4,4,4,6,2,10,1,12]:X9).getD (k-16).toNat 0 else k)<16:=by
  have t:∀ i,i<8->0<=([4,4,4,6,2,10,1,12]:X9).getD i 0/\([4,4,4,6,2,10,1,12]:X9).getD i 0<16:=by decide
  split
  ·exact t _ (t8 h1.2)
  ·omega
 have hr:0<=(if 1<(part.fdiv 98304).fmod 4 then Builtin.bitOr r 438 else r)/\(if 1<(part.fdiv 98304).fmod 4 then Builtin.bitOr r 438 else r)<4096:=by
  split
  ·obtain⟨n,rfl⟩:∃ n:Nat,r=n:=⟨r.toNat,tE h2.1⟩
   refine aa (show (438:Int)=((438:Nat):Int) from rfl) (aa (xX _ _) ?_);have:=Nat.or_lt_two_pow (x:=n) (y:=438) (n:=12) (by omega) (by decide);exact⟨K1 _,xR this⟩
  ·exact h2
 omega
theorem rZ(k:Nat)(hk:k<4096):bx ((16384+k:Nat):Int)=true:=by
 unfold bx;exact aa (mw _ (by exact L1 [_] (.a (.a (.n 16384) V0) W1) (.n 65536) 1 (.a V0 W1) (.n 4096) rfl hk)) (aa (show (16384+k)/4096=4 from FU hk) rfl)
theorem law_ok(ns:X9):rD ns:=by
 have hq:=di (1023+ns.sum) (b:=4096) (by decide);have hb:∀ y∈aV ns,0<=y/\y<65536:=fun y hy=>by
  rcases KG.mp hy with rfl|hy
  ·omega
  ·obtain⟨n,_,rfl⟩:=KI.mp hy
   exact uz _
 have hl:(aV ns).length=(bh ns).length+1:=by unfold aV;exact aa Lc (aa (KE _) rfl)
 have hn:=jy ns;have hm:bx ((aV ns).getD 0 0)=true:=by
  show bx (16384+(1023+ns.sum).fmod 4096)=true;obtain⟨k,hk⟩:∃ k:Nat,(1023+ns.sum).fmod 4096=k:=⟨((1023+ns.sum).fmod 4096).toNat,tE hq.1⟩;rw[hk] at hq⊢;exact rZ k (by omega)
 obtain⟨h1,h2⟩:=uA hb (Yi:=cu ns) rfl hm (by exact L3 [_,_] V0 (.n 15) 3 V0 (.a V1 W1) 2 (.a V1 W1) V0 1 V1 (.n 14) rfl (eL hl) (eG hl) hn.2) (by exact L1 [_,_] (.a W0 W1) V0 1 (.a V1 W1) V0 rfl (eG hl));exact⟨hb,fun y hy=>by refine aa (jT hb _ (KU hy)) ?_;decide,h1,h2⟩
end
end Internal
theorem PySem.Challenge.cw_pk0128_01_holds : PySem.Challenge.rw_pk0128_01.Holds :=
 Internal.hd (Internal.law_call Internal.law_ok)