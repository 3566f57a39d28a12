import PyProof.Rows.All
import PyProof.EqKinds
import PyProof.StrLawsIn
import PyProof.StrLawsChain
import PyProof.SliceMore
import KE.IntBitsLaws
import Wide.FinOn
import OpenK.AllK
import Wide.All
import Lean
import PySem.Challenge.RW_om0190_02
set_option Elab.async false
set_option linter.all false
set_option maxRecDepth 1000000
set_option maxHeartbeats 0
set_option tactic.hygienic false
set_option genInjectivity false
set_option genSizeOf false
noncomputable section
namespace Mine
section
open PySem PySem.W PySem.W.X PySem.Spec PySem.Calls PyProof.Rows
theorem sX:PySem.Challenge.rw_om0190_02.wellSaid=true:=by
 rw [PySem.W.Fast.te9446332074065402090]
 kernel_rfl
end
section
open PySem PySem.W PySem.W.X
def vh:=@List.length_map
def vi:=@PySem.wpAny_bind
def vj:=@List.append_assoc
def vl:=@List.map_append
def vm:=@congrArg
def vn:=@List.length_append
def vo:=@List.mem_map_of_mem
def vp:=@Nat.le_refl
def vq:=@List.mem_append_left
def vr:=@List.length_cons
def vt:=@List.mem_append_right
def vu:=@List.map_cons
def vv:=@Nat.le_trans
def vx:=@PySem.wpAny_pure
def vy:=@List.Perm.append_left
def vz:=@Bool.and_eq_true_iff
def w0:=@List.getElem?_eq_getElem
def w2:=@if_neg
def w8:=@Nat.le_of_ble_eq_true
def w9:=@List.append_nil
def wA:=@List.getElem?_eq_some_iff
def wB:=@List.cons.inj
def wC:=@List.mem_map
def wD:=@if_pos
def wF:=@PySem.wpAny_call_entry
def wG:=@List.all_eq_true
def wH:=@List.drop_eq_getElem_cons
def wI:=@List.getElem?_map
def wJ:=@List.perm_append_comm
def wK:=@List.mem_cons
def wM:=@Option.isSome_iff_exists
def wO:=@List.flatMap_cons
def wQ:=@List.length_singleton
def wR:=@Nat.ble_eq
def wU:=@List.map_inj_left
def wV:=@List.perm_middle
def wW:=@List.mem_of_getElem?
def wX:=@Bool.false_ne_true
def wY:=@List.mem_append
def wZ:=@List.nodup_cons
def wa:=@List.getD_eq_getElem?_getD
def wb:=@Nat.lt_of_le_of_lt
def wc:=@PySem.Heap.get?_push_of_some
def wg:=@decide_eq_false
def wh:=@List.cons.injEq
def wi:=@List.zip_append
def wj:=@decide_eq_true
def wm:=@List.map_fst_zip
def wo:=@List.flatMap_append
def wq:=@Nat.eq_of_beq_eq_true
def wu:=@Option.some.injEq
def wx:=@Nat.le_of_eq
def wz:=@List.map_map
def x5:=@List.nodup_append
def x6:=@List.reverse_cons
def x7:=@of_decide_eq_true
def x8:=@Option.some.inj
def x9:=@List.length_nil
def xA:=@List.Perm.append_right
def xC:=@List.drop_length
def xD:=@congrFun
def xE:=@Array.getElem?_eq_getElem
def xG:=@Nat.mul_le_mul_left
def xK:=@Nat.not_lt
def xM:=@PySem.Heap.SameBut.update
def xQ:=@PySem.Heap.get?_push_size
def xR:=@PySem.wpAny_typeNameOfWhole_keyiter
def xU:=@PySem.wpAny_typeNameOfWhole_valiter
def xV:=@PySem.Heap.get?_update_self
def xW:=@List.contains_iff_mem
def xX:=@List.mem_singleton
def xY:=@Bool.and_eq_true
def xZ:=@Option.map_eq_some_iff
def xa:=@List.map_eq_nil_iff
def xb:=@Nat.succ_le_succ
def xc:=@List.length_drop
def xd:=@Prod.mk.injEq
def xe:=@Nat.add_assoc
def xf:=@PySem.wpAny_typeNameOf_keyiter
def xg:=@PySem.wpAny_typeNameOf_valiter
def xh:=@List.map_drop
def xi:=@PySem.wpAny_field
def xj:=@Nat.le_succ_of_le
def xk:=@Nat.add_le_add_left
def xm:=@PySem.Heap.lt_size
def xn:=@PySem.wpAny_holding
def xo:=@Nat.le_add_right
def xp:=@List.length_take
def xq:=@Nat.add_le_add
def xr:=@Nat.lt_of_lt_of_le
def xt:=@Nat.add_right_comm
def xu:=@List.getElem?_drop
def xw:=@List.findIdx?_cons
def xx:=@PySem.wpAny_setField
def xy:=@List.length_filter_le
def y4:=@PySem.wpAny_notOrdered_dict
def y5:=@List.cons_lt_cons_iff
def y6:=@List.rel_of_pairwise_cons
def y7:=@Nat.le_succ
def y8:=@List.length_range
def y9:=@List.take_add_one
def yA:=@PySem.wpAny_newObj_type
def yB:=@Nat.add_le_add_right
def yC:=@List.mem_range'_1
def yD:=@List.map_take
def yE:=@List.cons_append
def yF:=@List.drop_drop
def yG:=@List.take_length
def yH:=@Nat.add_comm
def yI:=@Bool.false_eq_true
def yJ:=@PySem.slot_listiter_next
def yK:=@List.pairwise_cons
def yM:=@Nat.le_add_left
def yN:=@List.findIdx?_toArray
def yO:=@PySem.wpAny_isOneOf_valiter
def yP:=@PySem.wpAny_dictEntries
def yQ:=@Int.toNat_natCast
def yR:=@PySem.call_meets
def yT:=@List.dropWhile_cons_of_neg
def yU:=@PySem.Around.under_plainId
def yW:=@PyProof.Rows.KTD.kt_dictFind_strs
def yX:=@PySem.wpAny_seqItems
def yY:=@List.exists_cons_of_ne_nil
def yZ:=@List.any_eq_true
def ya:=@Nat.succ_ne_zero
def yb:=@List.getElem_map
def yc:=@List.findIdx?_eq_none_iff
def yd:=@Array.length_toList
def ye:=@PySem.entry_listiter_next
def yf:=@Array.toList_append
def yg:=@PySem.W.Fast.te14364793385576792824
def yh:=@List.foldl_cons
def yi:=@PySem.typeIs_str
def yj:=@Nat.zero_le
def yk:=@Int.eq_ofNat_of_zero_le
def yl:=@List.pairwise_singleton
def ym:=@Option.bind_eq_some_iff
def yn:=@List.find?_cons_of_pos
def yo:=@List.mem_range
def yp:=@Option.map_eq_none_iff
def yq:=@decide_eq_true_eq
def yr:=@List.drop_zero
def yt:=@List.find?_cons_of_neg
def yu:=@Int.fmod_nonneg_of_pos
def yv:=@PySem.wpAny_isOneOf_keyiter
def yw:=@List.mem_flatMap
def yx:=@PySem.wpAny_pyHash_str
def yy:=@beq_self_eq_true
def yz:=@if_false
def y':=@List.drop_eq_nil_iff
def z4:=@List.perm_cons_erase
def z5:=@Array.mem_toList_iff
def z6:=@PySem.codeAny_builtin
def z7:=@List.find?_cons
def z8:=@beq_eq_false_iff_ne
def z9:=@List.length_take_le
def zA:=@List.length_pos_iff
def zB:=@if_true
def zC:=@Nat.ne_of_lt
def zD:=@List.map_nil
def zE:=@Option.isSome_some
def zF:=@PySem.Heap.size_push
def zG:=@beq_iff_eq
def zH:=@Nat.sub_add_cancel
def zI:=@PySem.wpAny_runValue
def zJ:=@Int.natCast_nonneg
def zK:=@List.find?_eq_none
def zL:=@PySem.entry_list_getitem
def zM:=@Int.fmod_lt_of_pos
def zN:=@List.append_of_mem
def zO:=@Nat.lt_succ_of_le
def zP:=@Array.toList_push
def zQ:=@Nat.le_of_lt_succ
def zR:=@PySem.W.BT.beq_eq
def zS:=@List.ext_getElem
def zT:=@List.getElem_mem
def zU:=@Array.toList_inj
def zV:=@Nat.succ.inj
def zW:=@Nat.zero_add
def zX:=@Option.map_some
def zY:=@List.length_zip
def zZ:=@Bool.or_eq_true
abbrev za:=List (Nat×List Nat)
abbrev zb:=List (List Nat×Nat)
abbrev ze:=List Frame
abbrev zf:=List Value
abbrev zg:=List Data
abbrev zi:=List Env
abbrev zj:=List Str
abbrev zk:=Array GenState
abbrev zl:=List Nat
abbrev zm:=Nat→Str
abbrev zo:=Nat→Nat
abbrev zp:=Params
abbrev zq:=Value
abbrev zr:=Shared
abbrev zt:=World
abbrev zu:=Data
abbrev zv:=Program
abbrev zw:List String:=["claim.caller"]
def Go(p:zv)(w:zt)(s:zr)(t:Thread)(s':zr)(t':Thread):Prop:=∃ n,(model p w).runN n s t=.running s' t'
theorem Go.refl{p w s t}:Go p w s t s t:=⟨0,rfl⟩
theorem Go.head{p w s t s₁ t₁ s' t'}(e:(model p w).step s t=.go s₁ t₁)(h:Go p w s₁ t₁ s' t'):Go p w s t s' t':=by
 obtain ⟨n,h⟩:=h
 refine ⟨n+1,?_⟩
 show (match (model p w).step s t with | .go qV t''=>(model p w).runN n qV t'' | .halt o qV=>.halted o qV)=_
 rw [e]; exact h
theorem Go.ind{p w s' t'}{P:zr→Thread→Prop}(h0:P s' t')(h1:∀ s t s₁ t₁,(model p w).step s t=.go s₁ t₁→P s₁ t₁→P s t){s t}(h:Go p w s t s' t'):P s t:=by
 obtain ⟨n,h⟩:=h
 induction n generalizing s t with
 | zero=>cases h; exact h0
 | succ n ih=>
  have h:(match (model p w).step s t with | .go qV t''=>(model p w).runN n qV t'' | .halt o qV=>.halted o qV)=Run.running s' t':=h
  cases e:(model p w).step s t with
  | halt o qV=>rw [e] at h; cases h
  | go s₁ t₁=>rw [e] at h; exact h1 _ _ _ _ e (ih h)
theorem Go.trans{p w s t s₁ t₁ s₂ t₂}(h:Go p w s t s₁ t₁)(k:Go p w s₁ t₁ s₂ t₂):Go p w s t s₂ t₂:=
 Go.ind (P:=fun s t=>Go p w s t s₂ t₂) k (fun q q q q e h=>.head e h) h
theorem Go.one{p w s t s₁ t₁}(e:(model p w).step s t=.go s₁ t₁):Go p w s t s₁ t₁:=.head e .refl
theorem Hj{t:Thread}(h:t.calm=true):t.loud=false:=by
 unfold Thread.calm at h
 obtain ⟨h1,h2⟩:=vz.mp (vz.mp h).1
 unfold Thread.loud
 revert h1 h2
 cases t.atCollectorCode<;>cases t.atExit<;>cases t.yieldsInsideHandler<;>intro a b<;>first | rfl | exact absurd a (by decide) | exact absurd b (by decide)
theorem EL{p:zv}{w:zt}{s:zr}{t:Thread}(hc:t.calm=true)(h1:∀ c,t.cur≠.pure (.again c))(h2:∀ c h g l k,t.cur≠.call c h g l k):(model p w).step s t=step (denote table) p w s t:=by
 rw [Model.step_quiet _ (Hj hc)]
 obtain ⟨cur,code,pos,stack⟩:=t
 cases cur with
 | pure f=>cases f with
  | again c=>exact absurd rfl (h1 c)
  | done f=>rfl
 | call c h g l k=>exact absurd rfl (h2 c h g l k)
 | _=>rfl
theorem Bj{p:zv}{w:zt}{s:zr}{c c':Code}{pos:Pos}{st:ze}(hc:Thread.calm ⟨.pure (.again c'),c,pos,st⟩=true):(model p w).step s ⟨.pure (.again c'),c,pos,st⟩=.go s ⟨denote table c',c',pos,st⟩:=by
 rw [Model.step_quiet _ (Hj hc)]; rfl
theorem CV{p:zv}{w:zt}{s:zr}{c c':Code}{pos:Pos}{st:ze}{h:Option zq}{g:Bool}{l:zf}{k:Result→Sem Fin}:(model p w).step s ⟨.call c' h g l k,c,pos,st⟩=.go s ⟨denote table c',c',pos,.ret k h g l c pos []::st⟩:=rfl
inductive TT where
 | nil
 | node (a:Nat) (o:Obj) (l r:TT)
namespace TT
noncomputable def get:TT→Nat→Option (Nat×Obj)
 | .nil,_=>none
 | .node a v l r,i=>match Nat.beq i 0 with
  | true=>some (a,v)
  | false=>match Nat.beq (i % 2) 1 with
   | true=>l.get (i / 2)
   | false=>r.get (i / 2-1)
noncomputable def set:TT→Nat→(Obj→Obj)→TT
 | .nil,_,_=>.nil
 | .node a v l r,i,f=>match Nat.beq i 0 with
  | true=>.node a (f v) l r
  | false=>match Nat.beq (i % 2) 1 with
   | true=>.node a v (l.set (i / 2) f) r
   | false=>.node a v l (r.set (i / 2-1) f)
noncomputable def ins:TT→Nat→Nat→Obj→TT
 | .nil,_,a,o=>.node a o .nil .nil
 | .node a' v l r,i,a,o=>match Nat.beq i 0 with
  | true=>.node a o l r
  | false=>match Nat.beq (i % 2) 1 with
   | true=>.node a' v (l.ins (i / 2) a o) r
   | false=>.node a' v l (r.ins (i / 2-1) a o)
theorem get_node(a:Nat)(v:Obj)(l r:TT)(i:Nat):(node a v l r).get i=if i=0 then some (a,v) else if i % 2=1 then l.get (i / 2) else r.get (i / 2-1):=by
 show (match Nat.beq i 0 with | true=>some (a,v) | false=>match Nat.beq (i % 2) 1 with | true=>l.get (i / 2) | false=>r.get (i / 2-1))=_
 rw [zR,zR]
 by_cases h:i=0
 ·simp [h]
 ·by_cases q:i % 2=1<;>simp [h,q]
theorem G5(a:Nat)(v:Obj)(l r:TT)(i:Nat)(f:Obj→Obj):(node a v l r).set i f=if i=0 then node a (f v) l r else if i % 2=1 then node a v (l.set (i / 2) f) r else node a v l (r.set (i / 2-1) f):=by
 show (match Nat.beq i 0 with | true=>node a (f v) l r | false=>match Nat.beq (i % 2) 1 with | true=>node a v (l.set (i / 2) f) r | false=>node a v l (r.set (i / 2-1) f))=_
 rw [zR,zR]
 by_cases h:i=0
 ·simp [h]
 ·by_cases q:i % 2=1<;>simp [h,q]
theorem PQ(a':Nat)(v:Obj)(l r:TT)(i a:Nat)(o:Obj):(node a' v l r).ins i a o=if i=0 then node a o l r else if i % 2=1 then node a' v (l.ins (i / 2) a o) r else node a' v l (r.ins (i / 2-1) a o):=by
 show (match Nat.beq i 0 with | true=>node a o l r | false=>match Nat.beq (i % 2) 1 with | true=>node a' v (l.ins (i / 2) a o) r | false=>node a' v l (r.ins (i / 2-1) a o))=_
 rw [zR,zR]
 by_cases h:i=0
 ·simp [h]
 ·by_cases q:i % 2=1<;>simp [h,q]
theorem WM{i a:Nat}(e:i≠a)(p:i % 2=1)(q:a % 2=1):i / 2≠a / 2:=by lia
theorem WL{i a:Nat}(e:i≠a)(hi:i≠0)(ha:a≠0)(p:¬ i % 2=1)(q:¬ a % 2=1):i / 2-1≠a / 2-1:=by lia
theorem get_set(f:Obj→Obj):∀ (t:TT) (a i:Nat),(t.set a f).get i=if i=a then (t.get a).map (fun p=>(p.1,f p.2)) else t.get i
 | .nil,a,i=>by show (TT.nil.get i)=_; simp [get]
 | .node b v l r,a,i=>by
  rw [G5,get_node b v l r a,get_node b v l r i]
  by_cases ha:a=0
  ·subst ha
   rw [wD rfl,get_node]
   by_cases hi:i=0
   ·simp [hi]
   ·simp [hi]
  ·rw [w2 ha]
   by_cases pa:a % 2=1
   ·rw [wD pa,get_node]
    by_cases hi:i=0
    ·simp [hi,Ne.symm ha]
    ·by_cases pi:i % 2=1
     ·simp only [hi,pi,ha,pa,zB,yz,get_set f l]
      by_cases e:i=a
      ·simp [e]
      ·have:=WM e pi pa
       simp [e,this]
     ·have:i≠a:=fun q=>pi (q ▸ pa)
      simp [hi,pi,this]
   ·rw [w2 pa,get_node]
    by_cases hi:i=0
    ·simp [hi,Ne.symm ha]
    ·by_cases pi:i % 2=1
     ·have:i≠a:=fun q=>pa (q ▸ pi)
      simp [hi,pi,this]
     ·simp only [hi,pi,ha,pa,yz,get_set f r]
      by_cases e:i=a
      ·simp [e]
      ·have:=WL e hi ha pi pa
       simp [e,this]
theorem get_ins(b:Nat)(o:Obj):∀ (t:TT) (a:Nat),((t.ins a b o).get a).isSome=true→∀ i,(t.ins a b o).get i=if i=a then some (b,o) else t.get i
 | .nil,a,h,i=>by
  have e:(TT.nil.ins a b o)=node b o nil nil:=rfl
  rw [e,get_node] at h
  have ha:a=0:=by
   by_cases q:a=0
   ·exact q
   ·exfalso; revert h; by_cases p:a % 2=1<;>simp [q,p,get]
  subst ha
  rw [e,get_node]
  by_cases hi:i=0
  ·simp [hi]
  ·by_cases p:i % 2=1<;>simp [hi,p,get]
 | .node c v l r,a,h,i=>by
  rw [PQ] at h ⊢
  rw [get_node c v l r i]
  by_cases ha:a=0
  ·subst ha
   rw [wD rfl,get_node]
   by_cases hi:i=0<;>simp [hi]
  ·rw [w2 ha] at h ⊢
   by_cases pa:a % 2=1
   ·rw [wD pa] at h ⊢
    rw [get_node,w2 ha,wD pa] at h
    rw [get_node]
    by_cases hi:i=0
    ·simp [hi,Ne.symm ha]
    ·by_cases pi:i % 2=1
     ·simp only [hi,pi,zB,yz,get_ins b o l _ h]
      by_cases e:i=a
      ·simp [e]
      ·have:=WM e pi pa
       simp [e,this]
     ·have:i≠a:=fun q=>pi (q ▸ pa)
      simp [hi,pi,this]
   ·rw [w2 pa] at h ⊢
    rw [get_node,w2 ha,w2 pa] at h
    rw [get_node]
    by_cases hi:i=0
    ·simp [hi,Ne.symm ha]
    ·by_cases pi:i % 2=1
     ·have:i≠a:=fun q=>pa (q ▸ pi)
      simp [hi,pi,this]
     ·simp only [hi,pi,yz,get_ins b o r _ h]
      by_cases e:i=a
      ·simp [e]
      ·have:=WL e hi ha pi pa
       simp [e,this]
end TT
section
@[irreducible] noncomputable def qg:Code→Sem Fin:=PySem.W.Fast.tw11892475500146522536 PySem.W.Fast.tw14364793385576792824
noncomputable def Ds(p:zv)(w:zt)(s:zr)(t:Thread):Step:=PySem.W.Fast.tw8437177126325714943 qg p w s t
noncomputable def FJ(t:Thread):Bool:=PySem.W.Fast.tw2348191978395082540 t
theorem Be:denote table=qg:=by
 unfold qg
 rw [table_eq_tree,← PySem.W.Fast.te11892475500146522536,← yg]
theorem Nb(p:zv)(w:zt)(s:zr)(t:Thread):Ds p w s t=step (denote table) p w s t:=by
 unfold Ds
 rw [Be,← PySem.W.Fast.te8437177126325714943]
theorem Aq(t:Thread):FJ t=t.calm:=by
 unfold FJ
 rw [← PySem.W.Fast.te2348191978395082540]
structure SX where
 T:TT
 m:Nat
 n:Nat
 i:Nat
 gens:zk
 drawn:Drawn
 t:Nat
 ti:Nat
 os:OsState
structure BR(kt:KT)(s:zr)(x:SX):Prop where
 size:s.heap.objs.size=x.n+x.i
 own:∀ j a o,x.T.get j=some (a,o)→s.heap.get? a=some o
 apart:∀ j j' a o o',x.T.get j=some (a,o)→x.T.get j'=some (a,o')→j=j'
 low:∀ j p,x.T.get j=some p→j < x.m
 top:∀ a o,kt.get a=some o→s.heap.get? a=some o
 off:∀ j a o,x.T.get j=some (a,o)→kt.get a=none
 gens:s.gens=x.gens
 drawn:s.drawn=x.drawn
 toks:s.toks=x.t+x.ti
 os:s.os=x.os
inductive R where
 | bad (why:Nat) (a:Nat)
 | fin (es:List (Nat×Nat)) (f:Fin) (x:SX) (code:Code) (pos:Pos) (pN:ze)
 | raised (es:List (Nat×Nat)) (e:zq) (x:SX) (code:Code) (pos:Pos) (pN:ze)
 | stop (es:List (Nat×Nat)) (cur:Sem Fin) (x:SX) (code:Code) (pos:Pos) (pN:ze) (k:Sem Fin→SX→R)
 | call (es:List (Nat×Nat)) (c:Code) (hd:Option zq) (x:SX) (code:Code) (pos:Pos) (pN:ze) (k:Result→SX→R)
noncomputable def cJ:Frame→Bool
 | .ret _ none _ _ _ _ _=>true
 | .ret _ (some _) _ _ _ _ _=>false
 | .gen ..=>true
def qt:ze→Bool
 | []=>true
 | f::l=>match cJ f with
  | true=>qt l
  | false=>false
noncomputable def q9(l:ze):Bool:=Nat.ble l.length 9
def nS(ld:Bool)(l:ze):Bool:=match ld with
 | true=>true
 | false=>qt l
def qw(ld:Bool)(l:ze):Bool:=nS ld l&&q9 l
def qv(l:ze):Bool:=qw false l
noncomputable def bT{α β:Type}(m:Sem α)(f:α→Sem β):Sem β:=@bind Sem (@Monad.toBind Sem PySem.W.Fast.tw12456147031677567982) α β m f
noncomputable def lh(self:Nat)(fd:FuncData)(args:Args):Sem Env:=
 bT (match fd.code with
  | .none=>.pure fd.qualname
  | c=>bT (PySem.W.Fast.tw6609576154772507232 c 1) fun v=>match v with
   | .str q _=>.pure q
   | _=>.pure fd.qualname) fun compiled=>bT (PySem.W.Fast.tw9782568553167038054 fd args) fun bs=>
  PySem.W.Fast.tw11113344188204177931 fd.scope fd.globals fd.closure bs (compiled++⟨⟨[46,60,108,111,99,97,108,115,62,46]⟩⟩) (some self) fd.code none fd.builtins
noncomputable def Zd(fd:FuncData):Option (List Stmt):=match fd.body with
 | .stmts b=>match fd.scope.isGenerator with
  | false=>match fd.scope.isCoroutine with
   | false=>some b
   | true=>none
  | true=>none
 | _=>none
def R5(kt:KT):Code→Option (Nat×FuncData×Args×List Stmt)
 | .call (.ref a) args=>match kt.get a with
  | some o=>match o.data with
   | .func fd=>match Zd fd with
    | some b=>some (a,fd,args,b)
    | none=>none
   | _=>none
  | none=>none
 | _=>none
noncomputable def JY(p:zv)(w:zt)(kt:KT):Nat→zl→List (Nat×Nat)→SX→Sem Env→(zl→List (Nat×Nat)→SX→Env→R)→R
 | 0,_,_,_,_,_=>.bad 0 1
 | k+1,hs,es,⟨T,m,n,i,gens,drawn,t,ti,os⟩,cur,K=>match cur with
  | .pure env=>K hs es ⟨T,m,n,i,gens,drawn,t,ti,os⟩ env
  | .rule _ kk=>JY p w kt k hs es ⟨T,m,n,i,gens,drawn,t,ti,os⟩ (kk ()) K
  | .ask kk=>JY p w kt k hs es ⟨T,m,n,i,gens,drawn,t,ti,os⟩ (kk ⟨p,w.2⟩) K
  | .point _ kk=>JY p w kt k hs es ⟨T,m,n,i,gens,drawn,t,ti,os⟩ (kk ()) K
  | .load a _ kk=>match hs with
   | []=>.bad 1 a
   | h::hs=>match h with
    | 0=>match kt.get a with
     | some o=>JY p w kt k hs es ⟨T,m,n,i,gens,drawn,t,ti,os⟩ (kk o) K
     | none=>.bad 2 a
    | j+1=>match T.get j with
     | some (aj,o)=>JY p w kt k hs ((a,aj)::es) ⟨T,m,n,i,gens,drawn,t,ti,os⟩ (kk o) K
     | none=>.bad 3 a
  | .update a _ f kk=>match hs with
   | []=>.bad 1 a
   | h::hs=>match h with
    | 0=>.bad 4 a
    | j+1=>match T.get j with
     | some (aj,o)=>match (f o).isFreed with
      | true=>.bad 6 a
      | false=>JY p w kt k hs ((a,aj)::es) ⟨T.set j f,m,n,i,gens,drawn,t,ti,os⟩ (kk ()) K
     | none=>.bad 3 a
  | .alloc o kk=>match o.isFreed with
   | true=>.bad 6 0
   | false=>match ((T.ins m (n+i) o).get m).isSome with
    | true=>JY p w kt k hs es ⟨T.ins m (n+i) o,m+1,n,i+1,gens,drawn,t,ti,os⟩ (kk (n+i)) K
    | false=>.bad 7 m
  | .fresh kk=>JY p w kt k hs es ⟨T,m,n,i,gens,drawn,t,ti+1,os⟩ (kk (t+ti)) K
  | _=>.bad 10 0
noncomputable def CE(p:zv)(w:zt)(kt:KT)(E:zl→List (Nat×Nat)→SX→Thread→R)(hs:zl)(es:List (Nat×Nat))(x:SX)(c:Code)(pos:Pos)(stack:ze):R:=match R5 kt c with
 | some (a,fd,args,b)=>match Nat.ble stack.length 35 with
  | true=>JY p w kt 10000 hs es x (lh a fd args) fun hs es x env=>E hs es x ⟨qg (.func b env),.func b env,pos,stack⟩
  | false=>.bad 11 0
 | none=>E hs es x ⟨qg c,c,pos,stack⟩
noncomputable def Bx(p:zv)(w:zt)(kt:KT)(tw:List (Code×Pos)):Nat→zl→Nat→zl→Nat→List (Nat×Nat)→SX→Thread→R
 | 0,_,_,_,_,_,_,_=>.bad 0 0
 | k+1,hs,c,cs,ag,es,⟨T,m,n,i,gens,drawn,t,ti,os⟩,⟨cur,code,pos,stack⟩=>
  match FJ ⟨cur,code,pos,stack⟩ with
  | false=>.bad 9 0
  | true=>match cur with
   | .load a pt kk=>match hs with
    | []=>.bad 1 a
    | h::hs=>match h with
     | 0=>match kt.get a with
      | some o=>Bx p w kt tw k hs c cs ag es ⟨T,m,n,i,gens,drawn,t,ti,os⟩ ⟨kk o,code,pos,stack⟩
      | none=>.bad 2 a
     | j+1=>match T.get j with
      | some (aj,o)=>Bx p w kt tw k hs c cs ag ((a,aj)::es) ⟨T,m,n,i,gens,drawn,t,ti,os⟩ ⟨kk o,code,pos,stack⟩
      | none=>.stop es (.load a pt kk) ⟨T,m,n,i,gens,drawn,t,ti,os⟩ code pos stack (fun r3 x'=>Bx p w kt tw k hs c cs ag es x' ⟨r3,code,pos,stack⟩)
   | .loadIfAlive a kk=>match hs with
    | []=>.bad 1 a
    | h::hs=>match h with
     | 0=>match kt.get a with
      | some o=>Bx p w kt tw k hs c cs ag es ⟨T,m,n,i,gens,drawn,t,ti,os⟩ ⟨kk (some o),code,pos,stack⟩
      | none=>.bad 2 a
     | j+1=>match T.get j with
      | some (aj,o)=>Bx p w kt tw k hs c cs ag ((a,aj)::es) ⟨T,m,n,i,gens,drawn,t,ti,os⟩ ⟨kk (some o),code,pos,stack⟩
      | none=>.bad 3 a
   | .update a _ f kk=>match hs with
    | []=>.bad 1 a
    | h::hs=>match h with
     | 0=>.bad 4 a
     | j+1=>match T.get j with
      | some (aj,o)=>match (f o).isFreed with
       | true=>.bad 6 a
       | false=>Bx p w kt tw k hs c cs ag ((a,aj)::es) ⟨T.set j f,m,n,i,gens,drawn,t,ti,os⟩ ⟨kk (),code,pos,stack⟩
      | none=>.bad 3 a
   | .alloc o kk=>match o.isFreed with
    | true=>.bad 6 0
    | false=>match ((T.ins m (n+i) o).get m).isSome with
     | true=>Bx p w kt tw k hs c cs ag es ⟨T.ins m (n+i) o,m+1,n,i+1,gens,drawn,t,ti,os⟩ ⟨kk (n+i),code,pos,stack⟩
     | false=>.bad 7 m
   | .fresh kk=>Bx p w kt tw k hs c cs ag es ⟨T,m,n,i,gens,drawn,t,ti+1,os⟩ ⟨kk (t+ti),code,pos,stack⟩
   | .stack kk=>Bx p w kt tw k hs c cs ag es ⟨T,m,n,i,gens,drawn,t,ti,os⟩ ⟨kk ((code,pos)::(stack.map Frame.where_++tw)),code,pos,stack⟩
   | .call c' hd g l kk=>match c with
    | 0=>match q9 stack with
     | true=>.call es c' hd ⟨T,m,n,i,gens,drawn,t,ti,os⟩ code pos stack (fun res x'=>Bx p w kt tw k hs (cs.headD 1000000) cs.tail ag es x' ⟨kk res,code,pos,stack⟩)
     | false=>.bad 8 0
    | c+1=>CE p w kt (fun hs es x th=>Bx p w kt tw k hs c cs ag es x th) hs es ⟨T,m,n,i,gens,drawn,t,ti,os⟩ c' pos (.ret kk hd g l code pos []::stack)
   | .pure f=>match stack with
    | []=>match f with
     | .done f=>.fin es (.done f) ⟨T,m,n,i,gens,drawn,t,ti,os⟩ code pos []
     | .again c'=>match ag with
      | 0=>.fin es (.again c') ⟨T,m,n,i,gens,drawn,t,ti,os⟩ code pos []
      | ag+1=>CE p w kt (fun hs es x th=>Bx p w kt tw k hs c cs ag es x th) hs es ⟨T,m,n,i,gens,drawn,t,ti,os⟩ c' pos []
    | fr::stack=>match f with
     | .again c'=>CE p w kt (fun hs es x th=>Bx p w kt tw k hs c cs ag es x th) hs es ⟨T,m,n,i,gens,drawn,t,ti,os⟩ c' pos (fr::stack)
     | .done f=>match Ds p w ⟨{},gens,drawn,t+ti,os⟩ ⟨.pure (.done f),code,pos,fr::stack⟩ with
      | .go s' t'=>Bx p w kt tw k hs c cs ag es ⟨T,m,n,i,s'.gens,s'.drawn,t,ti,s'.os⟩ t'
      | .halt _ _=>.bad 5 0
   | .raise e=>match stack with
    | []=>.raised es e ⟨T,m,n,i,gens,drawn,t,ti,os⟩ code pos []
    | fr::stack=>match Ds p w ⟨{},gens,drawn,t+ti,os⟩ ⟨.raise e,code,pos,fr::stack⟩ with
     | .go s' t'=>Bx p w kt tw k hs c cs ag es ⟨T,m,n,i,s'.gens,s'.drawn,t,ti,s'.os⟩ t'
     | .halt _ _=>.bad 5 0
   | cur=>match Ds p w ⟨{},gens,drawn,t+ti,os⟩ ⟨cur,code,pos,stack⟩ with
    | .go s' t'=>Bx p w kt tw k hs c cs ag es ⟨T,m,n,i,s'.gens,s'.drawn,t,ti,s'.os⟩ t'
    | .halt _ _=>.bad 5 0
def Ho(es:List (Nat×Nat)):Prop:=∀ q∈es,q.1=q.2
structure BS(x x':SX):Prop where
 fwd:∀ j a o,x.T.get j=some (a,o)→∃ o',x'.T.get j=some (a,o')
 bwd:∀ j a o,x'.T.get j=some (a,o)→(∃ o',x.T.get j=some (a,o'))∨x.n+x.i≤a
 up:x.n+x.i≤x'.n+x'.i
theorem BS.same{x x':SX}(h:x.T=x'.T)(k:x.n+x.i≤x'.n+x'.i):BS x x':=⟨fun q q o e=>⟨o,h ▸ e⟩,fun q q o e=>.inl ⟨o,h ▸ e⟩,k⟩
theorem BS.refl(x:SX):BS x x:=.same rfl (vp _)
theorem BS.trans{x y z:SX}(h:BS x y)(k:BS y z):BS x z:=⟨fun j a o e=>let ⟨_,e'⟩:=h.fwd j a o e; k.fwd j a _ e',fun j a o e=>(k.bwd j a o e).elim (fun ⟨o',e'⟩=>h.bwd j a o' e') (fun q=>.inr (vv h.up q)),vv h.up k.up⟩
def AH(x:SX)(s s':zr):Prop:=s'.heap.life=s.heap.life∧∀ b o,s.heap.get? b=some o→(∀ j o',x.T.get j≠some (b,o'))→s'.heap.get? b=some o
theorem AH.refl(x:SX)(s:zr):AH x s s:=⟨rfl,fun q q h q=>h⟩
theorem AH.trans{x:SX}{s s₁ s₂:zr}(h:AH x s s₁)(k:AH x s₁ s₂):AH x s s₂:=⟨k.1.trans h.1,fun b o e q=>k.2 b o (h.2 b o e q) q⟩
theorem AH.ext{x x':SX}{s s₁:zr}(h:AH x s s₁)(k:BS x x'):AH x' s s₁:=⟨h.1,fun b o e q=>h.2 b o e fun j o' z=>let ⟨sy,z'⟩:=k.fwd j b o' z; q j sy z'⟩
def Cj(p:zv)(w:zt)(kt:KT)(tl:ze)(x:SX):R→zr→Thread→Prop
 | .bad _ _,_,_=>True
 | .fin es f x' code pos pN,s,t=>Ho es→BS x x'∧∃ s',Go p w s t s' ⟨.pure f,code,pos,pN++tl⟩∧BR kt s' x'∧AH x' s s'
 | .raised es e x' code pos pN,s,t=>Ho es→BS x x'∧∃ s',Go p w s t s' ⟨.raise e,code,pos,pN++tl⟩∧BR kt s' x'∧AH x' s s'
 | .stop es cur x' code pos pN k,s,t=>Ho es→BS x x'∧∃ s',Go p w s t s' ⟨cur,code,pos,pN++tl⟩∧BR kt s' x'∧AH x' s s'∧
   ∀ r3 rE qV,BR kt qV rE→Cj p w kt tl rE (k r3 rE) qV ⟨r3,code,pos,pN++tl⟩
 | .call es c hd x' code pos pN k,s,t=>Ho es→BS x x'∧∃ s' g l kk,Go p w s t s' ⟨.call c hd g l kk,code,pos,pN++tl⟩∧BR kt s' x'∧AH x' s s'∧q9 pN=true∧
   ∀ res rE qV,BR kt qV rE→Cj p w kt tl rE (k res rE) qV ⟨kk res,code,pos,pN++tl⟩
noncomputable def R.es:R→List (Nat×Nat)
 | .bad _ _=>[]
 | .fin es ..=>es
 | .raised es ..=>es
 | .stop es ..=>es
 | .call es ..=>es
section
variable{p:zv}{w:zt}{kt:KT}{tl:ze}
theorem Cj.head{x x₁:SX}{r:R}{s s₁:zr}{t t₁:Thread}(hx:BS x x₁)(hs:(model p w).step s t=.go s₁ t₁)(hk:AH x₁ s s₁)(h:Cj p w kt tl x₁ r s₁ t₁):Cj p w kt tl x r s t:=by
 cases r with
 | bad=>trivial
 | fin es f x' code pos pN=>
  intro e
  obtain ⟨a,s',g,r,k⟩:=h e
  exact ⟨hx.trans a,s',.head hs g,r,(hk.ext a).trans k⟩
 | raised es f x' code pos pN=>
  intro e
  obtain ⟨a,s',g,r,k⟩:=h e
  exact ⟨hx.trans a,s',.head hs g,r,(hk.ext a).trans k⟩
 | stop es f x' code pos pN k=>
  intro e
  obtain ⟨a,s',g,r,k,c⟩:=h e
  exact ⟨hx.trans a,s',.head hs g,r,(hk.ext a).trans k,c⟩
 | call es c hd x' code pos pN k=>
  intro e
  obtain ⟨a,s',g,l,kk,go,r,kp,c⟩:=h e
  exact ⟨hx.trans a,s',g,l,kk,.head hs go,r,(hk.ext a).trans kp,c⟩
theorem Cj.eqs{x:SX}{r:R}{s:zr}{t:Thread}(h:Ho r.es→Cj p w kt tl x r s t):Cj p w kt tl x r s t:=by
 cases r with
 | bad=>trivial
 | fin es=>exact fun e=>h e e
 | raised es=>exact fun e=>h e e
 | stop es=>exact fun e=>h e e
 | call es=>exact fun e=>h e e
noncomputable def sT(n:Nat):Step→Prop
 | .go s _=>s.toks=n
 | .halt _ _=>True
theorem Iz{n:Nat}{c:Prop}[Decidable c]{x y:Step}(hx:sT n x)(hy:sT n y):sT n (if c then x else y):=by
 split<;>assumption
theorem RV{den:Code→Sem Fin}{s:zr}{t:Thread}(hn:∀ k,t.cur≠.fresh k):sT s.toks (step den p w s t):=by
 obtain ⟨heap,gens,drawn,toks,os⟩:=s
 obtain ⟨cur,code,pos,stack⟩:=t
 cases cur with
 | fresh k=>exact absurd rfl (hn k)
 | pure f=>cases f with
  | again c=>exact rfl
  | done f=>cases stack with
   | nil=>exact Iz trivial trivial
   | cons fr rest=>cases fr<;>exact rfl
 | raise e=>cases stack with
  | nil=>exact Iz trivial trivial
  | cons fr rest=>cases fr<;>exact rfl
 | finish e=>exact Iz trivial trivial
 | update=>exact Iz rfl trivial
 | choose=>exact Iz trivial rfl
 | load a=>delta step; dsimp only; cases heap.get? a<;>first | exact rfl | trivial
 | genState g=>delta step; dsimp only; cases gens[g]?<;>first | exact rfl | trivial
 | yield=>delta step; dsimp only; cases splitAtGen stack<;>first | exact rfl | trivial
 | resume g r=>delta step; dsimp only; cases gens[g]? with
  | none=>trivial
  | some st=>cases st with
   | fresh=>cases r with
    | send v=>cases v<;>exact rfl
    | throw=>exact rfl
   | _=>exact rfl
 | _=>first | exact rfl | trivial
theorem MR{den:Code→Sem Fin}{s s':zr}{t t':Thread}(h:step den p w s t=.go s' t')(hn:∀ k,t.cur≠.fresh k):s'.toks=s.toks:=by
 have k:=RV (p:=p) (w:=w) (den:=den) (s:=s) hn
 rw [h] at k
 exact k
end
end
theorem Fh{f:Frame}{l:ze}(h:qt (f::l)=true):cJ f=true∧qt l=true:=by
 have h:(match cJ f with | true=>qt l | false=>false)=true:=h
 cases q:cJ f with
 | true=>rw [q] at h; exact ⟨rfl,h⟩
 | false=>rw [q] at h; cases h
theorem Ny{a b:ze}(h:qt a=true)(k:qt b=true):qt (a++b)=true:=by
 induction a with
 | nil=>exact k
 | cons f a ih=>
  show (match cJ f with | true=>qt (a++b) | false=>false)=true
  rw [(Fh h).1]; exact ih (Fh h).2
theorem Nx{l:ze}(h:qt l=true):topHandled l=none∧topHandled.go true l=none∧topHandled (ownFrames l)=none:=by
 induction l with
 | nil=>exact ⟨rfl,rfl,rfl⟩
 | cons f l ih=>
  obtain ⟨h1,h2⟩:=Fh h
  obtain ⟨a,b,c⟩:=ih h2
  cases f with
  | gen=>exact ⟨a,a,rfl⟩
  | ret k hd g l' cd p kp=>
   cases hd with
   | some _=>cases h1
   | none=>
    refine ⟨a,b,?_⟩
    rw [show Frame.ret k none g l' cd p kp::l=[Frame.ret k none g l' cd p kp]++l from rfl,ownFrames_append_none rfl]
    exact c
noncomputable def RW(tl:ze):Step→Step
 | .go s t=>.go s ⟨t.cur,t.code,t.pos,t.stack++tl⟩
 | x=>x
noncomputable def a9:Step→Prop
 | .go ..=>True
 | _=>False
theorem Kg{stack tl:ze}(h:qt tl=true)(own:Bool):topHandled (if own then (match splitAtGen (stack++tl) with | some (fs,_,_)=>fs | none=>stack++tl) else stack++tl)=topHandled (if own then (match splitAtGen stack with | some (fs,_,_)=>fs | none=>stack) else stack):=by
 obtain ⟨a,b,c⟩:=Nx h
 cases own with
 | false=>
  have z:=topHandled_append stack []
  rw [w9] at z
  exact (topHandled_append stack tl).trans (by rw [a,b]; exact z.symm)
 | true=>
  have z:=topHandled_ownFrames_append stack []
  rw [w9] at z
  exact (topHandled_ownFrames_append stack tl).trans (by rw [c]; exact z.symm)
theorem Ht{c:Prop}[Decidable c]{a b:Outcome}{s:zr}{q:Prop}(h:a9 (if c then .halt a s else .halt b s)):q:=by
 split at h<;>exact h.elim
theorem L9{c:Prop}[Decidable c]{a b a' b':Step}{tl:ze}(h:a'=RW tl a)(k:b'=RW tl b):(if c then a' else b')=RW tl (if c then a else b):=by
 split<;>assumption
theorem MS{den:Code→Sem Fin}{p:zv}{w:zt}{s:zr}{cur:Sem Fin}{code:Code}{pos:Pos}{stack tl:ze}(h:qt tl=true)(hn:∀ k,cur≠.stack k)(ha:∀ c,cur≠.pure (.again c))(hg:a9 (step den p w s ⟨cur,code,pos,stack⟩)):step den p w s ⟨cur,code,pos,stack++tl⟩=RW tl (step den p w s ⟨cur,code,pos,stack⟩):=by
 obtain ⟨heap,gens,drawn,toks,os⟩:=s
 cases cur with
 | stack k=>exact absurd rfl (hn k)
 | pure f=>cases f with
  | again c=>exact absurd rfl (ha c)
  | done f=>cases stack with
   | nil=>exact Ht hg
   | cons fr rest=>cases fr<;>rfl
 | raise e=>cases stack with
  | nil=>exact Ht hg
  | cons fr rest=>cases fr<;>rfl
 | finish e=>exact Ht hg
 | handled own k=>exact vm (fun v=>Step.go ⟨heap,gens,drawn,toks,os⟩ ⟨k v,code,pos,stack++tl⟩) (Kg h own)
 | update a q f k=>exact L9 rfl rfl
 | choose src n k=>exact L9 rfl rfl
 | load a=>delta step; dsimp only; cases heap.get? a<;>rfl
 | genState g=>delta step; dsimp only; cases gens[g]?<;>rfl
 | yield v g0 l kk=>
  revert hg
  delta step; dsimp only
  cases q:splitAtGen stack with
  | none=>exact fun h=>h.elim
  | some x=>obtain ⟨fs,⟨_,_,_,_⟩,r⟩:=x; intro _; rw [splitAtGen_append_some tl q]; rfl
 | resume g r=>delta step; dsimp only; cases gens[g]? with
  | none=>rfl
  | some st=>cases st with
   | fresh c=>cases r with
    | send v=>cases v<;>rfl
    | throw=>rfl
   | suspended kk l c p fr=>show _=Step.go _ ⟨_,_,_,(fr++(_::stack))++tl⟩; rw [vj]; rfl
   | _=>rfl
 | _=>rfl
section
structure FN{α:Type}(C:Sem α→Sem Fin):Prop where
 load:∀ a p k,C (.load a p k)=.load a p (fun o=>C (k o))
 update:∀ a p f k,C (.update a p f k)=.update a p f (fun o=>C (k o))
 alloc:∀ o k,C (.alloc o k)=.alloc o (fun a=>C (k a))
 stack:∀ k,C (.stack k)=.stack (fun l=>C (k l))
def SR(cd:Code)(ps:Pos)(st:ze){α:Type}(m:Sem α)(s:zr)(v:α)(s':zr):Prop:=∀ (p:zv) (w:zt) (C:Sem α→Sem Fin),FN C→Go p w s ⟨C m,cd,ps,st⟩ s' ⟨C (.pure v),cd,ps,st⟩
section
variable{cd:Code}{ps:Pos}{st:ze}{α β:Type}{s s₁ s':zr}{v:α}
theorem SR.pure{a:α}:SR cd ps st (.pure a) s a s:=fun q q q q=>.refl
theorem SR.load{a:Nat}{p}{k:Obj→Sem α}{o:Obj}(ho:s.heap.get? a=some o)(h:SR cd ps st (k o) s v s'):SR cd ps st (.load a p k) s v s':=fun p w C P=>by
 rw [P.load]
 refine .head ((EL rfl (by intros; intro e; cases e) (by intros; intro e; cases e)).trans ?_) (h p w C P)
 simp only [step,ho]
theorem SR.update{a:Nat}{p}{f:Obj→Obj}{k:Unit→Sem α}{o:Obj}(ho:s.heap.get? a=some o)(h:SR cd ps st (k ()) { s with heap:=s.heap.update a f } v s'):SR cd ps st (.update a p f k) s v s':=fun p w C P=>by
 rw [P.update]
 refine .head ((EL rfl (by intros; intro e; cases e) (by intros; intro e; cases e)).trans ?_) (h p w C P)
 obtain ⟨hp,g1,d1,t1,o1⟩:=s
 have sZ:hp.get? a=some o:=ho
 simp only [step,sZ,zE,zB]
theorem SR.alloc{o:Obj}{k:Nat→Sem α}(h:SR cd ps st (k s.heap.objs.size) { s with heap:=s.heap.push o } v s'):SR cd ps st (.alloc o k) s v s':=fun p w C P=>by
 rw [P.alloc]
 exact .head ((EL rfl (by intros; intro e; cases e) (by intros; intro e; cases e)).trans rfl) (h p w C P)
theorem SR.stack{k:List (Code×Pos)→Sem α}(h:SR cd ps st (k ((cd,ps)::st.map Frame.where_)) s v s'):SR cd ps st (.stack k) s v s':=fun p w C P=>by
 rw [P.stack]
 exact .head ((EL rfl (by intros; intro e; cases e) (by intros; intro e; cases e)).trans rfl) (h p w C P)
theorem SR.bind{m:Sem α}{f:α→Sem β}{a:α}{v:β}(h:SR cd ps st m s a s₁)(k:SR cd ps st (f a) s₁ v s'):SR cd ps st (m>>=f) s v s':=fun p w C P=>
 (h p w (fun m=>C (m>>=f)) ⟨fun a q k=>P.load a q _,fun a q g k=>P.update a q g _,fun o k=>P.alloc o _,fun k=>P.stack _⟩).trans (k p w C P)
theorem SR.go{p:zv}{w:zt}{m:Sem α}(h:SR cd ps st m s v s'){C:Sem α→Sem Fin}(P:FN C):Go p w s ⟨C m,cd,ps,st⟩ s' ⟨C (.pure v),cd,ps,st⟩:=h p w C P
end
theorem PL(b:Bool):(if b=true then 1 else 0)≤3:=by cases b<;>decide
theorem VA{id s:String}{x:Nat}{e:¬ id=s→Nat}(hx:x≤3)(he:∀ h,e h≤3):dite (id=s) (@Eq.ndrec_symm String s (fun q=>Nat) x id) e≤3:=by
 by_cases h:id=s
 ·subst h; rw [dif_pos rfl]; exact hx
 ·rw [dif_neg h]; exact he h
theorem lF{c:Code}(h:c.frames=if c.isFrame=true then 1 else 0):c.frames≤3:=h ▸ PL _
theorem He(c:Code):c.frames≤3:=by
 cases c with
 | builtin id a=>
  delta Code.frames Code.frames.match_1
  have h1:1≤3:=by decide
  exact VA (y7 2) fun q=>VA (vp 3) fun q=>VA h1 fun q=>VA h1 fun q=>VA h1 fun q=>VA h1 fun q=>VA h1 fun q=>VA h1 fun q=>VA h1 fun q=>PL _
 | _=>exact lF rfl
theorem NX:∀ {l:List Code},(l.map (·.frames)).sum≤3*l.length
 | []=>vp _
 | c::l=>by
  rw [vu,List.sum_cons,vr,Nat.mul_succ,yH]
  exact xq NX (He c)
def MN(kt:KT):Prop:=∀ (s:zr),(∀ a o,kt.get a=some o→s.heap.get? a=some o)→∀ cd ps st,SR cd ps st currentRecursionLimit s 1000 s
theorem Mv{kt:KT}(hL:MN kt){cd:Code}{ps:Pos}{st:ze}{s:zr}(ht:∀ a o,kt.get a=some o→s.heap.get? a=some o)(hn:st.length≤166):SR cd ps st enterFrame s () s:=by
 unfold enterFrame
 refine SR.bind (SR.stack .pure) ?_
 have key:∀ l:List Code,l.length≤167→SR cd ps st (do
   let frames:=(l.map (·.frames)).sum-0
   let limit ← currentRecursionLimit
   if nearTheLimitUnderAClaim l (frames+(l.filter fun | .builtin "type.__call__" ⟨.ref _::_,_⟩=>true | _=>false).length) limit then unsupported "recursion.limit:a-claim-comes-within-the-margin-of-the-limit"
   if frames≥limit then
    rule "recursion.limit"; raiseError "RecursionError" "maximum recursion depth exceeded"
   let creations:=(l.filter fun | .builtin "type.__call__" ⟨.ref _::_,_⟩=>true | _=>false).length
   if frames+creations≥limit then unsupported "recursion.limit:hangs-on-warm-call-sites":Sem Unit) s () s:=by
  intro l hl
  have h1:=@NX l
  have h2:=xy (fun | Code.builtin "type.__call__" ⟨.ref _::_,_⟩=>true | _=>false) l
  refine SR.bind (hL s ht cd ps st) ?_
  generalize (l.filter fun | .builtin "type.__call__" ⟨.ref _::_,_⟩=>true | _=>false).length=n at h2 ⊢
  generalize (l.map (·.frames)).sum=f at h1 ⊢
  have hf:f-0+n < 669:=zO (xq (vv h1 (xG 3 hl)) (vv h2 hl))
  have e1:nearTheLimitUnderAClaim l (f-0+n) 1000=false:=by
   unfold nearTheLimitUnderAClaim claimMargin
   rw [wg (Nat.not_le.mpr (xr (Nat.add_lt_add_right hf 300) (by decide:669+300≤1000))),Bool.false_and]
  simp only [e1,yI,yz,ge_iff_le,Nat.not_le.mpr (wb (xo _ n) (xr hf (by decide:669≤1000))),Nat.not_le.mpr (xr hf (by decide:669≤1000))]
  exact .pure
 exact key _ (by rw [vh,vr,vh]; omega)
theorem dj{α β:Type}(m:Sem α)(f:α→Sem β):bT m f=m>>=f:=by
 unfold bT
 rw [← PySem.W.Fast.te12456147031677567982]
theorem SW{fd:FuncData}{b:List Stmt}(h:Zd fd=some b):fd.body=.stmts b∧fd.scope.isGenerator=false∧fd.scope.isCoroutine=false:=by
 unfold Zd at h
 cases hb:fd.body with
 | expr=>rw [hb] at h; cases h
 | stmts l=>
  rw [hb] at h
  cases hg:fd.scope.isGenerator with
  | true=>rw [hg] at h; cases h
  | false=>
   cases hc:fd.scope.isCoroutine with
   | true=>rw [hg,hc] at h; cases h
   | false=>rw [hg,hc] at h; cases h; exact ⟨rfl,rfl,rfl⟩
theorem cb{c:zq}{q:Str}{F:zq→Sem zq}{K:Str→Sem Fin}:(match c with
  | .none=>pure q>>=K
  | c=>F c>>=fun v=>match v with
   | .str s _=>pure s>>=K
   | _=>pure q>>=K)=(match c with
  | .none=>Sem.pure q
  | c=>F c>>=fun v=>match v with
   | .str s _=>Sem.pure s
   | _=>Sem.pure q)>>=K:=by
 have k:∀ v:zq,(match v with
   | .str s _=>pure s>>=K
   | _=>pure q>>=K)=(match v with
   | .str s _=>Sem.pure s
   | _=>Sem.pure q)>>=K:=fun v=>by cases v<;>rfl
 cases c with
 | none=>rfl
 | _=>show _=(_>>=_)>>=_; rw [bind_assoc]; exact vm (bind _) (funext k)
theorem Kt{self:Nat}{fd:FuncData}{args:Args}{b:List Stmt}(h:Zd fd=some b):callFunction self fd args=lh self fd args>>=fun env=>enterFrame>>=fun q=>.pure (.again (.func b env)):=by
 obtain ⟨h1,h2,h3⟩:=SW h
 unfold callFunction lh
 simp only [dj,← PySem.W.Fast.te6609576154772507232,← PySem.W.Fast.te9782568553167038054,← PySem.W.Fast.te11113344188204177931,h1,h2,h3]
 simp only [bind_assoc]
 exact cb (F:=fun c=>field c 1)
end
section
noncomputable def R.isBad:R→Prop
 | .bad _ _=>True
 | _=>False
section
variable{p:zv}{w:zt}{kt:KT}{tl:ze}
noncomputable def ZX(tl:ze)(t:Thread):Thread:=⟨t.cur,t.code,t.pos,t.stack++tl⟩
def AI(p:zv)(w:zt)(kt:KT)(tl:ze)(es:List (Nat×Nat))(x:SX)(th:Thread)(r:R):Prop:=(∀ q∈es,r.isBad∨q∈r.es)∧∀ s,BR kt s x→Cj p w kt tl x r s (ZX tl th)
theorem AI.bad{es:List (Nat×Nat)}{x:SX}{th:Thread}{r:R}(h:r.isBad):AI p w kt tl es x th r:=⟨fun q q=>.inl h,fun q q=>by cases r<;>first | exact True.intro | cases h⟩
theorem AI.head{es:List (Nat×Nat)}{x x₁:SX}{th th₁:Thread}{r:R}(g:AI p w kt tl es x₁ th₁ r)(h:∀ s,BR kt s x→∃ s₁,(model p w).step s (ZX tl th)=.go s₁ (ZX tl th₁)∧BS x x₁∧AH x₁ s s₁∧BR kt s₁ x₁):AI p w kt tl es x th r:=
 ⟨g.1,fun s D=>let ⟨s₁,hs,hx,hk,D1⟩:=h s D; Cj.head hx hs hk (g.2 s₁ D1)⟩
theorem Cj.own{x:SX}{r:R}{s:zr}{t:Thread}{a aj:Nat}(hm:r.isBad∨(a,aj)∈r.es)(h:a=aj→Cj p w kt tl x r s t):Cj p w kt tl x r s t:=by
 refine Cj.eqs fun E=>?_
 rcases hm with bad | mem
 ·cases r<;>first | exact True.intro | cases bad
 ·exact h (E _ mem)
theorem AI.own{es:List (Nat×Nat)}{x x₁:SX}{th th₁:Thread}{r:R}{a aj:Nat}(g:AI p w kt tl ((a,aj)::es) x₁ th₁ r)(h:a=aj→∀ s,BR kt s x→∃ s₁,(model p w).step s (ZX tl th)=.go s₁ (ZX tl th₁)∧BS x x₁∧AH x₁ s s₁∧BR kt s₁ x₁):AI p w kt tl es x th r:=
 ⟨fun q m=>g.1 q (.tail _ m),fun s D=>Cj.own (g.1 (a,aj) (.head _)) fun ea=>let ⟨s₁,hs,hx,hk,D1⟩:=h ea s D; Cj.head hx hs hk (g.2 s₁ D1)⟩
noncomputable def xO{α:Type}(q:Option α)(b:R)(f:α→R):R:=match q with
 | some a=>f a
 | none=>b
noncomputable def xP(q:Option (Nat×Obj))(b:R)(f:Nat→Obj→R):R:=match q with
 | some (a,o)=>f a o
 | none=>b
noncomputable def xB(q:Bool)(b f:R):R:=match q with
 | true=>f
 | false=>b
noncomputable def xN(n:Nat)(z:R)(f:Nat→R):R:=match n with
 | 0=>z
 | j+1=>f j
noncomputable def xH(hs:zl)(b:R)(f:Nat→zl→R):R:=match hs with
 | []=>b
 | h::t=>f h t
noncomputable def xT(q:Step)(f:zr→Thread→R):R:=match q with
 | .go s t=>f s t
 | .halt _ _=>.bad 5 0
noncomputable def xF(q:PySem.Fin)(d:Flow→R)(a:Code→R):R:=match q with
 | .done f=>d f
 | .again c=>a c
noncomputable def xS(st:ze)(z:R)(f:Frame→ze→R):R:=match st with
 | []=>z
 | fr::st=>f fr st
noncomputable def gX(p:zv)(w:zt)(kt:KT)(tw:List (Code×Pos))(E:zl→Nat→zl→Nat→List (Nat×Nat)→SX→Thread→R)(hs:zl)(c:Nat)(cs:zl)(ag:Nat)(es:List (Nat×Nat))(T:TT)(m n i:Nat)(gens:zk)(drawn:Drawn)(t ti:Nat)(os:OsState)(cur:Sem PySem.Fin)(code:Code)(pos:Pos)(stack:ze):R:=match cur with
   | .load a pt kk=>xH hs (.bad 1 a) fun h hs=>xN h
     (xO (kt.get a) (.bad 2 a) fun o=>E hs c cs ag es ⟨T,m,n,i,gens,drawn,t,ti,os⟩ ⟨kk o,code,pos,stack⟩)
     fun j=>xP (T.get j) (.stop es (.load a pt kk) ⟨T,m,n,i,gens,drawn,t,ti,os⟩ code pos stack (fun r3 x'=>E hs c cs ag es x' ⟨r3,code,pos,stack⟩))
      fun aj o=>E hs c cs ag ((a,aj)::es) ⟨T,m,n,i,gens,drawn,t,ti,os⟩ ⟨kk o,code,pos,stack⟩
   | .loadIfAlive a kk=>xH hs (.bad 1 a) fun h hs=>xN h
     (xO (kt.get a) (.bad 2 a) fun o=>E hs c cs ag es ⟨T,m,n,i,gens,drawn,t,ti,os⟩ ⟨kk (some o),code,pos,stack⟩)
     fun j=>xP (T.get j) (.bad 3 a) fun aj o=>E hs c cs ag ((a,aj)::es) ⟨T,m,n,i,gens,drawn,t,ti,os⟩ ⟨kk (some o),code,pos,stack⟩
   | .update a _ f kk=>xH hs (.bad 1 a) fun h hs=>xN h (.bad 4 a) fun j=>xP (T.get j) (.bad 3 a) fun aj o=>xB (f o).isFreed
     (E hs c cs ag ((a,aj)::es) ⟨T.set j f,m,n,i,gens,drawn,t,ti,os⟩ ⟨kk (),code,pos,stack⟩) (.bad 6 a)
   | .alloc o kk=>xB o.isFreed (xB ((T.ins m (n+i) o).get m).isSome (.bad 7 m)
     (E hs c cs ag es ⟨T.ins m (n+i) o,m+1,n,i+1,gens,drawn,t,ti,os⟩ ⟨kk (n+i),code,pos,stack⟩)) (.bad 6 0)
   | .fresh kk=>E hs c cs ag es ⟨T,m,n,i,gens,drawn,t,ti+1,os⟩ ⟨kk (t+ti),code,pos,stack⟩
   | .stack kk=>E hs c cs ag es ⟨T,m,n,i,gens,drawn,t,ti,os⟩ ⟨kk ((code,pos)::(stack.map Frame.where_++tw)),code,pos,stack⟩
   | .call c' hd g l kk=>xN c (xB (q9 stack) (.bad 8 0) (.call es c' hd ⟨T,m,n,i,gens,drawn,t,ti,os⟩ code pos stack (fun res x'=>E hs (cs.headD 1000000) cs.tail ag es x' ⟨kk res,code,pos,stack⟩)))
     fun c=>CE p w kt (fun hs es x th=>E hs c cs ag es x th) hs es ⟨T,m,n,i,gens,drawn,t,ti,os⟩ c' pos (.ret kk hd g l code pos []::stack)
   | .pure f=>xS stack
     (xF f (fun f=>.fin es (.done f) ⟨T,m,n,i,gens,drawn,t,ti,os⟩ code pos [])
      fun c'=>xN ag (.fin es (.again c') ⟨T,m,n,i,gens,drawn,t,ti,os⟩ code pos []) fun ag=>CE p w kt (fun hs es x th=>E hs c cs ag es x th) hs es ⟨T,m,n,i,gens,drawn,t,ti,os⟩ c' pos [])
     fun fr stack=>xF f (fun f=>xT (Ds p w ⟨{},gens,drawn,t+ti,os⟩ ⟨.pure (.done f),code,pos,fr::stack⟩) fun s' t'=>E hs c cs ag es ⟨T,m,n,i,s'.gens,s'.drawn,t,ti,s'.os⟩ t')
      fun c'=>CE p w kt (fun hs es x th=>E hs c cs ag es x th) hs es ⟨T,m,n,i,gens,drawn,t,ti,os⟩ c' pos (fr::stack)
   | .raise e=>xS stack (.raised es e ⟨T,m,n,i,gens,drawn,t,ti,os⟩ code pos [])
     fun fr stack=>xT (Ds p w ⟨{},gens,drawn,t+ti,os⟩ ⟨.raise e,code,pos,fr::stack⟩) fun s' t'=>E hs c cs ag es ⟨T,m,n,i,s'.gens,s'.drawn,t,ti,s'.os⟩ t'
   | cur=>xT (Ds p w ⟨{},gens,drawn,t+ti,os⟩ ⟨cur,code,pos,stack⟩) fun s' t'=>E hs c cs ag es ⟨T,m,n,i,s'.gens,s'.drawn,t,ti,s'.os⟩ t'
theorem Mt{tw:List (Code×Pos)}(k:Nat)(hs:zl)(c:Nat)(cs:zl)(ag:Nat)(es:List (Nat×Nat))(T:TT)(m n i:Nat)(gens:zk)(drawn:Drawn)(t ti:Nat)(os:OsState)(cur:Sem PySem.Fin)(code:Code)(pos:Pos)(stack:ze):Bx p w kt tw (k+1) hs c cs ag es ⟨T,m,n,i,gens,drawn,t,ti,os⟩ ⟨cur,code,pos,stack⟩=xB (FJ ⟨cur,code,pos,stack⟩) (.bad 9 0) (gX p w kt tw (Bx p w kt tw k) hs c cs ag es T m n i gens drawn t ti os cur code pos stack):=by
 cases cur<;>kernel_rfl
noncomputable def plain:Sem Fin→Bool
 | .load .. | .update .. | .alloc .. | .loadIfAlive .. | .fresh _ | .pure (.again _) | .call .. | .stack _=>false
 | _=>true
theorem ML{cur:Sem Fin}{code:Code}{pos:Pos}{stack:ze}(h:FJ ⟨cur,code,pos,stack⟩=true)(k:∀ v g l kk,cur=.yield v g l kk→splitAtGen stack≠none):Thread.calm ⟨cur,code,pos,stack++tl⟩=true:=by
 rw [Aq] at h
 cases cur with
 | yield v g l kk=>
  cases q:splitAtGen stack with
  | none=>exact absurd q (k _ _ _ _ rfl)
  | some x=>
   obtain ⟨fs,b,r⟩:=x
   rw [← h]
   simp only [Thread.calm,Thread.atCollectorCode,Thread.atExit,Thread.yieldsInsideHandler,q,splitAtGen_append_some tl q]
 | _=>exact h
variable(hq:qt tl=true)
include hq
theorem Ge{k:Nat}{hs:zl}{c:Nat}{cs:zl}{ag:Nat}{es:List (Nat×Nat)}{T:TT}{m n i:Nat}{gens:zk}{drawn:Drawn}{t ti:Nat}{os:OsState}{cur:Sem Fin}{code:Code}{pos:Pos}{stack:ze}
  (ih:∀ hs c cs ag es x th,AI p w kt tl es x th (Bx p w kt (tl.map Frame.where_) k hs c cs ag es x th)) (hc:FJ ⟨cur,code,pos,stack⟩=true) (hp:plain cur=true) :
  AI p w kt tl es ⟨T,m,n,i,gens,drawn,t,ti,os⟩ ⟨cur,code,pos,stack⟩ (xT (Ds p w ⟨{},gens,drawn,t+ti,os⟩ ⟨cur,code,pos,stack⟩) fun s' t'=>Bx p w kt (tl.map Frame.where_) k hs c cs ag es ⟨T,m,n,i,s'.gens,s'.drawn,t,ti,s'.os⟩ t'):=by
 cases q:Ds p w ⟨{},gens,drawn,t+ti,os⟩ ⟨cur,code,pos,stack⟩ with
 | halt=>exact AI.bad True.intro
 | go s' t'=>
  rw [Nb] at q
  refine AI.head (ih _ _ _ _ _ _ _) fun s D=>?_
  obtain ⟨heap,g,d,tk,o⟩:=s
  obtain ⟨sz,ow,ap,lo,tp,off,eg,ed,et,eo⟩:=D
  dsimp only at sz ow ap lo tp off eg ed et eo
  subst eg ed et eo
  have no:∀ x,plain x=false→cur≠x:=fun x h e=>by rw [e,h] at hp; cases hp
  have z:=step_heap (H:=heap) (fun y y y=>no _ rfl) (fun y y y y=>no _ rfl) (fun y y=>no _ rfl) (fun y y=>no _ rfl) q
  have tk:=MR q fun y=>no _ rfl
  dsimp only at tk
  rw [tk] at z
  have z2:=MS hq (fun y=>no _ rfl) (fun y=>no _ rfl) (by rw [z]; exact True.intro)
  rw [z] at z2
  exact ⟨_,(EL (ML hc fun v g l kk e h=>by subst e; simp only [step,h] at z; cases z) (fun y=>no _ rfl) fun y y y y y=>no _ rfl).trans z2,.same rfl (vp _),⟨rfl,fun y y h y=>h⟩,⟨sz,ow,ap,lo,tp,off,rfl,rfl,rfl,rfl⟩⟩
omit hq
theorem Hx{s s':zr}{x y:SX}(D:BR kt s x)(sz:s'.heap.objs.size=y.n+y.i)(up:x.n+x.i≤y.n+y.i)(hm:x.m≤y.m)(own:∀ j a o,y.T.get j=some (a,o)→s'.heap.get? a=some o∧((∃ o0,x.T.get j=some (a,o0))∨(j=x.m∧x.m < y.m∧x.n+x.i≤a)))(fwd:∀ j a o,x.T.get j=some (a,o)→∃ o',y.T.get j=some (a,o'))(top:∀ a o,s.heap.get? a=some o→kt.get a=some o→s'.heap.get? a=some o)(e:s'.gens=y.gens∧s'.drawn=y.drawn∧s'.toks=y.t+y.ti∧s'.os=y.os):BR kt s' y∧BS x y:=by
 have old:∀ {j a o},x.T.get j=some (a,o)→a < x.n+x.i:=fun h=>D.size ▸ xm (D.own _ _ _ h)
 have org:=fun j a o h=>(own j a o h).2
 refine ⟨⟨sz,fun j a o h=>(own j a o h).1,fun j j' a o o' h h'=>?_,fun j p h=>?_,fun a o h=>top a o (D.top a o h) h,fun j a o h=>?_,e.1,e.2.1,e.2.2.1,e.2.2.2⟩,fwd,fun j a o h=>(org j a o h).imp id (·.2.2),up⟩
 ·rcases org _ _ _ h with ⟨_,h⟩ | ⟨e1,_,l⟩<;>rcases org _ _ _ h' with ⟨_,h'⟩ | ⟨e2,_,l'⟩
  ·exact D.apart _ _ _ _ _ h h'
  ·exact absurd (old h) (xK.mpr l')
  ·exact absurd (old h') (xK.mpr l)
  ·exact e1.trans e2.symm
 ·rcases org j p.1 p.2 h with ⟨_,h⟩ | ⟨e1,l,_⟩
  ·exact xr (D.low _ _ h) hm
  ·exact e1 ▸ l
 ·rcases org _ _ _ h with ⟨_,h⟩ | ⟨_,_,l⟩
  ·exact D.off _ _ _ h
  ·cases q:kt.get a with
   | none=>rfl
   | some z=>exact absurd (D.size ▸ xm (D.top _ _ q)) (xK.mpr l)
theorem CR{s:zr}{T:TT}{m n i:Nat}{gens:zk}{drawn:Drawn}{t ti:Nat}{os:OsState}(D:BR kt s ⟨T,m,n,i,gens,drawn,t,ti,os⟩){j a:Nat}{o:Obj}{f:Obj→Obj}(e:T.get j=some (a,o))(hf:(f o).isFreed=false) :
  BR kt { s with heap:=s.heap.update a f } ⟨T.set j f,m,n,i,gens,drawn,t,ti,os⟩∧AH ⟨T.set j f,m,n,i,gens,drawn,t,ti,os⟩ s { s with heap:=s.heap.update a f }∧BS ⟨T,m,n,i,gens,drawn,t,ti,os⟩ ⟨T.set j f,m,n,i,gens,drawn,t,ti,os⟩:=by
 have hs:Heap.SameBut a s.heap (s.heap.update a f):=xM ..
 have fwd:∀ j' a' o',T.get j'=some (a',o')→∃ sy,(T.set j f).get j'=some (a',sy):=fun j' a' o' h=>by
  rw [TT.get_set]
  by_cases q:j'=j
  ·rw [wD q,← q,h]; exact ⟨_,rfl⟩
  ·rw [w2 q]; exact ⟨o',h⟩
 have R:=Hx (s':={ s with heap:=s.heap.update a f }) (y:=⟨T.set j f,m,n,i,gens,drawn,t,ti,os⟩) D (hs.1.trans D.size) (vp _) (vp _) (fun j' a' o' h=>by
  rw [TT.get_set] at h
  by_cases q:j'=j
  ·rw [wD q,e] at h; cases h
   exact ⟨by first | exact xV f (D.own j a o e) hf | exact xV _ (D.own j a o e) hf,.inl ⟨o,q ▸ e⟩⟩
  ·rw [w2 q] at h
   exact ⟨(hs.2 a' fun z=>q (D.apart j' j a' o' o h (z ▸ e))).trans (D.own _ _ _ h),.inl ⟨_,h⟩⟩) fwd (fun a' o' h k=>(hs.2 a' fun z=>by have:=D.off j a o e; rw [← z,k] at this; cases this).trans h) ⟨D.gens,D.drawn,D.toks,D.os⟩
 exact ⟨R.1,⟨by cases s with | mk h=>cases h; rfl,fun b' o' h q=>(hs.2 b' fun z=>let ⟨_,g⟩:=fwd j a o e; q j _ (z ▸ g)).trans h⟩,R.2⟩
theorem Ej{s:zr}{T:TT}{m n i:Nat}{gens:zk}{drawn:Drawn}{t ti:Nat}{os:OsState}(D:BR kt s ⟨T,m,n,i,gens,drawn,t,ti,os⟩){o:Obj}(hf:o.isFreed=false)(hg:((T.ins m (n+i) o).get m).isSome=true) :
  BR kt { s with heap:=s.heap.push o } ⟨T.ins m (n+i) o,m+1,n,i+1,gens,drawn,t,ti,os⟩∧AH ⟨T.ins m (n+i) o,m+1,n,i+1,gens,drawn,t,ti,os⟩ s { s with heap:=s.heap.push o }∧BS ⟨T,m,n,i,gens,drawn,t,ti,os⟩ ⟨T.ins m (n+i) o,m+1,n,i+1,gens,drawn,t,ti,os⟩:=by
 have sz:s.heap.objs.size=n+i:=D.size
 have R:=Hx (s':={ s with heap:=s.heap.push o }) (y:=⟨T.ins m (n+i) o,m+1,n,i+1,gens,drawn,t,ti,os⟩) D ((zF _ _).trans (vm (· + 1) sz)) (y7 _) (y7 _) (fun j' a' o' h=>by
  rw [TT.get_ins _ o T m hg] at h
  by_cases q:j'=m
  ·rw [wD q] at h; cases h
   exact ⟨by rw [← sz]; exact xQ _ hf,.inr ⟨q,Nat.lt_succ_self _,vp _⟩⟩
  ·rw [w2 q] at h
   exact ⟨wc _ (D.own _ _ _ h),.inl ⟨_,h⟩⟩) (fun j' a' o' h=>⟨o',by rw [TT.get_ins _ o T m hg,w2 (zC (D.low _ _ h))]; exact h⟩) (fun a' o' h z=>wc _ h) ⟨D.gens,D.drawn,D.toks,D.os⟩
 exact ⟨R.1,⟨by cases s with | mk h=>cases h; rfl,fun b' o' h z=>wc _ h⟩,R.2⟩
variable{es:List (Nat×Nat)}{x:SX}{th:Thread}
theorem AI.xO{α:Type}{q:Option α}{d:R}{f:α→R}(h:q=none→AI p w kt tl es x th d)(k:∀ a,q=some a→AI p w kt tl es x th (f a)):AI p w kt tl es x th (xO q d f):=by
 cases q with
 | none=>exact h rfl
 | some a=>exact k a rfl
theorem AI.xP{q:Option (Nat×Obj)}{d:R}{f:Nat→Obj→R}(h:AI p w kt tl es x th d)(k:∀ a o,q=some (a,o)→AI p w kt tl es x th (f a o)):AI p w kt tl es x th (xP q d f):=by
 cases q with
 | none=>exact h
 | some a=>exact k a.1 a.2 rfl
theorem AI.xB{q:Bool}{d f:R}(h:q=false→AI p w kt tl es x th d)(k:q=true→AI p w kt tl es x th f):AI p w kt tl es x th (xB q d f):=by
 cases q with
 | false=>exact h rfl
 | true=>exact k rfl
theorem AI.xN{n:Nat}{z:R}{f:Nat→R}(h:AI p w kt tl es x th z)(k:∀ j,AI p w kt tl es x th (f j)):AI p w kt tl es x th (xN n z f):=by
 cases n with
 | zero=>exact h
 | succ j=>exact k j
theorem AI.xH{hs:zl}{a:Nat}{f:Nat→zl→R}(k:∀ h t,AI p w kt tl es x th (f h t)):AI p w kt tl es x th (xH hs (.bad 1 a) f):=by
 cases hs with
 | nil=>exact AI.bad True.intro
 | cons h t=>exact k h t
noncomputable def Vs:Sem Fin→Bool
 | .pure (.again _) | .call .. | .yield ..=>false
 | _=>true
theorem D6{s:zr}{cur:Sem Fin}{code:Code}{pos:Pos}{stack:ze}(hc:FJ ⟨cur,code,pos,stack⟩=true)(h:Vs cur=true):(model p w).step s ⟨cur,code,pos,stack++tl⟩=step (denote table) p w s ⟨cur,code,pos,stack++tl⟩:=
 EL (ML hc fun q q q q e=>by subst e; cases h) (fun q e=>by dsimp only at e; subst e; cases h) fun q q q q q e=>by dsimp only at e; subst e; cases h
theorem AI.s6(h:∀ s,BR kt s x→Cj p w kt tl x r s (ZX tl th))(k:r.es=es):AI p w kt tl es x th r:=⟨fun q hq=>.inr (k ▸ hq),h⟩
theorem Cj.go{s s₁:zr}{t t₁:Thread}{r:R}(g:Go p w s t s₁ t₁)(e:s₁=s)(h:Cj p w kt tl x r s t₁):Cj p w kt tl x r s t:=by
 subst e
 cases r with
 | bad=>trivial
 | fin=>intro e; obtain ⟨a,s',g',r⟩:=h e; exact ⟨a,s',g.trans g',r⟩
 | raised=>intro e; obtain ⟨a,s',g',r⟩:=h e; exact ⟨a,s',g.trans g',r⟩
 | stop=>intro e; obtain ⟨a,s',g',r⟩:=h e; exact ⟨a,s',g.trans g',r⟩
 | call=>intro e; obtain ⟨a,s',g1,l,kk,g',r⟩:=h e; exact ⟨a,s',g1,l,kk,g.trans g',r⟩
theorem CW{s:zr}{cur:Sem Fin}{code:Code}{pos:Pos}{stack:ze}(hc:Thread.calm ⟨cur,code,pos,stack⟩=true)(h:Vs cur=true):(model p w).step s ⟨cur,code,pos,stack⟩=step (denote table) p w s ⟨cur,code,pos,stack⟩:=
 EL hc (fun q e=>by dsimp only at e; subst e; cases h) fun q q q q q e=>by dsimp only at e; subst e; cases h
theorem Pn{code:Code}{pos:Pos}{stack:ze}{F:Env→Sem Fin}{K:zl→List (Nat×Nat)→SX→Env→R}(hK:∀ hs es x env,AI p w kt tl es x ⟨F env,code,pos,stack⟩ (K hs es x env)):∀ (k:Nat) (hs:zl) (es:List (Nat×Nat)) (x:SX) (cur:Sem Env),AI p w kt tl es x ⟨cur.bind F,code,pos,stack⟩ (JY p w kt k hs es x cur K):=by
 intro k
 induction k with
 | zero=>exact fun z z z z=>.bad True.intro
 | succ k ih=>
  rintro hs es ⟨T,m,n,i,gens,drawn,t,ti,os⟩ cur
  cases cur with
  | pure env=>exact hK _ _ _ _
  | rule tag kk=>exact AI.head (ih _ _ _ _) fun s D=>⟨s,(CW rfl rfl).trans rfl,BS.refl _,AH.refl _ _,D⟩
  | ask kk=>exact AI.head (ih _ _ _ _) fun s D=>⟨s,(CW rfl rfl).trans rfl,BS.refl _,AH.refl _ _,D⟩
  | point l kk=>exact AI.head (ih _ _ _ _) fun s D=>⟨s,(CW rfl rfl).trans rfl,BS.refl _,AH.refl _ _,D⟩
  | load a q kk=>
   rw [show JY p w kt (k+1) hs es ⟨T,m,n,i,gens,drawn,t,ti,os⟩ (.load a q kk) K=(xH hs (.bad 1 a) fun h hs=>xN h (xO (kt.get a) (.bad 2 a) fun o=>JY p w kt k hs es ⟨T,m,n,i,gens,drawn,t,ti,os⟩ (kk o) K) fun j=>xP (T.get j) (.bad 3 a) fun aj o=>JY p w kt k hs ((a,aj)::es) ⟨T,m,n,i,gens,drawn,t,ti,os⟩ (kk o) K) by kernel_rfl]
   refine AI.xH fun h hs=>?_
   exact .xN (.xO (fun z=>.bad True.intro) fun o e=>AI.head (ih _ _ _ _) fun s D=>⟨s,(CW rfl rfl).trans (by show step _ _ _ _ ⟨.load a q _,_,_,_⟩=_; simp only [step,D.top a o e]; rfl),BS.refl _,AH.refl _ _,D⟩)
    fun j=>.xP (.bad True.intro) fun z z e=>AI.own (ih _ _ _ _) fun ea s D=>⟨s,(CW rfl rfl).trans (by show step _ _ _ _ ⟨.load a q _,_,_,_⟩=_; simp only [step,ea,D.own _ _ _ e]; rfl),BS.refl _,AH.refl _ _,D⟩
  | update a q f kk=>
   rw [show JY p w kt (k+1) hs es ⟨T,m,n,i,gens,drawn,t,ti,os⟩ (.update a q f kk) K=(xH hs (.bad 1 a) fun h hs=>xN h (.bad 4 a) fun j=>xP (T.get j) (.bad 3 a) fun aj o=>xB (f o).isFreed (JY p w kt k hs ((a,aj)::es) ⟨T.set j f,m,n,i,gens,drawn,t,ti,os⟩ (kk ()) K) (.bad 6 a)) by kernel_rfl]
   refine AI.xH fun h hs=>?_
   exact .xN (.bad True.intro) fun j=>.xP (.bad True.intro) fun aj o e=>.xB (fun hf=>AI.own (ih _ _ _ _) fun ea s D=>by
    subst ea
    obtain ⟨D',K',X'⟩:=CR D e hf
    refine ⟨_,(CW rfl rfl).trans ?_,X',K',D'⟩
    show step _ _ _ _ ⟨.update a q f _,_,_,_⟩=_
    simp only [step,D.own _ _ _ e,zE,zB]; rfl) fun z=>.bad True.intro
  | alloc o kk=>
   rw [show JY p w kt (k+1) hs es ⟨T,m,n,i,gens,drawn,t,ti,os⟩ (.alloc o kk) K=(xB o.isFreed (xB ((T.ins m (n+i) o).get m).isSome (.bad 7 m) (JY p w kt k hs es ⟨T.ins m (n+i) o,m+1,n,i+1,gens,drawn,t,ti,os⟩ (kk (n+i)) K)) (.bad 6 0)) by kernel_rfl]
   refine AI.xB (fun hf=>?_) fun z=>.bad True.intro
   exact .xB (fun z=>.bad True.intro) fun hg=>AI.head (ih _ _ _ _) fun s D=>by
     obtain ⟨D',K',X'⟩:=Ej D hf hg
     have sz:s.heap.objs.size=n+i:=D.size
     exact ⟨_,(CW rfl rfl).trans (by show step _ _ _ _ ⟨.alloc o _,_,_,_⟩=_; simp only [step,sz]; rfl),X',K',D'⟩
  | fresh kk=>
   exact AI.head (ih _ _ _ _) fun s D=>by
    have tk:s.toks=t+ti:=D.toks
    exact ⟨{ s with toks:=s.toks+1 },(CW rfl rfl).trans (by cases s; dsimp only at tk; rw [← tk]; rfl),.same rfl (vp _),⟨rfl,fun z z h z=>h⟩,⟨D.size,D.own,D.apart,D.low,D.top,D.off,D.gens,D.drawn,vm (· + 1) tk,D.os⟩⟩
  | _=>exact .bad True.intro
theorem NP{c:Code}{a:Nat}{fd:FuncData}{args:Args}{b:List Stmt}(h:R5 kt c=some (a,fd,args,b)):∃ o,c=.call (.ref a) args∧kt.get a=some o∧o.data=.func fd∧Zd fd=some b:=by
 unfold R5 at h
 cases c with
 | call f ar=>
  cases f with
  | ref a'=>
   cases q:kt.get a' with
   | none=>simp only [q] at h; cases h
   | some o=>
    cases d:o.data with
    | func vH=>
     cases e:Zd vH with
     | none=>simp only [q,d,e] at h; cases h
     | some b'=>
      simp only [q,d,e,wu,xd] at h
      obtain ⟨rfl,rfl,rfl,rfl⟩:=h
      exact ⟨o,rfl,q,d,e⟩
    | _=>simp only [q,d] at h; cases h
  | _=>cases h
 | _=>cases h
variable(hL:MN kt)(hn:tl.length≤131)
include hL hn
theorem Cv{E:zl→List (Nat×Nat)→SX→Thread→R}(hE:∀ hs es x th,AI p w kt tl es x th (E hs es x th))(hs:zl)(es:List (Nat×Nat))(x:SX)(c:Code)(pos:Pos)(stack:ze):AI p w kt tl es x ⟨denote table c,c,pos,stack⟩ (CE p w kt E hs es x c pos stack):=by
 unfold CE
 cases q:R5 kt c with
 | none=>rw [Be]; exact hE _ _ _ _
 | some z=>
  obtain ⟨a,fd,args,b⟩:=z
  obtain ⟨o,rfl,ho,hd,hp⟩:=NP q
  cases ql:Nat.ble stack.length 35 with
  | false=>exact .bad True.intro
  | true=>
   have hl:=w8 ql
   refine AI.head (th₁:=⟨callFunction a fd args,.call (.ref a) args,pos,stack⟩) ?_ fun s D=>⟨s,(CW rfl rfl).trans (by show step _ _ _ _ ⟨.load a _ _,_,_,_⟩=_; have h:=D.top a o ho; obtain ⟨cl,dd,dt,sl⟩:=o; dsimp only at hd; subst hd; simp only [step,h]; rfl),BS.refl _,AH.refl _ _,D⟩
   rw [Kt hp]
   refine Pn (fun hs es x env=>⟨(hE _ _ _ _).1,fun s D=>?_⟩) _ _ _ _ _
   have R:=Mv (cd:=.call (.ref a) args) (ps:=pos) (st:=stack++tl) (s:=s) hL D.top (by rw [vn]; omega)
   have G:=R.go (p:=p) (w:=w) (C:=fun m=>m.bind fun y=>.pure (.again (.func b env))) ⟨fun y y y=>rfl,fun y y y y=>rfl,fun y y=>rfl,fun y=>rfl⟩
   refine Cj.go (G.trans (.one (Bj rfl))) rfl ?_
   rw [Be]
   exact (hE _ _ _ _).2 s D
include hq
theorem Hh:∀ (k:Nat) (hs:zl) (c:Nat) (cs:zl) (ag:Nat) (es:List (Nat×Nat)) (x:SX) (th:Thread),AI p w kt tl es x th (Bx p w kt (tl.map Frame.where_) k hs c cs ag es x th):=by
 intro k
 induction k with
 | zero=>exact fun z z z z z z z=>AI.bad True.intro
 | succ k ih=>
  rintro hs c cs ag es ⟨T,m,n,i,gens,drawn,t,ti,os⟩ ⟨cur,code,pos,stack⟩
  rw [Mt]
  refine AI.xB (fun z=>AI.bad True.intro) fun hc=>?_
  cases cur with
  | load a q kk=>
   refine AI.xH fun h hs=>?_
   exact .xN (.xO (fun z=>.bad True.intro) fun o e=>AI.head (ih _ _ _ _ _ _ _) fun s D=>⟨s,(D6 hc rfl).trans (by simp only [step,D.top a o e]; rfl),BS.refl _,AH.refl _ _,D⟩)
    fun j=>.xP (.s6 (fun s D E=>⟨BS.refl _,s,.refl,D,AH.refl _ _,fun r3 rE qV uN=>(ih _ _ _ _ _ _ _).2 _ uN⟩) rfl)
     fun z z e=>AI.own (ih _ _ _ _ _ _ _) fun ea s D=>⟨s,(D6 hc rfl).trans (by simp only [step,ea,D.own _ _ _ e]; rfl),BS.refl _,AH.refl _ _,D⟩
  | loadIfAlive a kk=>
   refine AI.xH fun h hs=>?_
   exact .xN (.xO (fun z=>.bad True.intro) fun o e=>AI.head (ih _ _ _ _ _ _ _) fun s D=>⟨s,(D6 hc rfl).trans (by simp only [step,D.top a o e]; rfl),BS.refl _,AH.refl _ _,D⟩)
    fun j=>.xP (.bad True.intro) fun z z e=>AI.own (ih _ _ _ _ _ _ _) fun ea s D=>⟨s,(D6 hc rfl).trans (by simp only [step,ea,D.own _ _ _ e]; rfl),BS.refl _,AH.refl _ _,D⟩
  | update a q f kk=>
   refine AI.xH fun h hs=>?_
   exact .xN (.bad True.intro) fun j=>.xP (.bad True.intro) fun aj o e=>.xB (fun hf=>AI.own (ih _ _ _ _ _ _ _) fun ea s D=>by
    subst ea
    obtain ⟨D',K',X'⟩:=CR D e hf
    refine ⟨_,(D6 hc rfl).trans ?_,X',K',D'⟩
    simp only [step,D.own _ _ _ e,zE,zB]; rfl) fun z=>.bad True.intro
  | alloc o kk=>
   refine AI.xB (fun hf=>?_) fun z=>?_
   ·exact .xB (fun z=>.bad True.intro) fun hg=>AI.head (ih _ _ _ _ _ _ _) fun s D=>by
     obtain ⟨D',K',X'⟩:=Ej D hf hg
     have sz:s.heap.objs.size=n+i:=D.size
     exact ⟨_,(D6 hc rfl).trans (by simp only [step,sz]; rfl),X',K',D'⟩
   ·exact .bad True.intro
  | fresh kk=>
   exact AI.head (ih _ _ _ _ _ _ _) fun s D=>by
    have tk:s.toks=t+ti:=D.toks
    exact ⟨{ s with toks:=s.toks+1 },(D6 hc rfl).trans (by cases s; dsimp only at tk; rw [← tk]; rfl),.same rfl (vp _),⟨rfl,fun z z h z=>h⟩,⟨D.size,D.own,D.apart,D.low,D.top,D.off,D.gens,D.drawn,vm (· + 1) tk,D.os⟩⟩
  | stack kk=>exact AI.head (ih _ _ _ _ _ _ _) fun s D=>⟨s,(D6 hc rfl).trans (by rw [← vl]; rfl),BS.refl _,AH.refl _ _,D⟩
  | call c' hd g l kk=>
   refine AI.xN ?_ fun z=>?_
   ·exact .xB (fun z=>.bad True.intro) fun qs=>.s6 (fun s D E=>⟨BS.refl _,s,g,l,kk,.refl,D,AH.refl _ _,qs,fun res rE qV uN=>(ih _ _ _ _ _ _ _).2 _ uN⟩) rfl
   ·exact AI.head (Cv hL hn (fun hs es x th=>ih _ _ _ _ _ _ _) _ _ _ _ _ _) fun s D=>⟨s,CV,BS.refl _,AH.refl _ _,D⟩
  | pure f=>
   cases f with
   | again c'=>
    have g:∀ ag,AI p w kt tl es ⟨T,m,n,i,gens,drawn,t,ti,os⟩ ⟨.pure (.again c'),code,pos,stack⟩ (CE p w kt (fun hs es x th=>Bx p w kt (tl.map Frame.where_) k hs c cs ag es x th) hs es ⟨T,m,n,i,gens,drawn,t,ti,os⟩ c' pos stack):=fun ag=>AI.head (Cv hL hn (fun hs es x th=>ih _ _ _ _ _ _ _) _ _ _ _ _ _) fun s D=>⟨s,Bj (by rw [Aq] at hc; exact hc),BS.refl _,AH.refl _ _,D⟩
    cases stack with
    | cons fr st=>exact g ag
    | nil=>
     refine AI.xN ?_ fun ag=>?_
     ·exact .s6 (fun s D E=>⟨BS.refl _,s,.refl,D,AH.refl _ _⟩) rfl
     ·exact g ag
   | done f=>cases stack with
    | cons fr st=>exact Ge (hs:=hs) (c:=c) (cs:=cs) (ag:=ag) hq ih hc rfl
    | nil=>exact .s6 (fun s D E=>⟨BS.refl _,s,.refl,D,AH.refl _ _⟩) rfl
  | raise e=>cases stack with
   | cons fr st=>exact Ge (hs:=hs) (c:=c) (cs:=cs) (ag:=ag) hq ih hc rfl
   | nil=>exact .s6 (fun s D E=>⟨BS.refl _,s,.refl,D,AH.refl _ _⟩) rfl
  | _=>exact Ge (hs:=hs) (c:=c) (cs:=cs) (ag:=ag) hq ih hc rfl
end
@[irreducible] noncomputable def run (p:zv) (w:zt) (kt:KT) (tw:List (Code×Pos)) (k:Nat) (hs:zl) (c:Nat) (cs:zl) (ag:Nat) (x:SX) (C:Code) (pos:Pos):R:=match Nat.ble 1000 ag with
 | true=>Bx p w kt tw k hs c cs ag [] x ⟨qg C,C,pos,[]⟩
 | false=>CE p w kt (fun hs es x th=>Bx p w kt tw k hs c cs ag es x th) hs [] x C pos []
theorem HG{p:zv}{w:zt}{kt:KT}{tl:ze}(hq:qt tl=true)(hL:MN kt)(hn:tl.length≤131){k:Nat}{hs:zl}{c:Nat}{cs:zl}{ag:Nat}{x:SX}{C:Code}{pos:Pos}{s:zr}(D:BR kt s x):Cj p w kt tl x (run p w kt (tl.map Frame.where_) k hs c cs ag x C pos) s ⟨denote table C,C,pos,tl⟩:=by
 unfold run
 cases Nat.ble 1000 ag with
 | false=>exact (Cv hL hn (fun hs es x th=>Hh hq hL hn k hs c cs ag es x th) hs [] x C pos []).2 s D
 | true=>
  have z:=(Hh (p:=p) (w:=w) hq hL hn k hs c cs ag [] x ⟨qg C,C,pos,[]⟩).2 s D
  rw [Be]
  exact z
end
noncomputable abbrev pw:zv:=PySem.Challenge.pw_om0190_02
def Jm(i:Nat):Stmt:=pw.main.body.getD i (.Pass default)
def HY(i j:Nat):Stmt:=match Jm i with
 | .ClassDef _ _ _ b _ _ _ _ _ _ _=>b.getD j (.Pass default)
 | _=>.Pass default
noncomputable def vs(s:String)(t:Nat):zq:=.str (Str.ofString s) t
noncomputable def de(P:zp)(k:String)(t:Nat)(v:zq):DictEntry:=⟨PyData.keyHash P (Str.ofString k),.str (Str.ofString k) t,v⟩
noncomputable def fd(st:Stmt)(qual:String)(dflt mod code:zq):FuncData:=match st with
 | .FunctionDef name params body _ _ _ scope _ _ _=>{ name:=name,qualname:=Str.ofString qual,params:=params,body:=.stmts body,scope:=scope,globals:=3,closure:=[],defaults:=dflt,kwdefaults:=.none,pyModule:=mod,code:=code }
 | _=>{ name:=Str.empty,qualname:=Str.empty,params:=⟨[],[],none,[],[],none,[]⟩,body:=.stmts [],scope:=default,globals:=0,closure:=[],defaults:=.none,kwdefaults:=.none }
def co(n q:String)(t ln na fl a u:Nat):Obj:={ cls:=.type "code",data:=.fields #[vs n t,vs q (t+1),vs "/claim/cut.py" (t+2),.int ln 0,.int na 0,.int 0 0,.int 0 0,.int fl 0,.ref a,.bool true,.int 318 0,.ref (a+1),.none,.ref (a+2),.ref (a+3),.ref (a+4),.int u 0,.int ln 0,vs "/claim/cut.py" (u+1)] }
def fu(st:Stmt)(q m:String)(t c:Nat):Obj:={ cls:=.type "function",data:=.func (fd st q .none (vs m t) (.ref c)) }
def o0(P:zp):Obj:={ cls:=.type "dict",data:=.dict ⟨(List.zipIdx ([("__name__",vs "builtins" 160),("__doc__",.builtin "builtins.__doc__:str#opaque"),("__package__",.builtin "builtins.__package__:str#opaque"),("__loader__",.builtin "builtins.__loader__:shared#opaque"),("__spec__",.builtin "builtins.__spec__#opaque")]++(["__build_class__","__import__","abs","all","any","ascii","bin","breakpoint","callable","chr","compile","delattr","dir","divmod","eval","exec","format","getattr","globals","hasattr","hash","hex","id","input","isinstance","issubclass","iter","aiter","len","locals","max","min","next","anext","oct","ord","pow","print","repr","round","setattr","sorted","sum","vars"].map fun s=>(s,.builtin s))++[("None",.none),("Ellipsis",.ellipsis),("NotImplemented",.notImplemented),("False",.bool false),("True",.bool true)]++(["bool","memoryview","bytearray","bytes","classmethod","complex","dict","enumerate","filter","float","frozenset","property","int","list","map","object","range","reversed","set","slice","staticmethod","str","super","tuple","type","zip"].map fun s=>(s,.type s))++[("__debug__",.bool true)]++(["BaseException","BaseExceptionGroup","Exception","GeneratorExit","KeyboardInterrupt","SystemExit","ArithmeticError","AssertionError","AttributeError","BufferError","EOFError","ImportError","LookupError","MemoryError","NameError","OSError","ReferenceError","RuntimeError","StopAsyncIteration","StopIteration","SyntaxError","SystemError","TypeError","ValueError","Warning","FloatingPointError","OverflowError","ZeroDivisionError","BytesWarning","DeprecationWarning","EncodingWarning","FutureWarning","ImportWarning","PendingDeprecationWarning","ResourceWarning","RuntimeWarning","SyntaxWarning","UnicodeWarning","UserWarning","BlockingIOError","ChildProcessError","ConnectionError","FileExistsError","FileNotFoundError","InterruptedError","IsADirectoryError","NotADirectoryError","PermissionError","ProcessLookupError","TimeoutError","IndentationError","_IncompleteInputError","IndexError","KeyError","ModuleNotFoundError","NotImplementedError","PythonFinalizationError","RecursionError","UnboundLocalError","UnicodeError","BrokenPipeError","ConnectionAbortedError","ConnectionRefusedError","ConnectionResetError","TabError","UnicodeDecodeError","UnicodeEncodeError","UnicodeTranslateError","ExceptionGroup"].map fun s=>(s,.type s))++[("EnvironmentError",.type "OSError"),("IOError",.type "OSError"),("open",.builtin "open"),("quit",.builtin "builtins.quit#opaque"),("exit",.builtin "builtins.exit#opaque"),("copyright",.builtin "builtins.copyright#opaque"),("credits",.builtin "builtins.credits#opaque"),("license",.builtin "builtins.license#opaque"),("help",.builtin "builtins.help#opaque")]:List (String×zq)) 1).map fun q=>de P q.1.1 q.2 q.1.2⟩ 159 }
def o1(P:zp):Obj:={ cls:=.type "dict",data:=.dict #[de P "builtins" 162 (.ref 4),de P "__main__" 163 (.ref 5),de P "_sre" 244 (.ref 12),de P "_collections" 292 (.ref 30)] 4 }
def o2(P:zp):Obj:={ cls:=.none,data:=.dict #[de P "\x69mport.loaded._sre" 183 (.bool true),de P "class._frozen_importlib.BuiltinImporter" 185 (.ref 14),de P "watched.\x69mport" 206 (.ref 18),de P "class._frozen_importlib.ModuleSpec" 216 (.ref 22),de P "sys.modules.booked-epoch" 245 (.int 4 0),de P "\x69mport.later-laid._sre" 270 (.bool true),de P "watched.library" 272 (.ref 27),de P "watched.library-objects" 0 (.str ⟨#[12,30]⟩ 0),de P "watched.library-deep._sre" 273 (.str ⟨#[4,0,0,11,4,0,0,11,4,0,0,3,4,0,0,11,8,4,100,105,99,116,2]⟩ 0),de P "\x69mport.loaded._collections" 280 (.bool true),de P "sys.modules.landed._collections" 294 (.bool true),de P "\x69mport.later-laid._collections" 309 (.bool true),de P "watched.library-deep._collections" 311 (.str ⟨#[4,0,0,29,4,0,0,29,4,0,0,3,4,0,0,29,8,4,100,105,99,116,2]⟩ 0),de P "type.__subclasses__.Exception.0" 349 (.int 54 0),de P "type.__subclasses__.Exception.n" 350 (.int 1 0),de P "type.__subclasses__.OSError.0" 638 (.int 225 0),de P "type.__subclasses__.OSError.n" 639 (.int 1 0)] 17 }
def o3(P:zp):Obj:={ cls:=.type "dict",data:=.dict #[de P "__name__" 165 (vs "law_om0190_02" 1486),de P "__doc__" 166 .none,de P "__package__" 167 .none,de P "__loader__" 168 (.builtin "__main__.__loader__#opaque"),de P "__spec__" 169 .none,de P "__annotations__" 170 (.ref 6),de P "__builtins__" 171 (.ref 4),de P "__file__" 173 (vs "/claim/cut.py" 172),de P "__cached__" 174 .none,de P "_sre" 275 (.ref 12),de P "deque" 317 (.type "collections.deque"),de P "_wall" 330 (.ref 44),de P "Error" 352 (.ref 54),de P "error_reply" 368 (.ref 67),de P "parse257" 379 (.ref 76),de P "_NODE_OUT" 384 (.int (-1) 383),de P "_NODE_DONE" 387 (.int (-2) 386),de P "_NodeInfo" 424 (.ref 95),de P "CycleError" 442 (.ref 110),de P "TopologicalSorter" 561 (.ref 192),de P "_twin_re_1" 601 (.ref 201),de P "_whence" 611 (.ref 208),de P "_index" 619 (.ref 215),de P "UnsupportedOperation" 641 (.ref 225),de P "IOBase" 673 (.ref 245),de P "BufferedIOBase" 691 (.ref 260),de P "TextIOBase" 709 (.ref 272),de P "BytesIO" 971 (.ref 502),de P "StringIO" 1258 (.ref 749),de P "_kind" 1269 (.ref 758),de P "_fspath" 1278 (.ref 765),de P "_check_arg_types" 1288 (.ref 772),de P "isabs" 1295 (.ref 779),de P "join" 1306 (.ref 903),de P "join_path" 1307 (.ref 786),de P "dirname" 1317 (.ref 793),de P "shlex" 1458 (.ref 884),de P "split" 1468 (.ref 896),de P "join_shlex" 1476 (.ref 903),de P "_find_unsafe" 1478 (.ref 904),de P "quote" 1485 (.ref 911),de P "_law_turned" 1493 (.ref 916),de P "_law_plan" 1506 (.ref 923),de P "_law_written" 1515 (.ref 930),de P "_law_told" 1528 (.ref 937),de P "_law_sorter" 1538 (.ref 944),de P "_law_waiting" 1544 (.ref 949),de P "_law_runs" 1550 (.ref 954),de P "_law_shuffles" 1558 (.ref 961),de P "_law_reckoned" 1576 (.ref 968),de P "law" 1582 (.ref 973)] 51 }
noncomputable def o4(P:zp):Obj:={ cls:=.type "module",dict:=some 0,data:=.plain }
def p9(P:zp):Obj:=co "parse257" "parse257" 369 11 1 3 70 377
def jb(P:zp):Obj:=fu (Jm 6) "parse257" "cpy313.ftplib" 331 75
def p8(P:zp):Obj:=co "__init__" "_NodeInfo.__init__" 404 34 2 3 85 409
def p7(P:zp):Obj:=fu (HY 10 1) "_NodeInfo.__init__" "cpy313.graphlib" 380 90
def p6(P:zp):Obj:={ cls:=.type "dict",data:=.dict #[de P "__module__" 395 (vs "cpy313.graphlib" 380),de P "__firstlineno__" 399 (.int 31 398),de P "__slots__" 403 (.ref 84),de P "__init__" 411 (.ref 91),de P "__static_attributes__" 415 (.ref 92),de P "node" 417 (.ref 96),de P "npredecessors" 419 (.ref 97),de P "successors" 421 (.ref 98),de P "__doc__" 422 .none] 5 }
def p0(P:zp):Obj:={ cls:=.type "type",data:=.cls { name:=Str.ofString "_NodeInfo",bases:=[.type "object"],mro:=[.ref 95,.type "object"],ns:=94,qualname:=Str.ofString "_NodeInfo",hasDict:=false,slotNames:=[Str.ofString "node",Str.ofString "npredecessors",Str.ofString "successors"],subclasses:=[] },slots:=#[none,none,some (vs "_NodeInfo" 388),some (vs "_NodeInfo" 396),some (.builtin "object.__new__"),some (.bool false)] }
def oz(P:zp):Obj:={ cls:=.type "member_descriptor",data:=.fields #[vs "node" 416,.ref 95,.builtin "proto.slot",.builtin "proto.slot#set",.int 2 0] }
def ov(P:zp):Obj:={ cls:=.type "member_descriptor",data:=.fields #[vs "npredecessors" 418,.ref 95,.builtin "proto.slot",.builtin "proto.slot#set",.int 1 0] }
def ou(P:zp):Obj:={ cls:=.type "member_descriptor",data:=.fields #[vs "successors" 420,.ref 95,.builtin "proto.slot",.builtin "proto.slot#set",.int 0 0] }
noncomputable def kN(P:zp):Obj:={ cls:=.type "tuple",data:=.seq #[.none] 0 }
def kM(P:zp):Obj:=co "__init__" "TopologicalSorter.__init__" 455 42 2 3 122 462
def kL(P:zp):Obj:={ cls:=.type "function",data:=.func (fd (HY 12 0) "TopologicalSorter.__init__" (.ref 121) (vs "cpy313.graphlib" 380) (.ref 127)) }
def kK(P:zp):Obj:=co "_get_nodeinfo" "TopologicalSorter._get_nodeinfo" 465 51 2 3 129 471
def kJ(P:zp):Obj:=fu (HY 12 1) "TopologicalSorter._get_nodeinfo" "cpy313.graphlib" 380 134
def kH(P:zp):Obj:=co "add" "TopologicalSorter.add" 474 56 2 7 136 483
def kG(P:zp):Obj:=fu (HY 12 2) "TopologicalSorter.add" "cpy313.graphlib" 380 141
def kF(P:zp):Obj:={ cls:=.type "code",data:=.fields #[vs "prepare" 486,vs "TopologicalSorter.prepare" 487,vs "/claim/cut.py" 488,.int 65 0,.int 1 0,.int 0 0,.int 0 0,.int 3 0,.ref 143,.bool true,.int 318 0,.ref 144,.none,.none,.none,.ref 145,.int 489 0,.int 65 0,vs "/claim/cut.py" 490] }
def YL(P:zp):Obj:=fu (HY 12 3) "TopologicalSorter.prepare" "cpy313.graphlib" 380 146
def kD(P:zp):Obj:=co "get_ready" "TopologicalSorter.get_ready" 492 73 1 3 148 499
def kC(P:zp):Obj:=fu (HY 12 4) "TopologicalSorter.get_ready" "cpy313.graphlib" 380 153
def kB(P:zp):Obj:=co "done" "TopologicalSorter.done" 516 92 1 7 169 527
def YK(P:zp):Obj:=fu (HY 12 7) "TopologicalSorter.done" "cpy313.graphlib" 380 174
def kA(P:zp):Obj:=co "_find_cycle" "TopologicalSorter._find_cycle" 530 115 1 3 176 540
def YJ(P:zp):Obj:=fu (HY 12 8) "TopologicalSorter._find_cycle" "cpy313.graphlib" 380 181
def k9(P:zp):Obj:={ cls:=.type "dict",data:=.dict #[de P "__module__" 450 (vs "cpy313.graphlib" 380),de P "__firstlineno__" 454 (.int 40 453),de P "__init__" 464 (.ref 128),de P "_get_nodeinfo" 473 (.ref 135),de P "add" 485 (.ref 142),de P "prepare" 491 (.ref 147),de P "get_ready" 501 (.ref 154),de P "is_active" 508 (.ref 161),de P "__bool__" 515 (.ref 168),de P "done" 529 (.ref 175),de P "_find_cycle" 542 (.ref 182),de P "static_order" 549 (.ref 189),de P "__static_attributes__" 554 (.ref 190),de P "__dict__" 556 (.ref 193),de P "__weakref__" 558 (.ref 194),de P "__doc__" 559 .none] 4 }
def k8(P:zp):Obj:={ cls:=.type "type",data:=.cls { name:=Str.ofString "TopologicalSorter",bases:=[.type "object"],mro:=[.ref 192,.type "object"],ns:=191,qualname:=Str.ofString "TopologicalSorter",hasDict:=true,slotNames:=[],subclasses:=[] },slots:=#[none,none,some (vs "TopologicalSorter" 443),some (vs "TopologicalSorter" 451),some (.builtin "object.__new__"),some (.bool true)] }
noncomputable def k7(P:zp):Obj:={ cls:=.type "tuple",data:=.seq #[.int 14 0,.int 17 0,.int 4 0,.int 1 0,.int 1 0,.int 21 0,.int 9 0,.int 0 0,.int 604043296 0,.int 1 0,.int 0 0,.int 0 0,.int 0 0,.int 0 0,.int 0 0,.int 8 0,.int 4 0,.int 0 0,.int 13 0,.int 14 0,.int 21 0,.int 9 0,.int 0 0,.int 604043296 0,.int 1 0,.int 0 0,.int 0 0,.int 0 0,.int 0 0,.int 0 0,.int 8 0,.int 4 0,.int 0 0,.int 1 0] 0 }
def k5(P:zp):Obj:={ cls:=.type "re.Pattern",data:=.fields #[vs "[^\\w@%+=:,./-]" 563,.int 256 600,.int 0 0,.none,.none,.ref 200,.int 0 0] }
def k4(P:zp):Obj:=co "_index" "_index" 612 153 2 3 209 617
def jz(P:zp):Obj:=fu (Jm 16) "_index" "io" 602 214
def jy(P:zp):Obj:={ cls:=.type "code",data:=.fields #[vs "__new__" 656,vs "IOBase.__new__" 657,vs "/claim/cut.py" 658,.int 165 0,.int 1 0,.int 1 0,.int 0 0,.int 15 0,.ref 236,.bool true,.int 318 0,.ref 237,.none,.ref 238,.ref 239,.ref 240,.int 662 0,.int 165 0,vs "/claim/cut.py" 663] }
def jx(P:zp):Obj:=fu (HY 18 1) "IOBase.__new__" "io" 602 241
def jw(P:zp):Obj:={ cls:=.type "dict",data:=.dict #[de P "__module__" 649 (vs "io" 654),de P "__firstlineno__" 653 (.int 162 652),de P "__new__" 664 (.ref 246),de P "__static_attributes__" 665 (.ref 243),de P "__dict__" 668 (.ref 247),de P "__weakref__" 670 (.ref 248),de P "__doc__" 671 .none] 4 }
def jv(P:zp):Obj:={ cls:=.type "type",data:=.cls { name:=Str.ofString "IOBase",bases:=[.type "object"],mro:=[.ref 245,.type "object"],ns:=244,qualname:=Str.ofString "IOBase",hasDict:=true,slotNames:=[],subclasses:=[.ref 260,.ref 272] },slots:=#[none,none,some (vs "IOBase" 642),some (vs "IOBase" 650),some .none,some (.bool true)] }
noncomputable def ju(P:zp):Obj:={ cls:=.type "staticmethod",data:=.fields #[.ref 242] }
def jt(P:zp):Obj:={ cls:=.type "dict",data:=.dict #[de P "__module__" 699 (vs "io" 704),de P "__firstlineno__" 703 (.int 171 702),de P "__static_attributes__" 706 (.ref 270),de P "__doc__" 707 .none] 2 }
def js(P:zp):Obj:={ cls:=.type "type",data:=.cls { name:=Str.ofString "TextIOBase",bases:=[.ref 245],mro:=[.ref 272,.ref 245,.type "object"],ns:=271,qualname:=Str.ofString "TextIOBase",hasDict:=true,slotNames:=[],subclasses:=[.ref 749] },slots:=#[some (.ref 263),none,some (vs "TextIOBase" 692),some (vs "TextIOBase" 700),some .none,some (.bool true)] }
def jr(P:zp):Obj:={ cls:=.type "type",data:=.cls { name:=Str.ofString "BytesIO",bases:=[.ref 260],mro:=[.ref 502,.ref 260,.ref 245,.type "object"],ns:=501,qualname:=Str.ofString "BytesIO",hasDict:=true,slotNames:=[],subclasses:=[] },slots:=#[some (.ref 275),none,some (vs "BytesIO" 710),some (vs "BytesIO" 718),some .none,some (.bool true)] }
def jq(P:zp):Obj:={ cls:=.type "tuple",data:=.seq #[vs "" 986,vs "\n" 987] 0 }
def jo(P:zp):Obj:=co "__init__" "StringIO.__init__" 988 346 3 3 513 994
def jn(P:zp):Obj:={ cls:=.type "function",data:=.func (fd (HY 22 1) "StringIO.__init__" (.ref 512) (vs "io" 602) (.ref 518)) }
def jm(P:zp):Obj:=co "__translated" "StringIO.__translated" 997 359 2 3 520 1003
def jk(P:zp):Obj:=fu (HY 22 2) "StringIO.__translated" "io" 602 525
def jj(P:zp):Obj:=co "__check" "StringIO.__check" 1006 367 1 3 527 1010
def ji(P:zp):Obj:=fu (HY 22 3) "StringIO.__check" "io" 602 532
noncomputable def jh(P:zp):Obj:={ cls:=.type "tuple",data:=.seq #[.int (-1) 1179] 0 }
def jg(P:zp):Obj:={ cls:=.type "code",data:=.fields #[vs "read" 1180,vs "StringIO.read" 1181,vs "/claim/cut.py" 1182,.int 489 0,.int 2 0,.int 2 0,.int 0 0,.int 3 0,.ref 689,.bool true,.int 318 0,.ref 690,.none,.ref 691,.ref 692,.ref 693,.int 1187 0,.int 489 0,vs "/claim/cut.py" 1188] }
def jf(P:zp):Obj:={ cls:=.type "function",data:=.func (fd (HY 22 25) "StringIO.read" (.ref 688) (vs "io" 602) (.ref 694)) }
def jd(P:zp):Obj:={ cls:=.type "dict",data:=.dict #[de P "__module__" 979 (vs "_io" 984),de P "__firstlineno__" 983 (.int 343 982),de P "__init__" 996 (.ref 519),de P "_StringIO__translated" 1005 (.ref 526),de P "_StringIO__check" 1012 (.ref 533),de P "_StringIO__check_dot" 1019 (.ref 540),de P "_StringIO__line" 1034 (.ref 547),de P "closed" 1042 (.ref 555),de P "line_buffering" 1050 (.ref 563),de P "newlines" 1058 (.ref 571),de P "encoding" 1066 (.ref 579),de P "errors" 1074 (.ref 587),de P "close" 1081 (.ref 594),de P "__enter__" 1088 (.ref 601),de P "__exit__" 1096 (.ref 608),de P "readable" 1103 (.ref 615),de P "writable" 1110 (.ref 622),de P "seekable" 1117 (.ref 629),de P "isatty" 1124 (.ref 636),de P "flush" 1131 (.ref 643),de P "fileno" 1138 (.ref 650),de P "detach" 1145 (.ref 657),de P "getvalue" 1152 (.ref 664),de P "tell" 1159 (.ref 671),de P "seek" 1169 (.ref 679),de P "truncate" 1177 (.ref 687),de P "read" 1189 (.ref 695),de P "readline" 1199 (.ref 703),de P "readlines" 1209 (.ref 711),de P "__iter__" 1216 (.ref 718),de P "__next__" 1224 (.ref 725),de P "write" 1236 (.ref 732),de P "writelines" 1244 (.ref 739),de P "__repr__" 1251 (.ref 746),de P "__static_attributes__" 1255 (.ref 747),de P "__doc__" 1256 .none] 2 }
def jc(P:zp):Obj:={ cls:=.type "type",data:=.cls { name:=Str.ofString "StringIO",bases:=[.ref 272],mro:=[.ref 749,.ref 272,.ref 245,.type "object"],ns:=748,qualname:=Str.ofString "StringIO",hasDict:=true,slotNames:=[],subclasses:=[] },slots:=#[some (.ref 505),none,some (vs "StringIO" 972),some (vs "StringIO" 980),some .none,some (.bool true)] }
noncomputable def ja(P:zp):Obj:={ cls:=.type "tuple",data:=.seq #[.none,.none,.bool false,.bool false] 0 }
def jZ(P:zp):Obj:=co "__init__" "shlex.__init__" 1332 615 5 3 802 1341
def jY(P:zp):Obj:={ cls:=.type "function",data:=.func (fd (HY 32 0) "shlex.__init__" (.ref 801) (vs "cpy313.shlex" 1318) (.ref 807)) }
def jX(P:zp):Obj:=co "punctuation_chars" "shlex.punctuation_chars" 1344 656 1 3 809 1348
def jW(P:zp):Obj:=fu (HY 32 1) "shlex.punctuation_chars" "cpy313.shlex" 1318 814
def jV(P:zp):Obj:={ cls:=.type "property",data:=.fields #[.ref 815,.none,.none,.none,vs "punctuation_chars" 1351,.bool false] }
def jU(P:zp):Obj:=co "get_token" "shlex.get_token" 1376 683 1 3 839 1385
def jT(P:zp):Obj:=fu (HY 32 5) "shlex.get_token" "cpy313.shlex" 1318 844
def jS(P:zp):Obj:=co "read_token" "shlex.read_token" 1388 710 1 3 846 1396
def jR(P:zp):Obj:=fu (HY 32 6) "shlex.read_token" "cpy313.shlex" 1318 851
def jQ(P:zp):Obj:=co "__iter__" "shlex.__iter__" 1416 857 1 3 868 1420
def jP(P:zp):Obj:=fu (HY 32 9) "shlex.__iter__" "cpy313.shlex" 1318 873
def jO(P:zp):Obj:=co "__next__" "shlex.__next__" 1423 860 1 3 875 1428
def OZ(P:zp):Obj:=fu (HY 32 10) "shlex.__next__" "cpy313.shlex" 1318 880
def jN(P:zp):Obj:={ cls:=.type "dict",data:=.dict #[de P "__module__" 1327 (vs "cpy313.shlex" 1318),de P "__firstlineno__" 1331 (.int 613 1330),de P "__init__" 1343 (.ref 808),de P "punctuation_chars" 1351 (.ref 816),de P "push_token" 1359 (.ref 823),de P "push_source" 1368 (.ref 831),de P "pop_source" 1375 (.ref 838),de P "get_token" 1387 (.ref 845),de P "read_token" 1398 (.ref 852),de P "sourcehook" 1406 (.ref 859),de P "error_leader" 1415 (.ref 867),de P "__iter__" 1422 (.ref 874),de P "__next__" 1430 (.ref 881),de P "__static_attributes__" 1451 (.ref 882),de P "__dict__" 1453 (.ref 885),de P "__weakref__" 1455 (.ref 886),de P "__doc__" 1456 .none] 4 }
def jM(P:zp):Obj:={ cls:=.type "type",data:=.cls { name:=Str.ofString "shlex",bases:=[.type "object"],mro:=[.ref 884,.type "object"],ns:=883,qualname:=Str.ofString "shlex",hasDict:=true,slotNames:=[],subclasses:=[] },slots:=#[none,none,some (vs "shlex" 1320),some (vs "shlex" 1328),some (.builtin "object.__new__"),some (.bool true)] }
noncomputable def jL(P:zp):Obj:={ cls:=.type "tuple",data:=.seq #[.bool false,.bool true] 0 }
def jK(P:zp):Obj:=co "split" "split" 1459 865 3 3 890 1466
def KX(P:zp):Obj:={ cls:=.type "function",data:=.func (fd (Jm 33) "split" (.ref 889) (vs "cpy313.shlex" 1318) (.ref 895)) }
def cE(P:zp):Obj:=co "join" "join" 1469 873 1 3 897 1473
def jJ(P:zp):Obj:=fu (Jm 34) "join" "cpy313.shlex" 1318 902
noncomputable def jI(P:zp):Obj:={ cls:=.type "builtin_function_or_method",data:=.fields #[.builtin "re.Pattern.search",.ref 201] }
def jH(P:zp):Obj:=co "quote" "quote" 1479 877 1 3 905 1483
def jG(P:zp):Obj:=fu (Jm 37) "quote" "cpy313.shlex" 1318 910
def jF(P:zp):Obj:={ cls:=.type "code",data:=.fields #[vs "_law_turned" 1488,vs "_law_turned" 1489,vs "/claim/cut.py" 1490,.int 884 0,.int 1 0,.int 0 0,.int 0 0,.int 3 0,.ref 912,.bool true,.int 318 0,.ref 913,.none,.none,.none,.ref 914,.int 1491 0,.int 884 0,vs "/claim/cut.py" 1492] }
def cD(P:zp):Obj:=fu (Jm 39) "_law_turned" "law_om0190_02" 1486 915
def jE(P:zp):Obj:=co "_law_plan" "_law_plan" 1494 886 2 3 917 1504
def YI(P:zp):Obj:=fu (Jm 40) "_law_plan" "law_om0190_02" 1486 922
def jD(P:zp):Obj:=co "_law_written" "_law_written" 1507 897 1 3 924 1513
def cC(P:zp):Obj:=fu (Jm 41) "_law_written" "law_om0190_02" 1486 929
def jC(P:zp):Obj:=co "_law_told" "_law_told" 1516 905 2 3 931 1526
def Tn(P:zp):Obj:=fu (Jm 42) "_law_told" "law_om0190_02" 1486 936
def jB(P:zp):Obj:=co "_law_sorter" "_law_sorter" 1529 916 1 3 938 1536
def YH(P:zp):Obj:=fu (Jm 43) "_law_sorter" "law_om0190_02" 1486 943
def jA(P:zp):Obj:={ cls:=.type "code",data:=.fields #[vs "_law_waiting" 1539,vs "_law_waiting" 1540,vs "/claim/cut.py" 1541,.int 922 0,.int 2 0,.int 0 0,.int 0 0,.int 3 0,.ref 945,.bool true,.int 318 0,.ref 946,.none,.none,.none,.ref 947,.int 1542 0,.int 922 0,vs "/claim/cut.py" 1543] }
def Tj(P:zp):Obj:=fu (Jm 44) "_law_waiting" "law_om0190_02" 1486 948
def j9(P:zp):Obj:={ cls:=.type "code",data:=.fields #[vs "_law_runs" 1545,vs "_law_runs" 1546,vs "/claim/cut.py" 1547,.int 929 0,.int 1 0,.int 0 0,.int 0 0,.int 3 0,.ref 950,.bool true,.int 318 0,.ref 951,.none,.none,.none,.ref 952,.int 1548 0,.int 929 0,vs "/claim/cut.py" 1549] }
def Ti(P:zp):Obj:=fu (Jm 45) "_law_runs" "law_om0190_02" 1486 953
def j8(P:zp):Obj:=co "_law_shuffles" "_law_shuffles" 1551 954 2 3 955 1556
def j7(P:zp):Obj:=fu (Jm 46) "_law_shuffles" "law_om0190_02" 1486 960
def j6(P:zp):Obj:=co "_law_reckoned" "_law_reckoned" 1559 958 1 3 962 1574
def j5(P:zp):Obj:=fu (Jm 47) "_law_reckoned" "law_om0190_02" 1486 967
def j4(P:zp):Obj:={ cls:=.type "code",data:=.fields #[vs "law" 1577,vs "law" 1578,vs "/claim/cut.py" 1579,.int 967 0,.int 1 0,.int 0 0,.int 0 0,.int 3 0,.ref 969,.bool true,.int 318 0,.ref 970,.none,.none,.none,.ref 971,.int 1580 0,.int 967 0,vs "/claim/cut.py" 1581] }
def OY(P:zp):Obj:=fu (Jm 48) "law" "law_om0190_02" 1486 972
def W'(P:zp):List (Nat×Obj):=[(0,o0 P),(1,o1 P),(2,o2 P),(3,o3 P),(4,o4 P),(75,p9 P),(76,jb P),(90,p8 P),(91,p7 P),(94,p6 P),(95,p0 P),(96,oz P),(97,ov P),(98,ou P),(121,kN P),(127,kM P),(128,kL P),(134,kK P),(135,kJ P),(141,kH P),(142,kG P),(146,kF P),(147,YL P),(153,kD P),(154,kC P),(174,kB P),(175,YK P),(181,kA P),(182,YJ P),(191,k9 P),(192,k8 P),(200,k7 P),(201,k5 P),(214,k4 P),(215,jz P),(241,jy P),(242,jx P),(244,jw P),(245,jv P),(246,ju P),(271,jt P),(272,js P),(502,jr P),(512,jq P),(518,jo P),(519,jn P),(525,jm P),(526,jk P),(532,jj P),(533,ji P),(688,jh P),(694,jg P),(695,jf P),(748,jd P),(749,jc P),(801,ja P),(807,jZ P),(808,jY P),(814,jX P),(815,jW P),(816,jV P),(844,jU P),(845,jT P),(851,jS P),(852,jR P),(873,jQ P),(874,jP P),(880,jO P),(881,OZ P),(883,jN P),(884,jM P),(889,jL P),(895,jK P),(896,KX P),(902,cE P),(903,jJ P),(904,jI P),(910,jH P),(911,jG P),(915,jF P),(916,cD P),(922,jE P),(923,YI P),(929,jD P),(930,cC P),(936,jC P),(937,Tn P),(943,jB P),(944,YH P),(948,jA P),(949,Tj P),(953,j9 P),(954,Ti P),(960,j8 P),(961,j7 P),(967,j6 P),(968,j5 P),(972,j4 P),(973,OY P)]
def A5(P:zp):KT:=KT.of (W' P)
section
noncomputable def R.tag:R→Nat
 | .bad _ _=>0
 | .fin ..=>1
 | .raised ..=>2
 | .call ..=>3
 | .stop ..=>4
noncomputable def R.ry(r:R):zl:=r.es.map (·.1)
noncomputable def R.ru(r:R):zl:=r.es.map (·.2)
noncomputable def R.fin? : R→Option Fin
 | .fin _ f ..=>some f
 | _=>none
noncomputable def R.x:R→SX
 | .fin _ _ x ..=>x
 | .raised _ _ x ..=>x
 | .stop _ _ x ..=>x
 | .call _ _ _ x ..=>x
 | .bad _ _=>⟨.nil,0,0,0,#[],{},0,0,{}⟩
noncomputable def R.pN:R→ze
 | .fin _ _ _ _ _ s=>s
 | .raised _ _ _ _ _ s=>s
 | .stop _ _ _ _ _ s _=>s
 | .call _ _ _ _ _ _ s _=>s
 | .bad _ _=>[]
noncomputable def R.cd:R→Code
 | .fin _ _ _ c _ _=>c
 | .raised _ _ _ c _ _=>c
 | .stop _ _ _ c _ _ _=>c
 | .call _ _ _ _ c _ _ _=>c
 | .bad _ _=>.builtin "" {}
noncomputable def R.c:R→Code
 | .call _ c ..=>c
 | _=>.builtin "" {}
noncomputable def R.hd:R→Option zq
 | .call _ _ hd ..=>hd
 | _=>none
noncomputable def R.k:R→Result→SX→R
 | .call _ _ _ _ _ _ _ k=>k
 | _=>fun q q=>.bad 0 0
noncomputable def R.cur:R→Sem Fin
 | .stop _ c ..=>c
 | _=>.pure default
noncomputable def R.pos:R→Pos
 | .stop _ _ _ _ p _ _=>p
 | _=>default
noncomputable def R.kS:R→Sem Fin→SX→R
 | .stop _ _ _ _ _ _ k=>k
 | _=>fun q q=>.bad 0 0
noncomputable def R.err:R→zq
 | .raised _ e ..=>e
 | _=>.none
theorem DC:∀ {es:List (Nat×Nat)},es.map (·.1)=es.map (·.2)→Ho es
 | [],_=>fun y h=>nomatch h
 | q::es,h=>by
  rw [vu,vu,wh] at h
  intro z hz
  rcases wK.mp hz with rfl | m
  ·exact h.1
  ·exact DC h.2 z m
section
variable{p:zv}{w:zt}{kt:KT}{tl:ze}
inductive Vc (p:zv) (w:zt) (kt:KT) (tl:ze) (x:SX) (r:R) (s:zr) (t:Thread) (cur:Sem Fin):Prop
 | mk (ext:BS x r.x) (s':zr) (pos:Pos) (go:Go p w s t s' ⟨cur,r.cd,pos,r.pN++tl⟩) (rep:BR kt s' r.x) (keep:AH r.x s s'):Vc p w kt tl x r s t cur
inductive dw (p:zv) (w:zt) (kt:KT) (tl:ze) (x:SX) (r:R) (s:zr) (t:Thread):Prop
 | mk (ext:BS x r.x) (s':zr) (go:Go p w s t s' ⟨r.cur,r.cd,r.pos,r.pN++tl⟩) (rep:BR kt s' r.x) (keep:AH r.x s s') (k:∀ r3 rE qV,BR kt qV rE→Cj p w kt tl rE (r.kS r3 rE) qV ⟨r3,r.cd,r.pos,r.pN++tl⟩):dw p w kt tl x r s t
inductive dx (p:zv) (w:zt) (kt:KT) (tl:ze) (x:SX) (r:R) (s:zr) (t:Thread):Prop
 | mk (ext:BS x r.x) (s':zr) (pos:Pos) (g:Bool) (l:zf) (kk:Result→Sem Fin) (go:Go p w s t s' ⟨.call r.c r.hd g l kk,r.cd,pos,r.pN++tl⟩) (rep:BR kt s' r.x) (keep:AH r.x s s') (qs:q9 r.pN=true) (k:∀ res rE qV,BR kt qV rE→Cj p w kt tl rE (r.k res rE) qV ⟨kk res,r.cd,pos,r.pN++tl⟩):dx p w kt tl x r s t
theorem Cj.toFin{x:SX}{r:R}{s:zr}{t:Thread}{f:Fin}(h:Cj p w kt tl x r s t)(e1:r.ry=r.ru)(e2:r.fin?=some f):Vc p w kt tl x r s t (.pure f):=by
 cases r<;>try cases e2
 obtain ⟨a,s',g,r,k⟩:=h (DC e1)
 exact ⟨a,s',_,g,r,k⟩
theorem Cj.sQ{x:SX}{r:R}{s:zr}{t:Thread}(h:Cj p w kt tl x r s t)(e1:r.ry=r.ru)(e2:r.tag=2):Vc p w kt tl x r s t (.raise r.err):=by
 cases r<;>try cases e2
 obtain ⟨a,s',g,r,k⟩:=h (DC e1)
 exact ⟨a,s',_,g,r,k⟩
theorem Cj.sg{x:SX}{r:R}{s:zr}{t:Thread}(h:Cj p w kt tl x r s t)(e1:r.ry=r.ru)(e2:r.tag=4):dw p w kt tl x r s t:=by
 cases r<;>try cases e2
 obtain ⟨a,s',go,rp,kp,c⟩:=h (DC e1)
 exact ⟨a,s',go,rp,kp,c⟩
theorem Cj.sh{x:SX}{r:R}{s:zr}{t:Thread}(h:Cj p w kt tl x r s t)(e1:r.ry=r.ru)(e2:r.tag=3):dx p w kt tl x r s t:=by
 cases r<;>try cases e2
 obtain ⟨a,s',g,l,kk,go,rp,kp,qs,c⟩:=h (DC e1)
 exact ⟨a,s',_,g,l,kk,go,rp,kp,qs,c⟩
def N8(kt:KT)(s:zr):Prop:=∀ a o,kt.get a=some o→s.heap.get? a=some o
structure BX(s s':zr):Prop where
 life:s'.heap.life=s.heap.life
 old:∀ b o,s.heap.get? b=some o→s'.heap.get? b=some o
 gens:s'.gens=s.gens
 drawn:s'.drawn=s.drawn
 os:s'.os=s.os
theorem BX.refl(s:zr):BX s s:=⟨rfl,fun q q h=>h,rfl,rfl,rfl⟩
noncomputable def SX.grown(x:SX)(n t:Nat):SX:=⟨x.T,x.m,n,0,x.gens,x.drawn,t,0,x.os⟩
theorem BR.grown{s s':zr}{x:SX}(D:BR kt s x)(G:BX s s'):BR kt s' (x.grown s'.heap.objs.size s'.toks):=
 ⟨rfl,fun j a o h=>G.old _ _ (D.own j a o h),D.apart,D.low,fun a o h=>G.old _ _ (D.top a o h),D.off,G.gens.trans D.gens,G.drawn.trans D.drawn,rfl,G.os.trans D.os⟩
theorem B'{s:zr}{f:Flow}{cd qF:Code}{pos pc:Pos}{k:Result→Sem Fin}{hd:Option zq}{g:Bool}{l kp:zf}{rest:ze}:Go p w s ⟨.pure (.done f),qF,pos,.ret k hd g l cd pc kp::rest⟩ s ⟨k (.ok f),cd,pc,rest⟩:=
 .one (step_leaf_ret _ _ _ _ _ (.ok f) _ _ _ _ _ _ _)
theorem Ur{s:zr}{e:zq}{cd qF:Code}{pos pc:Pos}{k:Result→Sem Fin}{hd:Option zq}{g:Bool}{l kp:zf}{rest:ze}:Go p w s ⟨.raise e,qF,pos,.ret k hd g l cd pc kp::rest⟩ s ⟨k (.error e),cd,pc,rest⟩:=
 .one (step_leaf_ret _ _ _ _ _ (.error e) _ _ _ _ _ _ _)
theorem FC{s s':zr}{t t':Thread}(h:(model p w).step s t=.go s' t'):s.heap.objs.size≤s'.heap.objs.size∧s'.heap.life=s.heap.life:=by
 have hl:t.loud=false:=by
  cases q:t.loud with
  | false=>rfl
  | true=>rw [Model.step_loud _ q] at h; cases h
 rw [Model.step_quiet _ hl] at h
 have key:∀ {t:Thread},step (denote table) p w s t=.go s' t'→s.heap.objs.size≤s'.heap.objs.size∧s'.heap.life=s.heap.life:=by
  intro t h
  rw [PySem.step_heap (denote table) p w s s' t t' h]
  obtain ⟨cur,code,pos,stack⟩:=t
  cases cur with
  | alloc=>exact ⟨(zF _ _).symm ▸ y7 _,rfl⟩
  | update a _ f _=>exact ⟨wx ((xM ..).1.symm),rfl⟩
  | _=>exact ⟨vp _,rfl⟩
 obtain ⟨cur,code,pos,stack⟩:=t
 replace key:=key (t:=⟨cur,code,pos,stack⟩)
 cases cur with
 | pure f=>cases f with
  | again c=>cases h; exact ⟨vp _,rfl⟩
  | done f=>exact key h
 | call c hd g l k=>cases h; exact ⟨vp _,rfl⟩
 | _=>exact key h
theorem Go.size{s s':zr}{t t':Thread}(h:Go p w s t s' t'):s.heap.objs.size≤s'.heap.objs.size:=by
 exact Go.ind (P:=fun s q=>s.heap.objs.size≤s'.heap.objs.size) (vp _) (fun q q q q e ih=>vv ((FC e).1) ih) h
end
end
def wf(w:zt)(b1 b2:Bool):zt:=(w.withFollow "special-get-raises" b1).withFollow "comprehension-iter-twice" b2
def C6(S:Str)(r:Result):Prop:=∃ tk,r=.ok (.ret (.str S tk))
section
def Bm(p:zv)(w:zt)(c:Code)(R:Result→Prop):Prop:=
 ∀ (s:zr) (k:Result→Sem Fin) (g:Bool) (l:zf) (cd:Code) (pc:Pos) (rest:ze),
  ∃ s' res,R res∧BX s s'∧Go p w s ⟨denote table c,c,pc,.ret k none g l cd pc []::rest⟩ s' ⟨k res,cd,pc,rest⟩
section
variable{p:zv}{w:zt}
theorem CJ{id:String}{args:Args}{R:Result→Prop}{T:Sem Fin}(h1:qg (.call (.builtin id) args)=.pure (.again (.builtin id args)))(h2:qg (.builtin id args)=T)(hc:∀ c pos st,Thread.calm ⟨.pure (.again (.builtin id args)),c,pos,st⟩=true)
  (h:∀ (s:zr) (k:Result→Sem Fin) (g:Bool) (l:zf) (cd:Code) (pc:Pos) (rest:ze),∃ s' res,R res∧BX s s'∧Go p w s ⟨T,.builtin id args,pc,.ret k none g l cd pc []::rest⟩ s' ⟨k res,cd,pc,rest⟩) :
  Bm p w (.call (.builtin id) args) R:=by
 intro s k g l cd pc rest
 obtain ⟨s',res,hR,G,go⟩:=h s k g l cd pc rest
 refine ⟨s',res,hR,G,?_⟩
 rw [Be,h1]
 refine .head (Bj (hc _ _ _)) ?_
 rw [Be,h2]
 exact go
theorem Ff{v:zq}{R:Result→Prop}(hR:R (.ok (.ret v))){c:Code}(s:zr)(k:Result→Sem Fin)(g:Bool)(l:zf)(cd:Code)(pc:Pos)(rest:ze) :
  ∃ s' res,R res∧BX s s'∧Go p w s ⟨.pure (.done (.ret v)),c,pc,.ret k none g l cd pc []::rest⟩ s' ⟨k res,cd,pc,rest⟩:=⟨s,_,hR,.refl s,B'⟩
theorem HJ{v:Nat→zq}{R:Result→Prop}(hR:∀ t,R (.ok (.ret (v t)))){c:Code}(s:zr)(k:Result→Sem Fin)(g:Bool)(l:zf)(cd:Code)(pc:Pos)(rest:ze) :
  ∃ s' res,R res∧BX s s'∧Go p w s ⟨.fresh fun t=>.pure (.done (.ret (v t))),c,pc,.ret k none g l cd pc []::rest⟩ s' ⟨k res,cd,pc,rest⟩:=
 ⟨{ s with toks:=s.toks+1 },_,hR s.toks,⟨rfl,fun q q h=>h,rfl,rfl,rfl⟩,.head (step_fresh ..) B'⟩
theorem Nu{base:ze}{s:zr}{t:Sem Fin}{c:Code}{pos:Pos}{pre:ze}{s':zr}{e:End}(h:Reach (model p w) base s t c pos pre s' e) :
  ∃ t' c' pos' s9,Exits e t' c' pos' s9∧Go p w s ⟨t,c,pos,pre++base⟩ s' ⟨t',c',pos',s9++base⟩:=by
 induction h with
 | exit hx=>exact ⟨_,_,_,_,hx,.refl⟩
 | step hs _ ih=>
  obtain ⟨t',c',pos',s9,hx,go⟩:=ih
  exact ⟨t',c',pos',s9,hx,.head hs go⟩
noncomputable abbrev QD(cd:Code)(rest:ze):Around:={ handled:=(Ctx.of cd rest).handled,depth:=frameCount (Ctx.of cd rest).below+(Ctx.of cd rest).code.weight,frames:=none,guards:=none,units:=(Ctx.of cd rest).units }
theorem CQ{c:Code}{s:zr}{k:Result→Sem Fin}{g:Bool}{l:zf}{cd:Code}{pc:Pos}{rest:ze}{Q E:zq→zr→Prop}{R:Prop}(h:wpAny (model p w) (QD cd rest) (runValue c) Q E s)
  (hq:∀ v s' qF pos',Q v s'→Go p w s ⟨denote table c,c,pc,.ret k none g l cd pc []::rest⟩ s' ⟨.pure (.done (.ret v)),qF,pos',.ret k none g l cd pc []::rest⟩→R) (he:∀ v s' qF pos',E v s'→Go p w s ⟨denote table c,c,pc,.ret k none g l cd pc []::rest⟩ s' ⟨.raise v,qF,pos',.ret k none g l cd pc []::rest⟩→R):R:=by
 have z:=h (Ctx.of cd rest) pc ⟨rfl,vp _,(by intro l h; cases h),(by intro l h; cases h),vp _⟩
 have z':wpCode (model p w) ((Ctx.of cd rest).enter c none pc) (fun r s'=>match r with | .ok (.ret v)=>Q v s' | .ok _=>False | .error e=>E e s') pc s:=by
  have e:=Sem.wp_runValue (M:=model p w) (Γ:=Ctx.of cd rest) (E:=fun e q s'=>E e s') (p:=pc) (s:=s) c (fun a q s'=>Q a s')
  exact e ▸ z
 obtain ⟨r,s',ret,hr⟩:=z'
 obtain ⟨t',c',pos',s9,hx,go⟩:=Nu (runs_reach ret (.ret k none g l cd pc []::rest) ((Ctx.fits_of cd rest).enter _ k none g l pc []))
 obtain ⟨rfl,rfl⟩:=hx
 cases r with
 | error e=>exact he e s' _ _ hr go
 | ok fl=>cases fl with
  | ret v=>exact hq v s' _ _ hr go
  | _=>exact hr.elim
theorem GF{f:zq}{args:zf}{R:Result→Prop}
  (h:∀ (A:Around) (s:zr) (Q E:zq→zr→Prop),(∀ v s',R (.ok (.ret v))→BX s s'→Q v s')→wpAny (model p w) A (call f args) Q E s):Bm p w (.call f ⟨args,[]⟩) R:=by
 intro s k g l cd pc rest
 exact CQ (c:=.call f ⟨args,[]⟩) (h (QD cd rest) s (fun v s'=>R (.ok (.ret v))∧BX s s') (fun q q=>False) fun v s' a b=>⟨a,b⟩) (fun v s' q q hr go=>⟨s',_,hr.1,hr.2,go.trans B'⟩) (fun q q q q h=>h.elim)
def Az(b:Bool)(r:Result):Prop:=r=.ok (.ret (.bool b))
def Ef(i:Int)(r:Result):Prop:=∃ tk,r=.ok (.ret (.int i tk))
theorem Yj(a b:Int)(t u:Nat):Bm p w (.call (.builtin "int.__lt__") ⟨[.int a t,.int b u],[]⟩) (Az (decide (a < b))):=
 CJ (T:=.pure (.done (.ret (.bool (decide (a < b)))))) (by kernel_rfl) (by kernel_rfl) (fun q q q=>by rw [← Aq]; kernel_rfl) (Ff (R:=Az _) rfl)
theorem Yl(a b:Int)(t u:Nat):Bm p w (.call (.builtin "int.__ge__") ⟨[.int a t,.int b u],[]⟩) (Az (decide (a≥b))):=
 CJ (T:=.pure (.done (.ret (.bool (decide (a≥b)))))) (by kernel_rfl) (by kernel_rfl) (fun q q q=>by rw [← Aq]; kernel_rfl) (Ff (R:=Az _) rfl)
theorem FI{id:String}{b:Builtin}(h:fastTable id=some b)(args:Args):qg (.builtin id args)=b args:=by
 rw [← Be]
 show (match entryFor table id with | some b=>b args | none=>_)=_
 rw [entryFor_of_fast h]
theorem RU(x y:Nat)(a b:zl)(t u:Nat)(h:a.length+b.length+2≤sizeLine):Bm p w (.call (.builtin "str.__add__") ⟨[.str ⟨⟨x::a⟩⟩ t,.str ⟨⟨y::b⟩⟩ u],[]⟩) (C6 ⟨⟨x::a++y::b⟩⟩):=by
 refine CJ (T:=retStr (⟨⟨x::a⟩⟩++⟨⟨y::b⟩⟩)) (by kernel_rfl) ((FI (b:=Builtin.«str.__add__») (by kernel_rfl) _).trans (by kernel_rfl)) (fun q q q=>by rw [← Aq]; kernel_rfl) ?_
 have e:(⟨⟨x::a⟩⟩++⟨⟨y::b⟩⟩:Str)=⟨⟨x::a++y::b⟩⟩:=by
  show Str.mk (_++_)=_
  simp
 rw [e]
 have:¬ (⟨⟨x::a++y::b⟩⟩:Str).length > sizeLine:=by
  show ¬ (x::a++y::b).length > sizeLine
  simp only [vn,vr]
  lia
 unfold retStr mkStr
 rw [w2 this]
 exact HJ fun tk=>⟨tk,rfl⟩
theorem Oz(x:Str)(t:Nat)(h:x.length < 2 ^ 62):Bm p w (.call (.builtin "len") ⟨[.str x t],[]⟩) (Ef x.length):=
 GF fun A s Q E hq=>PySem.P.len_str (by lia) (hq _ _ ⟨_,rfl⟩ ⟨rfl,fun q q h=>h,rfl,rfl,rfl⟩)
end
end
section
def FL(p:zv)(w:zt)(Pre:zr→Prop)(c:Code)(R:Result→Prop):Prop:=
 ∀ (s:zr) (k:Result→Sem Fin) (g:Bool) (l:zf) (cd:Code) (pc:Pos) (rest:ze),Pre s→
  ∃ s' res,R res∧BX s s'∧Go p w s ⟨denote table c,c,pc,.ret k none g l cd pc []::rest⟩ s' ⟨k res,cd,pc,rest⟩
section
variable{p:zv}{w:zt}{kt:KT}
theorem Ek{Pre:zr→Prop}{c:Code}{R:Result→Prop}
  (h:∀ (A:Around) (s:zr),Pre s→∀ (Q E:zq→zr→Prop),(∀ v s',R (.ok (.ret v))→BX s s'→Q v s')→wpAny (model p w) A (runValue c) Q E s):FL p w Pre c R:=by
 intro s k g l cd pc rest rI
 exact CQ (h (QD cd rest) s rI (fun v s'=>R (.ok (.ret v))∧BX s s') (fun q q=>False) fun v s' a b=>⟨a,b⟩) (fun v s' q q hr go=>⟨s',_,hr.1,hr.2,go.trans B'⟩) (fun q q q q h=>h.elim)
theorem ED{Pre:zr→Prop}{f:zq}{args:zf}{R:Result→Prop}
  (h:∀ (A:Around) (s:zr),Pre s→∀ (Q E:zq→zr→Prop),(∀ v s',R (.ok (.ret v))→BX s s'→Q v s')→wpAny (model p w) A (call f args) Q E s):FL p w Pre (.call f ⟨args,[]⟩) R:=Ek h
theorem B7{s:zr}{n:Nat}:BX s { s with toks:=n }:=⟨rfl,fun q q h=>h,rfl,rfl,rfl⟩
theorem G3(x:Str)(t a i j:Nat)(lo hi:Option (Int×Tok))(h1:i≤j)(h2:j≤x.length)(h3:x.length≤sizeLine)(h4:j-i < x.length)(pk:slicePicked x lo hi none=Builtin.Str.strSliceIndices (some (i:Int)) (some (j:Int)) 1 x.length) :
  FL p w (fun s=>s.heap.IsSlice a lo hi none) (.call (.builtin "str.__getitem__") ⟨[.str x t,.ref a],[]⟩) (C6 ⟨⟨(x.cps.toList.drop i).take (j-i)⟩⟩):=by
 refine ED fun A s hs Q E hq=>?_
 refine yR (T:="str") PySem.F.slot_str_getitem (yi s x t) PySem.F.entry_str_getitem (PySem.F.args_str_getitem_2 _ _) (meets_str_getitem_slice x t a lo hi none rfl) ⟨hs,?_⟩
 have fm:=StrLaws.sliced_plain x h1 h2
 rw [← pk] at fm
 rw [StrLaws.strSliceIndices_plain h1 h2] at pk
 have ln:(slicePicked x lo hi none).length=j-i:=by rw [pk,vh,y8]
 unfold sliceMade
 rw [ln,fm,z8.mpr (zC h4),Bool.and_false]
 exact ⟨vv (z9 _ _) (vv (Nat.le_of_lt h4) h3),hq _ _ ⟨_,rfl⟩ B7⟩
theorem HD(x:Str)(t a:Nat)(i j:Nat)(ti tj:Nat)(h1:i≤j)(h2:j≤x.length)(h3:x.length≤sizeLine)(h4:j-i < x.length) :
  FL p w (fun s=>s.heap.IsSlice a (some ((i:Int),ti)) (some ((j:Int),tj)) none) (.call (.builtin "str.__getitem__") ⟨[.str x t,.ref a],[]⟩) (C6 ⟨⟨(x.cps.toList.drop i).take (j-i)⟩⟩):=
 G3 x t a i j _ _ h1 h2 h3 h4 rfl
end
end
noncomputable abbrev Vw:=Bool×Option Env×Option String×Bool
abbrev zc:=List Vw→Prop
def vw(c:Code):Vw:=(c.isFrame,c.env?,(match c with | .builtin id _=>some id | _=>none),match c with | .func ..=>true | _=>false)
def Ct(cd:Code)(st:ze):List Vw:=vw cd::st.map (fun f=>vw f.where_.1)
noncomputable def F4(cd:Code)(ps:Pos)(st:ze):List (Code×Pos):=(cd,ps)::st.map Frame.where_
theorem Gq(cd:Code)(ps:Pos)(st:ze):(F4 cd ps st).map (fun q=>vw q.1)=Ct cd st:=by
 simp [F4,Ct,wz,Function.comp_def]
def BD(V:List Vw):zi:=(V.filter (·.1)).filterMap (·.2.1)
theorem JV(rQ:List (Code×Pos)):(rQ.filter (·.1.isFrame)).filterMap (·.1.env?)=BD (rQ.map (fun q=>vw q.1)):=by
 unfold BD
 induction rQ with
 | nil=>rfl
 | cons q l ih=>
  simp only [vu]
  by_cases h:q.1.isFrame=true
  ·rw [List.filter_cons_of_pos (by exact h),List.filter_cons_of_pos (by exact h),List.filterMap_cons,List.filterMap_cons,ih]; rfl
  ·rw [List.filter_cons_of_neg (by exact h),List.filter_cons_of_neg (by exact h),ih]
def Bl(f:Nat)(V:List Vw):Option (List String):=match V.dropWhile fun v=>!(v.1&&v.2.1.bind (·.frame)==some f) with
 | []=>none
 | _::under=>some (under.filterMap (·.2.2.1)).eraseDups
theorem Dw{α β:Type}(g:α→β)(p:β→Bool):∀ l:List α,(l.map g).dropWhile p=(l.dropWhile (fun a=>p (g a))).map g
 | []=>rfl
 | a::l=>by
  rw [vu,List.dropWhile_cons,List.dropWhile_cons]
  split
  ·exact Dw g p l
  ·rfl
theorem N6(f:Nat)(rQ:List (Code×Pos)):EntryCells.beneath f rQ=Bl f (rQ.map (fun q=>vw q.1)):=by
 unfold EntryCells.beneath Bl
 rw [Dw (fun q:Code×Pos=>vw q.1)]
 have e:(fun a:Code×Pos=>!((vw a.1).1&&(vw a.1).2.1.bind (·.frame)==some f))=fun (c,_)=>!(c.isFrame&&c.env?.bind (·.frame)==some f):=rfl
 rw [e]
 cases rQ.dropWhile fun (c,_)=>!(c.isFrame&&c.env?.bind (·.frame)==some f) with
 | nil=>rfl
 | cons a l=>
  simp only [vu,List.filterMap_map,Function.comp_def]
  rfl
noncomputable def CG:zq→Bool
 | .type n=>n=="frame"
 | _=>false
structure Vh(h:Heap)(f:Nat)(e:Env):Prop where
 fr:e.frame=some f
 kind:e.scope.kind≠.module
 gen:(e.scope.isGenerator || e.scope.isCoroutine)=false
 get:∃ o,h.get? f=some o∧CG o.cls=true
structure Cp(F:zl)(h h':Heap):Prop where
 size:h'.objs.size=h.objs.size
 life:h'.life=h.life
 at_:∀ b o,h.get? b=some o→h'.get? b=some o∨(b∈F∧CG o.cls=true∧∃ z,h'.get? b=some { o with slots:=z })
theorem Cp.refl(F:zl)(h:Heap):Cp F h h:=⟨rfl,rfl,fun q q e=>.inl e⟩
theorem Cp.trans{F:zl}{h h₁ h₂:Heap}(a:Cp F h h₁)(b:Cp F h₁ h₂):Cp F h h₂:=by
 refine ⟨b.size.trans a.size,b.life.trans a.life,fun c o e=>?_⟩
 rcases a.at_ c o e with e1 | ⟨m,i,z,e1⟩
 ·exact b.at_ c o e1
 ·rcases b.at_ c _ e1 with e2 | ⟨_,_,z2,e2⟩
  ·exact .inr ⟨m,i,z,e2⟩
  ·exact .inr ⟨m,i,z2,e2⟩
theorem Cp.mono{F F':zl}{h h':Heap}(a:Cp F h h')(k:∀ f∈F,f∈F'):Cp F' h h':=⟨a.size,a.life,fun c o e=>(a.at_ c o e).imp id fun ⟨m,r⟩=>⟨k _ m,r⟩⟩
theorem Cp.fm{F:zl}{h h':Heap}(a:Cp F h h'){f:Nat}{e:Env}(k:Vh h f e):Vh h' f e:=by
 obtain ⟨o,g,i⟩:=k.get
 rcases a.at_ f o g with g' | ⟨_,_,z,g'⟩
 ·exact ⟨k.fr,k.kind,k.gen,o,g',i⟩
 ·exact ⟨k.fr,k.kind,k.gen,_,g',i⟩
theorem K4(o:Obj)(sl:Array (Option zq)):({ o with slots:=sl }:Obj).isFreed=o.isFreed:=by
 obtain ⟨c,d,dt,s⟩:=o; cases dt<;>rfl
theorem Cp.one{h:Heap}{f:Nat}{o:Obj}(g:h.get? f=some o)(i:CG o.cls=true)(z:Obj→Array (Option zq)):Cp [f] h (h.update f (fun o=>{ o with slots:=z o })):=by
 have S:Heap.SameBut f h (h.update f (fun o=>{ o with slots:=z o })):=xM ..
 refine ⟨S.1,by cases h; rfl,fun b o' e=>?_⟩
 by_cases q:b=f
 ·subst q
  cases g.symm.trans e
  exact .inr ⟨.head _,i,z o,xV _ g (by rw [K4]; exact (Heap.get?_some_iff.mp g).2)⟩
 ·exact .inl ((S.2 b q).trans e)
theorem Ks{cd:Code}{ps:Pos}{st:ze}(h:(Ct cd st).any (fun v=>v.2.2.1==some "claim.caller")=true)(s:zr):SR cd ps st underTheClaimsCaller s true s:=by
 unfold underTheClaimsCaller
 refine SR.bind (SR.stack .pure) ?_
 refine (?_:∀ b,b=true→SR cd ps st (pure b) s true s) _ ?_
 ·intro b hb; subst hb; exact .pure
 ·rw [← Gq cd ps st,List.any_map,yZ] at h
  obtain ⟨q,hq,e⟩:=h
  rw [yZ]
  refine ⟨q,hq,?_⟩
  obtain ⟨c,p⟩:=q
  simp only [Function.comp,vw] at e
  cases c with
  | builtin id a=>simp only [Option.some_beq_some,zG] at e; subst e; rfl
  | _=>simp at e
inductive ZQ (cd:Code) (ps:Pos) (st:ze) (E:zi) (F:zl) (s:zr):Prop
 | mk (h:Heap) (run:SR cd ps st (readyFrames E) s () { s with heap:=h }) (eq:Cp F s.heap h)
theorem HK{cd:Code}{ps:Pos}{st:ze}(hC:(Ct cd st).any (fun v=>v.2.2.1==some "claim.caller")=true){F:zl} :
  ∀ (E:zi) (s:zr),(∀ e∈E,∃ f∈F,Vh s.heap f e)→ZQ cd ps st E F s
 | [],s,_=>⟨s.heap,.pure,.refl _ _⟩
 | env::E,s,H=>by
  obtain ⟨f,hF,ok⟩:=H _ (.head _)
  obtain ⟨o,ho,hi⟩:=ok.get
  by_cases hr:(o.slots.getD 3 none).isSome=true
  ·refine ⟨s.heap,?_,.refl _ _⟩
   show SR cd ps st (readyFrames (env::E)) s () s
   simp only [readyFrames,ok.fr]
   refine SR.bind (SR.load ho .pure) ?_
   rw [wD hr]
   exact .pure
  ·have h1:behindIsImport env E=pure false:=by
    unfold behindIsImport
    rw [wD (by simp [ok.kind])]
   have h2:∃ v,SR cd ps st (keptBack env false E) s v s:=by
    have hg:=ok.gen
    cases E with
    | nil=>
     refine ⟨.notImplemented,?_⟩
     simp only [keptBack,hg,yI,↓reduceIte]
     refine SR.bind (a:=true) ?_ .pure
     exact Ks hC s
    | cons e2 l=>
     refine ⟨if (env.scope.isGenerator || env.scope.isCoroutine)=true then Value.none else if false=true then .notImplemented else e2.frame.elim .notImplemented Value.ref,?_⟩
     show SR cd ps st (pure (if (env.scope.isGenerator || env.scope.isCoroutine)=true then Value.none else if false=true then .notImplemented else e2.frame.elim .notImplemented Value.ref)) s _ s
     exact .pure
   obtain ⟨v,h2⟩:=h2
   have S1:=Cp.one ho hi (fun o=>#[some env.code,some (.ref env.globals),o.slots.getD 2 none,some v,o.slots.getD 4 none,env.func.map Value.ref,some (.ref env.builtins)]++(env.cells.map fun c=>some (.ref c.2)).toArray)
   have S1:=S1.mono (F':=F) fun q m=>by rw [xX.mp m]; exact hF
   obtain ⟨h',R,S2⟩:=HK hC E { s with heap:=s.heap.update f (fun o=>{ o with slots:=#[some env.code,some (.ref env.globals),o.slots.getD 2 none,some v,o.slots.getD 4 none,env.func.map Value.ref,some (.ref env.builtins)]++(env.cells.map fun c=>some (.ref c.2)).toArray }) } (fun e m=>let ⟨f',m',k⟩:=H e (.tail _ m); ⟨f',m',S1.fm k⟩)
   refine ⟨h',?_,S1.trans S2⟩
   simp only [readyFrames,ok.fr]
   refine SR.bind (SR.load ho .pure) ?_
   rw [w2 hr,h1]
   exact SR.bind .pure (SR.bind h2 (SR.bind (SR.update ho .pure) R))
noncomputable def Cu(head:zq)(f:Nat)(fl:zq)(ps:Pos)(ids:List String)(sG:Bool):Obj:=
 { cls:=.type "traceback",data:=.fields #[head,.ref f,.none,fl,.none,rawInt ps.line,rawInt ps.endLine,rawInt ps.col,rawInt ps.endCol,.str (EntryCells.make ids) 0,.bool sG] }
theorem Ms{cd:Code}{ps:Pos}{st:ze}{s:zr}{a i:Nat}{o:Obj}{vs:Array zq}{v:zq}(ho:s.heap.get? a=some o)(hd:o.data=.fields vs)(hv:vs[i]?=some v):SR cd ps st (field (.ref a) i) s v s:=by
 have h1:SR cd ps st (fieldsOf (.ref a)) s vs s:=by
  show SR cd ps st (load a>>=fun o=>match o.data with | .fields vs=>pure vs | _=>unsupported "internal:no-fields") s vs s
  refine SR.bind (SR.load ho .pure) ?_
  rw [hd]; exact .pure
 unfold field
 refine SR.bind h1 ?_
 rw [hv]; exact .pure
theorem Hv{cd:Code}{ps:Pos}{st:ze}{s:zr}{a i:Nat}{o:Obj}{vs:Array zq}{v:zq}(ho:s.heap.get? a=some o)(hd:o.data=.fields vs)(hi:i < vs.size):SR cd ps st (setField (.ref a) i v) s () { s with heap:=s.heap.update a (Obj.mapFields (·.setIfInBounds i v)) }:=by
 unfold setField updateField
 refine SR.bind (SR.load ho .pure) ?_
 rw [hd]
 dsimp only
 rw [wD hi]
 exact SR.update ho .pure
theorem MY{cd:Code}{ps:Pos}{st:ze}{s:zr}{f:Nat}{sG:Bool}{ids:List String}(h1:cd.env?.bind (·.frame)=some f)(h2:ps.line≠0)(h3:Bl f (Ct cd st)=some ids)(h4:¬ (EntryCells.make ids).length > sizeLine) :
  SR cd ps st (entryPlaceOf f sG) s [rawInt ps.line,rawInt ps.endLine,rawInt ps.col,rawInt ps.endCol,.str (EntryCells.make ids) 0,.bool sG] s:=by
 unfold entryPlaceOf
 refine SR.bind (SR.stack .pure) ?_
 have e:((cd,ps)::st.map Frame.where_).find? (fun (c,_)=>c.env?.bind (·.frame)==some f)=some (cd,ps):=by
  rw [yn]
  show (cd.env?.bind (·.frame)==some f)=true
  rw [h1]; simp
 rw [e]
 dsimp only
 rw [w2 (by simpa using h2)]
 have c:EntryCells.cells f sG ((cd,ps)::st.map Frame.where_)=[.str (EntryCells.make ids) 0,.bool sG]:=by
  unfold EntryCells.cells
  have:=N6 f (F4 cd ps st)
  rw [Gq,h3] at this
  unfold F4 at this
  rw [this]
  dsimp only
  rw [w2 h4]
 rw [c]
 exact .pure
theorem Mu{cd:Code}{ps:Pos}{st:ze}{s:zr}{f:Nat}{head:zq}{sG:Bool}{ids:List String} :
  SR cd ps st (EntryCells.newEntry head (.ref f) .none (rawInt f) .none [rawInt ps.line,rawInt ps.endLine,rawInt ps.col,rawInt ps.endCol,.str (EntryCells.make ids) 0,.bool sG]) s (.ref s.heap.objs.size) { s with heap:=s.heap.push (Cu head f (rawInt f) ps ids sG) }:=by
 exact SR.alloc .pure
structure Ii(cd:Code)(ps:Pos)(st:ze)(s:zr)(env:Env)(f:Nat)(F:zl)(ids:List String):Prop where
 fr:env.frame=some f
 own:cd.env?.bind (·.frame)=some f
 line:ps.line≠0
 top:((BD (Ct cd st)).dropWhile (·.frame != env.frame)).head?.bind (·.frame)=some f
 caller:(Ct cd st).any (fun v=>v.2.2.1==some "claim.caller")=true
 tW:Bl f (Ct cd st)=some ids
 size:¬ (EntryCells.make ids).length > sizeLine
 tU:∀ e∈BD (Ct cd st),∃ f∈F,Vh s.heap f e
inductive ZT (cd:Code) (ps:Pos) (st:ze) (env:Env) (f:Nat) (F:zl) (s:zr):Prop
 | mk (h:Heap) (run:SR cd ps st (frameOf env) s (.ref f) { s with heap:=h }) (eq:Cp F s.heap h)
theorem JU{cd:Code}{ps:Pos}{st:ze}{s:zr}{env:Env}{f:Nat}{F:zl}{ids:List String}(N:Ii cd ps st s env f F ids) :
  ZT cd ps st env f F s:=by
 have h1:SR cd ps st frameEnvs s (BD (Ct cd st)) s:=by
  unfold frameEnvs
  refine SR.bind (SR.stack .pure) ?_
  have:=JV (F4 cd ps st)
  rw [Gq] at this
  unfold F4 at this
  rw [this]
  exact .pure
 obtain ⟨h,R,S⟩:=HK (ps:=ps) N.caller ((BD (Ct cd st)).dropWhile (·.frame != env.frame)) s fun e m=>N.tU e ((List.dropWhile_sublist _).subset m)
 refine ⟨h,?_,S⟩
 unfold frameOf
 refine SR.bind h1 ?_
 have T:=N.top
 revert R T
 generalize (BD (Ct cd st)).dropWhile (·.frame != env.frame)=l
 intro R T
 cases l with
 | nil=>cases T
 | cons e2 l=>
  refine SR.bind (a:=some (Value.ref f)) ?_ .pure
  unfold frameObject
  refine SR.bind R ?_
  have:e2.frame=some f:=by simpa using T
  rw [this]
  exact .pure
inductive QN (cd:Code) (ps:Pos) (st:ze) (env:Env) (f:Nat) (F:zl) (ids:List String) (ea:Nat) (s:zr):Prop
 | mk (h:Heap) (eq:Cp F s.heap h) (run:SR cd ps st (noteFrame (.ref ea) env) s () { s with heap:=(h.push (Cu .none f (rawInt f) ps ids false)).update ea (Obj.mapFields (·.setIfInBounds 1 (.ref s.heap.objs.size))) }):QN cd ps st env f F ids ea s
theorem JJ{cd:Code}{ps:Pos}{st:ze}{s:zr}{env:Env}{f:Nat}{F:zl}{ids:List String}(N:Ii cd ps st s env f F ids){ea:Nat}{oe:Obj}{vs:Array zq}
  (he:s.heap.get? ea=some oe) (hd:oe.data=.fields vs) (h1:vs[1]?=some .none) (qf:CG oe.cls=false):QN cd ps st env f F ids ea s:=by
 have hsz:1 < vs.size:=(Array.getElem?_eq_some_iff.mp h1).1
 obtain ⟨h,R,S⟩:=JU N
 refine ⟨h,S,?_⟩
 unfold noteFrame
 simp only [N.fr]
 refine SR.bind (Ms he hd h1) ?_
 rw [w2 (by decide)]
 refine SR.bind R ?_
 refine SR.bind (MY N.own N.line N.tW N.size) ?_
 refine SR.bind Mu ?_
 have e2:h.get? ea=some oe:=(S.at_ ea oe he).elim id fun ⟨_,i,_⟩=>by rw [qf] at i; cases i
 have e3:=wc (h:=h) (Cu .none f (rawInt f) ps ids false) e2
 have:=Hv (cd:=cd) (ps:=ps) (st:=st) (s:={ s with heap:=h.push (Cu .none f (rawInt f) ps ids false) }) (v:=.ref h.objs.size) e3 hd hsz
 rw [S.size] at this
 show SR cd ps st (setField (.ref ea) 1 (.ref h.objs.size)) { s with heap:=h.push (Cu .none f (rawInt f) ps ids false) } () _
 rw [S.size]
 exact this
section
noncomputable def eV:zq→zq
 | .str s _=>.str s 0
 | .int i _=>.int i 0
 | .float b _=>.float b 0
 | .bytes b _=>.bytes b 0
 | v=>v
def eC:Code→Code
 | .call f a=>.call f ⟨a.pos.map eV,a.kw.map fun q=>(q.1,eV q.2)⟩
 | .builtin id a=>.builtin id ⟨a.pos.map eV,a.kw.map fun q=>(q.1,eV q.2)⟩
 | c=>c
def eD:zu→zu
 | .seq xs n=>.seq ⟨xs.toList.map eV⟩ n
 | .dict es n=>.dict ⟨es.toList.map fun e=>⟨e.hash,eV e.key,eV e.val⟩⟩ n
 | .set es n t=>.set ⟨es.toList.map fun e=>(e.1,eV e.2)⟩ n t
 | .fields xs=>.fields ⟨xs.toList.map eV⟩
 | d=>d
def eS:Option zq→Option zq
 | some v=>some (eV v)
 | none=>none
def eZ(c:zq)(z:Array (Option zq)):Array (Option zq):=bif CG c then #[] else ⟨z.toList.map eS⟩
def eO(o:Obj):Obj:=⟨o.cls,o.dict,eD o.data,eZ o.cls o.slots⟩
def eP:Option (Nat×Obj)→Option (Nat×Obj)
 | some (a,o)=>some (a,eO o)
 | none=>none
noncomputable def A4(x:SX)(m:Nat):Nat:=match x.T.get m with
 | some (a,_)=>a
 | none=>0
structure U where
 n:Nat→Nat→Nat
 d:Nat→zu
 z:Nat→Array (Option zq)
abbrev zh:=List U
structure NT where
 X:SX→Sem Fin
 Y:SX→Sem Fin
 ps:Option Pos
noncomputable def Zf(e:zq)(env:Env):Sem Unit:=PySem.W.Fast.tw17872113653443481271 e env
theorem Oe(e:zq)(env:Env):Zf e env=noteFrame e env:=by unfold Zf; rw [← PySem.W.Fast.te17872113653443481271]
structure A8 where
 C:SX→Code
 tr:zl
 pre:SX→List (Option (Nat×Obj))
 vs:SX→Option (List Vw)
 ok:U→SX→Bool
 res:U→SX→Result
 upd:U→SX→SX
 good:U→SX→Prop:=fun _ _=>True
 nt:Option NT:=none
 tC:Option (SX→zl):=none
 gp:Option (zk):=none
 ld:Bool:=false
noncomputable def Hq:zq→Nat
 | .str _ t=>t
 | .int _ t=>t
 | .float _ t=>t
 | .bytes _ t=>t
 | _=>0
noncomputable def dV(t:Nat):zq→zq
 | .str s _=>.str s t
 | .int i _=>.int i t
 | .float b _=>.float b t
 | .bytes b _=>.bytes b t
 | v=>v
theorem EZ(v:zq):dV (Hq v) (eV v)=v:=by cases v<;>rfl
theorem Gk{α:Type}{a b:α}{l l':List α}(h:a=b)(k:l=l'):a::l=b::l':=h ▸ k ▸ rfl
noncomputable def mI{α β:Type}(g:β→α→α):(Nat→β)→List α→List α
 | _,[]=>[]
 | q,a::l=>g (q 0) a::mI g (fun k=>q (k+1)) l
theorem GU{α β:Type}{g:β→α→α}{f:α→α}[Inhabited β](h:∀ a,∃ b,g b (f a)=a):∀ l:List α,∃ q,mI g q (l.map f)=l
 | []=>⟨fun z=>default,rfl⟩
 | a::l=>let ⟨b,e⟩:=h a; let ⟨q,e'⟩:=GU h l; ⟨fun k=>Nat.casesOn (motive:=fun z=>β) k b q,Gk e e'⟩
theorem eY{β:Type}(f g:Nat→β):∃ q:Nat→β,(fun k=>q (2*k))=f∧(fun k=>q (2*k+1))=g:=
 ⟨fun k=>bif k % 2==0 then f (k / 2) else g (k / 2),funext fun k=>by show (bif 2*k % 2==0 then f (2*k / 2) else _)=_; rw [Nat.mul_mod_right,Nat.mul_div_cancel_left _ Nat.two_pos]; rfl,funext fun k=>by show (bif (2*k+1) % 2==0 then _ else g ((2*k+1) / 2))=_; rw [Nat.mul_add_mod,Nat.mul_add_div Nat.two_pos]; rfl⟩
def dL(q:zo)(l:zf):zf:=mI dV q l
theorem MF(l:zf):∃ q,dL q (l.map eV)=l:=GU (fun a=>⟨_,EZ a⟩) l
def dE(q:zo)(l:List DictEntry):List DictEntry:=mI (fun (p:Nat×Nat) e=>⟨e.hash,dV p.1 e.key,dV p.2 e.val⟩) (fun k=>(q (2*k),q (2*k+1))) l
theorem dU(l:List DictEntry):∃ q,dE q (l.map fun e=>⟨e.hash,eV e.key,eV e.val⟩)=l:=by
 obtain ⟨q,h⟩:=GU (g:=fun (p:Nat×Nat) e=>(⟨e.hash,dV p.1 e.key,dV p.2 e.val⟩:DictEntry)) (f:=fun e=>⟨e.hash,eV e.key,eV e.val⟩) (fun a=>⟨(_,_),congr (vm (DictEntry.mk a.hash) (EZ a.key)) (EZ a.val)⟩) l
 obtain ⟨q',e1,e2⟩:=eY (fun k=>(q k).1) fun k=>(q k).2
 exact ⟨q',(vm (fun x=>mI _ x _) (funext fun k=>Prod.ext (xD e1 k) (xD e2 k))).trans h⟩
def dS(q:zo)(l:List (Option zq)):List (Option zq):=mI (fun t o=>o.map (dV t)) q l
theorem dR(l:List (Option zq)):∃ q,dS q (l.map eS)=l:=GU (fun a=>match a with | none=>⟨0,rfl⟩ | some a=>⟨_,vm some (EZ a)⟩) l
def dT(q:zo)(l:List (Int×zq)):List (Int×zq):=mI (fun t v=>(v.1,dV t v.2)) q l
theorem dQ(l:List (Int×zq)):∃ q,dT q (l.map fun z=>(z.1,eV z.2))=l:=GU (fun a=>⟨_,vm (Prod.mk a.1) (EZ a.2)⟩) l
def dD(q:zo):zu→zu
 | .seq xs n=>.seq ⟨dL q xs.toList⟩ n
 | .dict es n=>.dict ⟨dE q es.toList⟩ n
 | .set es n t=>.set ⟨dT q es.toList⟩ n t
 | .fields xs=>.fields ⟨dL q xs.toList⟩
 | d=>d
theorem dW(d:zu):∃ q,dD q (eD d)=d:=by
 cases d with
 | seq xs n=>exact (MF xs.toList).imp fun q h=>vm (fun x=>Data.seq ⟨x⟩ n) h
 | dict es n=>exact (dU es.toList).imp fun q h=>vm (fun x=>Data.dict ⟨x⟩ n) h
 | set es n t=>exact (dQ es.toList).imp fun q h=>vm (fun x=>Data.set ⟨x⟩ n t) h
 | fields xs=>exact (MF xs.toList).imp fun q h=>vm (fun x=>Data.fields ⟨x⟩) h
 | _=>exact ⟨fun z=>0,rfl⟩
noncomputable abbrev Dr:=(Nat→Nat)×Array (Option zq)
def dZ(c:zq)(q:Dr)(z:Array (Option zq)):Array (Option zq):=bif CG c then q.2 else ⟨dS (fun i=>q.1 (2*i+1)) z.toList⟩
def dO(q:Dr)(o:Obj):Obj:=⟨o.cls,o.dict,dD (fun i=>q.1 (2*i)) o.data,dZ o.cls q o.slots⟩
theorem dM(c:zq)(z:Array (Option zq)):∃ q y,∀ r:Nat→Nat,(fun i=>r (2*i+1))=q→dZ c (r,y) (eZ c z)=z:=by
 unfold dZ eZ
 cases CG c with
 | true=>exact ⟨fun x=>0,z,fun x x=>rfl⟩
 | false=>exact (dR z.toList).imp fun q h=>⟨#[],fun r e=>by subst e; exact vm Array.mk h⟩
theorem BY(o:Obj):∃ q,dO q (eO o)=o:=by
 obtain ⟨q1,h1⟩:=dW o.data
 obtain ⟨q2,y,h2⟩:=dM o.cls o.slots
 obtain ⟨q,e1,e2⟩:=eY q1 q2
 exact ⟨(q,y),show (⟨o.cls,o.dict,dD (fun i=>q (2*i)) (eD o.data),dZ o.cls (q,y) (eZ o.cls o.slots)⟩:Obj)=o by rw [e1,h1,h2 q e2]⟩
noncomputable def XG(o:Obj):zf:=match o.data with
 | .seq xs _=>xs.toList
 | _=>[]
def Fu:Code→zl
 | .call _ a=>(a.pos.drop 1).map Hq
 | _=>[]
noncomputable def U0:U:=⟨fun q q=>0,fun q=>.plain,fun q=>#[]⟩
abbrev Cq:=Nat×zl×Option zq×Code×List (Option (Nat×Obj))×Option (List Vw)×Bool×Option (Sem Fin×Option Pos)×Option (zl)×Option (zk)
abbrev QO:=List Cq
noncomputable def kQ(o:A8)(r:R):Option (Sem Fin×Option Pos):=match o.nt with
 | none=>none
 | some nt=>some (r.cur,match nt.ps with
  | none=>none
  | some _=>some r.pos)
noncomputable def kP(o:A8)(r:R):Option (Sem Fin×Option Pos):=match o.nt with
 | none=>none
 | some nt=>some (nt.X r.x,nt.ps)
noncomputable def lD(o:A8)(r:R):Option (zk):=match o.gp with
 | none=>none
 | some _=>some r.x.gens
def Zz(o:A8)(r:R):Option (List Vw):=match o.vs r.x with
 | none=>none
 | some _=>some (Ct r.cd r.pN)
def gn(o:A8)(r:R):Option (zl):=match o.tC with
 | none=>none
 | some _=>some (Fu r.c)
noncomputable def gm(o:A8)(r:R):Option (zl):=match o.tC with
 | none=>none
 | some f=>some (f r.x)
noncomputable def cG(o:A8):Nat:=match o.nt with
 | none=>3
 | some _=>4
noncomputable def next(o:A8)(u:U)(r:R):R:=match o.nt with
 | none=>r.k (o.res u r.x) (o.upd u r.x)
 | some nt=>r.kS (nt.Y r.x) (o.upd u r.x)
set_option tactic.hygienic true in
def Gf:List A8→zh→R→R
 | o::os,u::us,r=>Gf os us (next o u r)
 | _,_,r=>r
def i'(o:A8)(u:U)(r:R):Bool:=o.ok u r.x&&match o.nt with
 | some _=>true
 | none=>nS o.ld r.pN
def UG(o:A8)(u:U)(r:R):Cq:=(r.tag,r.ry,r.hd,eC r.c,o.tr.map (fun j=>eP (r.x.T.get j)),Zz o r,i' o u r,kQ o r,gn o r,lD o r)
def UC(o:A8)(r:R):Cq:=(cG o,r.ru,none,o.C r.x,o.pre r.x,o.vs r.x,true,kP o r,gm o r,o.gp)
set_option tactic.hygienic true in
def UE:List A8→zh→R→QO
 | o::os,u::us,r=>UG o u r::UE os us (next o u r)
 | _,_,_=>[]
set_option tactic.hygienic true in
def UD:List A8→zh→R→QO
 | o::os,u::us,r=>UC o r::UD os us (next o u r)
 | _,_,_=>[]
section
variable{p:zv}{w:zt}{kt:KT}
inductive e9 (p:zv) (w:zt) (kt:KT) (o:A8) (x:SX) (s:zr) (t:Thread) (k:Result→Sem Fin) (cd:Code) (pc:Pos) (rest:ze):Prop
 | mk (u:U) (s':zr) (go:Go p w s t s' ⟨k (o.res u x),cd,pc,rest⟩) (rep:BR kt s' (o.upd u x)) (ext:BS x (o.upd u x)) (keep:AH (o.upd u x) s s') (good:o.good u x):e9 p w kt o x s t k cd pc rest
def A8.Ok(p:zv)(w:zt)(kt:KT)(o:A8):Prop:=o.nt=none∧
 ∀ (c:Code) (x:SX) (s:zr) (k:Result→Sem Fin) (g:Bool) (l:zf) (cd:Code) (pc:Pos) (rest:ze),
  eC c=o.C x→o.tr.map (fun j=>eP (x.T.get j))=o.pre x→(∀ u,o.ok u x=true)→BR kt s x→(∀ f,o.tC=some f→Fu c=f x)→e9 p w kt o x s ⟨denote table c,c,pc,.ret k none g l cd pc []::rest⟩ k cd pc rest
noncomputable def En(C:Code)(res:Nat→Result):A8:=⟨fun q=>C,[],fun q=>[],fun q=>none,fun q q=>true,fun u q=>res (u.n 0 2),fun u x=>x.grown (u.n 0 0) (u.n 0 1),fun q q=>True,none,none,none,false⟩
theorem BG{C:Code}{res:Nat→Result}(h:∀ c,eC c=C→Bm p w c (fun r=>∃ u,r=res u)):(En C res).Ok p w kt:=by
 refine ⟨rfl,?_⟩
 intro c x s k g l cd pc rest hc _ _ D _
 obtain ⟨s',r,⟨u,rfl⟩,G,go⟩:=h c hc s k g l cd pc rest
 refine ⟨⟨fun q i=>if i=0 then s'.heap.objs.size else if i=1 then s'.toks else u,fun q=>.plain,fun q=>#[]⟩,s',go,?_,?_,?_,trivial⟩
 ·exact D.grown G
 ·refine ⟨fun q q o h=>⟨o,h⟩,fun q q o h=>.inl ⟨o,h⟩,?_⟩
  show x.n+x.i≤s'.heap.objs.size+0
  rw [← D.size]; exact go.size
 ·exact ⟨G.life,fun b o hb q=>G.old b o hb⟩
theorem Ak{c:Code}{f:zq}{vs:zf}(h:eC c=.call f ⟨vs,[]⟩):∃ ps,c=.call f ⟨ps,[]⟩∧ps.map eV=vs:=by
 cases c with
 | call f' ar=>
  obtain ⟨ps,kw⟩:=ar
  obtain ⟨rfl,hh⟩:=Code.call.inj h
  obtain ⟨h1,h2⟩:=Args.mk.inj hh
  obtain rfl:=xa.mp h2
  exact ⟨ps,rfl,h1⟩
 | _=>cases h
theorem E4{v:zq}{a:Int}(h:eV v=.int a 0):∃ t,v=.int a t:=by
 cases v with
 | int i t=>cases h; exact ⟨t,rfl⟩
 | _=>cases h
theorem AX{v:zq}{a:Str}(h:eV v=.str a 0):∃ t,v=.str a t:=by
 cases v with
 | str i t=>cases h; exact ⟨t,rfl⟩
 | _=>cases h
theorem B3{v:zq}{a:Nat}(h:eV v=.ref a):v=.ref a:=by
 cases v with
 | ref i=>cases h; rfl
 | _=>cases h
theorem Oj{ps:zf}{a:zq}(h:ps.map eV=[a]):∃ x,ps=[x]∧eV x=a:=by
 cases ps with
 | nil=>cases h
 | cons x l=>cases l with
  | nil=>exact ⟨x,rfl,(wB h).1⟩
  | cons _ _=>cases (wB h).2
theorem EO{ps:zf}{a b:zq}(h:ps.map eV=[a,b]):∃ x y,ps=[x,y]∧eV x=a∧eV y=b:=by
 cases ps with
 | nil=>cases h
 | cons x l=>
  obtain ⟨y,rfl,e⟩:=Oj (wB h).2
  exact ⟨x,y,rfl,(wB h).1,e⟩
theorem D9{ps:zf}{a:Nat}(h:ps.map eV=[.ref a]):ps=[.ref a]:=by
 obtain ⟨u,rfl,e⟩:=Oj h
 rw [B3 e]
theorem YQ{ps:zf}{a b:Nat}(h:ps.map eV=[.ref a,.ref b]):ps=[.ref a,.ref b]:=by
 obtain ⟨u,v,rfl,e,e2⟩:=EO h
 rw [B3 e,B3 e2]
theorem D8{ps:zf}{a:Nat}{x:Str}(h:ps.map eV=[.ref a,.str x 0]):∃ t,ps=[.ref a,.str x t]:=by
 obtain ⟨u,v,rfl,e,e2⟩:=EO h
 obtain ⟨t,rfl⟩:=AX e2
 exact ⟨t,by rw [B3 e]⟩
theorem Z9{c:Code}{f:zq}{a:Nat}(h:eC c=.call f ⟨[.ref a],[]⟩):c=.call f ⟨[.ref a],[]⟩:=by
 obtain ⟨ps,rfl,e⟩:=Ak h
 obtain ⟨u,rfl,e1⟩:=Oj e
 rw [B3 e1]
theorem Px{c:Code}{f:zq}{a b:Nat}(h:eC c=.call f ⟨[.ref a,.ref b],[]⟩):c=.call f ⟨[.ref a,.ref b],[]⟩:=by
 obtain ⟨ps,rfl,e⟩:=Ak h
 obtain ⟨u,v,rfl,e1,e2⟩:=EO e
 rw [B3 e1,B3 e2]
theorem M9{c:Code}{f:zq}{x:Str}{b:Nat}(h:eC c=.call f ⟨[.str x 0,.ref b],[]⟩):∃ t,c=.call f ⟨[.str x t,.ref b],[]⟩:=by
 obtain ⟨ps,rfl,e⟩:=Ak h
 obtain ⟨u,v,rfl,e1,e2⟩:=EO e
 obtain ⟨t,rfl⟩:=AX e1
 exact ⟨t,by rw [B3 e2]⟩
theorem WU{c:Code}{f:zq}{x y:Str}(h:eC c=.call f ⟨[.str x 0,.str y 0],[]⟩):∃ t u,c=.call f ⟨[.str x t,.str y u],[]⟩:=by
 obtain ⟨ps,rfl,e⟩:=Ak h
 obtain ⟨u,v,rfl,e1,e2⟩:=EO e
 obtain ⟨t,rfl⟩:=AX e1
 obtain ⟨u,rfl⟩:=AX e2
 exact ⟨t,u,rfl⟩
theorem Hi{c:Code}{id:String}{a b:Int}(h:eC c=.call (.builtin id) ⟨[.int a 0,.int b 0],[]⟩):∃ t u,c=.call (.builtin id) ⟨[.int a t,.int b u],[]⟩:=by
 obtain ⟨ps,rfl,e⟩:=Ak h
 obtain ⟨x,y,rfl,e1,e2⟩:=EO e
 obtain ⟨t,rfl⟩:=E4 e1
 obtain ⟨u,rfl⟩:=E4 e2
 exact ⟨t,u,rfl⟩
def KS(a b:Int)(v:Bool):A8:=En (.call (.builtin "int.__lt__") ⟨[.int a 0,.int b 0],[]⟩) fun q=>.ok (.ret (.bool v))
theorem BN{a b:Int}{v:Bool}(h:decide (a < b)=v):(KS a b v).Ok p w kt:=BG fun c hc=>by
 obtain ⟨t,u,rfl⟩:=Hi hc
 intro s k g l cd pc rest
 obtain ⟨s',res,e,G,go⟩:=Yj (p:=p) (w:=w) a b t u s k g l cd pc rest
 exact ⟨s',res,⟨0,by rw [e,h]⟩,G,go⟩
def Le(a b:Int)(v:Bool):A8:=En (.call (.builtin "int.__ge__") ⟨[.int a 0,.int b 0],[]⟩) fun q=>.ok (.ret (.bool v))
theorem Bb{a b:Int}{v:Bool}(h:decide (a≥b)=v):(Le a b v).Ok p w kt:=BG fun c hc=>by
 obtain ⟨t,u,rfl⟩:=Hi hc
 intro s k g l cd pc rest
 obtain ⟨s',res,e,G,go⟩:=Yl (p:=p) (w:=w) a b t u s k g l cd pc rest
 exact ⟨s',res,⟨0,by rw [e,h]⟩,G,go⟩
def Md(x:Str):A8:=En (.call (.builtin "len") ⟨[.str x 0],[]⟩) fun u=>.ok (.ret (.int x.length u))
theorem EH{x:Str}(h:x.length < 2 ^ 62):(Md x).Ok p w kt:=BG fun c hc=>by
 obtain ⟨ps,rfl,e⟩:=Ak hc
 obtain ⟨v,rfl,e1⟩:=Oj e
 obtain ⟨t,rfl⟩:=AX e1
 exact Oz x t h
def YE(x:Str)(m i j:Nat):A8:=⟨fun X=>.call (.builtin "str.__getitem__") ⟨[.str x 0,.ref (A4 X m)],[]⟩,[m],fun X=>[some (A4 X m,{ cls:=.type "slice",data:=.fields #[.int i 0,.int j 0,.none] })],fun q=>none,fun q q=>true,
 fun u q=>.ok (.ret (.str ⟨⟨(x.cps.toList.drop i).take (j-i)⟩⟩ (u.n 0 2))),fun u x=>x.grown (u.n 0 0) (u.n 0 1),fun q q=>True,none,none,none,false⟩
theorem Jb{o:Obj}{i j:Int}(h:eO o = { cls:=.type "slice",data:=.fields #[.int i 0,.int j 0,.none] }):∃ ti tj,o.cls=.type "slice"∧o.data=.fields #[.int i ti,.int j tj,.none]:=by
 obtain ⟨q,e⟩:=BY o
 rw [h] at e
 subst e
 exact ⟨_,_,rfl,rfl⟩
theorem Lg{x:Str}{m i j:Nat}(h1:i≤j)(h2:j≤x.length)(h3:x.length≤sizeLine)(h4:j-i < x.length):(YE x m i j).Ok p w kt:=by
 refine ⟨rfl,?_⟩
 intro c X s k g l cd pc rest hc hp _ D _
 obtain ⟨t,rfl⟩:=M9 hc
 have hp':eP (X.T.get m)=some (A4 X m,{ cls:=.type "slice",data:=.fields #[.int i 0,.int j 0,.none] }):=(wB hp).1
 cases q:X.T.get m with
 | none=>rw [q] at hp'; cases hp'
 | some z=>
  obtain ⟨b,o⟩:=z
  rw [q] at hp'
  simp only [eP,wu,xd] at hp'
  obtain ⟨hb,ho⟩:=hp'
  obtain ⟨ti,tj,qO,hdt⟩:=Jb ho
  rw [← hb]
  obtain ⟨s',r,⟨u,rfl⟩,G,go⟩:=HD (p:=p) (w:=w) x t b i j ti tj h1 h2 h3 h4 s k g l cd pc rest ⟨o,D.own m b o q,qO,hdt⟩
  refine ⟨⟨fun y i=>if i=0 then s'.heap.objs.size else if i=1 then s'.toks else u,fun y=>.plain,fun y=>#[]⟩,s',go,?_,?_,?_,trivial⟩
  ·exact D.grown G
  ·refine ⟨fun y y o h=>⟨o,h⟩,fun y y o h=>.inl ⟨o,h⟩,?_⟩
   show X.n+X.i≤s'.heap.objs.size+0
   rw [← D.size]; exact go.size
  ·exact ⟨G.life,fun b o hb y=>G.old b o hb⟩
end
end
noncomputable def ly(r:R)(j:Nat):Nat:=match r.x.T.get j with
 | some (a,_)=>a
 | none=>0
def eF:Fin→Fin
 | .done (.ret v)=>.done (.ret (eV v))
 | f=>f
noncomputable def Ha(N:Nat):KT→Nat→Nat→Bool
 | .nil,_,_=>true
 | .node v l r,s,b=>(match v with | some _=>Nat.blt b N | none=>true)&&(Ha N l (2*s) (s+b)&&Ha N r (2*s) (2*s+b))
theorem Er(N:Nat):∀ (t:KT) (s b:Nat),Ha N t s b=true→∀ j o,t.get j=some o→s*j+b < N
 | .nil,_,_,_,_,_,e=>by cases e
 | .node v l r,s,b,h,j,o,e=>by
  have h:(_&&(Ha N l (2*s) (s+b)&&Ha N r (2*s) (2*s+b)))=true:=h
  rw [xY,xY] at h
  rw [KT.get_node] at e
  by_cases h0:j=0
  ·subst h0
   rw [wD rfl] at e
   subst e
   have:=h.1
   simp only at this
   have:=w8 this
   lia
  ·rw [w2 h0] at e
   by_cases p:j % 2=1
   ·rw [wD p] at e
    have z:=Er N l _ _ h.2.1 _ _ e
    rw [KT.arith1 p]; exact z
   ·rw [w2 p] at e
    have z:=Er N r _ _ h.2.2 _ _ e
    rw [KT.arith2 h0 p]; exact z
theorem PG(P:zp):Ha 974 (A5 P) 1 0=true:=by kernel_rfl
theorem PF{P:zp}{a:Nat}(h:974≤a):(A5 P).get a=none:=by
 cases q:(A5 P).get a with
 | none=>rfl
 | some o=>have:=Er 974 _ _ _ (PG P) _ _ q; lia
theorem cS{P:zp}:MN (A5 P):=by
 intro s h cd ps st
 have e:(A5 P).get 2=some (o2 P):=by kernel_rfl
 have g:=h _ _ e
 show SR cd ps st (Sem.load 2 (some (.str (Str.ofString "sys.recursionlimit") 0)) _) s 1000 s
 refine SR.load g ?_
 have z:∀ m:Sem Nat,m=.pure 1000→SR cd ps st m s 1000 s:=fun m hm=>by rw [hm]; exact .pure
 exact z _ (by kernel_rfl)
def dK(q:zo)(l:List (Str×zq)):List (Str×zq):=mI (fun t v=>(v.1,dV t v.2)) q l
theorem WX(l:List (Str×zq)):∃ q,dK q (l.map fun z=>(z.1,eV z.2))=l:=GU (fun a=>⟨_,vm (Prod.mk a.1) (EZ a.2)⟩) l
def dC(q q':zo):Code→Code
 | .call f a=>.call f ⟨dL q a.pos,dK q' a.kw⟩
 | .builtin id a=>.builtin id ⟨dL q a.pos,dK q' a.kw⟩
 | c=>c
theorem dX(c:Code):∃ q q',dC q q' (eC c)=c:=by
 cases c with
 | call f a=>exact (MF a.pos).imp fun q h=>(WX a.kw).imp fun q' h'=>vm (Code.call f) (congr (vm Args.mk h) h')
 | builtin id a=>exact (MF a.pos).imp fun q h=>(WX a.kw).imp fun q' h'=>vm (Code.builtin id) (congr (vm Args.mk h) h')
 | _=>exact ⟨fun z=>0,fun z=>0,rfl⟩
def ny(q:Nat→Dr)(l:List Obj):List Obj:=mI dO q l
theorem ZL(l:List Obj):∃ q,ny q (l.map eO)=l:=GU BY l
noncomputable def FG:List α→List α×List α
 | []=>([],[])
 | [a]=>([a],[])
 | a::b::l=>(a::(FG l).1,b::(FG l).2)
theorem Es:∀ (l:List α) (i:Nat),(FG l).1[i]?=l[2*i]?∧(FG l).2[i]?=l[2*i+1]?
 | [],_=>⟨rfl,rfl⟩
 | [_],0=>⟨rfl,rfl⟩
 | [_],_+1=>⟨rfl,rfl⟩
 | _::_::_,0=>⟨rfl,rfl⟩
 | _::_::l,i+1=>Es l i
theorem Gd:∀ (l:List α),(FG l).1.length≤l.length∧(FG l).2.length≤l.length
 | []=>⟨vp _,vp _⟩
 | [_]=>⟨vp _,yj _⟩
 | _::_::l=>⟨xb (xj (Gd l).1),xb (xj (Gd l).2)⟩
def OC:Nat→List (Nat×Obj)→TT
 | 0,_=>.nil
 | _+1,[]=>.nil
 | k+1,q::l=>.node q.1 q.2 (OC k (FG l).1) (OC k (FG l).2)
theorem PX{j:Nat}(p:(j+1) % 2=1):2*((j+1) / 2)=j:=by
 have:=Nat.div_add_mod (j+1) 2; rw [p] at this; exact zV this
theorem Mp{j:Nat}(p:(j+1) % 2=0):2*((j+1) / 2-1)+1=j:=by
 have:=Nat.div_add_mod (j+1) 2; rw [p] at this
 cases q:(j+1) / 2 with
 | zero=>rw [q] at this; cases this
 | succ k=>rw [q] at this; exact zV this
theorem I3:∀ (k:Nat) (l:List (Nat×Obj)) (j:Nat),l.length≤k→(OC k l).get j=l[j]?
 | 0,[],_,_=>rfl
 | 0,_::_,_,h=>absurd h (Nat.not_succ_le_zero _)
 | _+1,[],_,_=>rfl
 | k+1,q::l,j,h=>by
  have hl:=Gd l
  have h:=Nat.le_of_succ_le_succ h
  show (TT.node q.1 q.2 _ _).get j=_
  rw [TT.get_node]
  cases j with
  | zero=>rfl
  | succ j=>
   rw [w2 (ya j),List.getElem?_cons_succ]
   by_cases p:(j+1) % 2=1
   ·rw [wD p,I3 k _ _ (vv hl.1 h),(Es l _).1,PX p]
   ·rw [w2 p,I3 k _ _ (vv hl.2 h),(Es l _).2,Mp (Nat.mod_two_ne_one.mp p)]
inductive End where
 | fin (f:Fin)
 | err (e:zq)
noncomputable def End.tY:End→Sem Fin
 | .fin f=>.pure f
 | .err e=>.raise e
def eE:End→End
 | .fin f=>.fin (eF f)
 | e=>e
noncomputable def R.end? : R→Option End
 | .fin _ f ..=>some (.fin f)
 | .raised _ e ..=>some (.err e)
 | _=>none
structure Spec where
 C:Code
 ad:zl
 pre:List Obj
 fin:(Nat→Nat)→End
 ch:(Nat→Nat)→List Obj
 nw:(Nat→Nat)→List Obj
def FV(pd:zl)(r:R)(k:Nat):Nat:=match pd[k]? with
 | some j=>ly r j
 | none=>0
def eQ:Option (Nat×Obj)→Option Obj
 | some (_,o)=>some (eO o)
 | none=>none
def nv:Option End→Option End
 | some e=>some (eE e)
 | none=>none
def Ov(m:zl)(pd:zl)(r:R):zl×Option End×List (Option (Nat×Obj))×List (Option Obj)×ze×zk×Drawn×OsState:=
 (r.ry,nv r.end?,m.map (fun j=>eP (r.x.T.get j)),pd.map (fun j=>eQ (r.x.T.get j)),r.pN,r.x.gens,r.x.drawn,r.x.os)
def NM(S:Spec)(pd:zl)(gens:zk)(drawn:Drawn)(os:OsState)(r:R):zl×Option End×List (Option (Nat×Obj))×List (Option Obj)×ze×zk×Drawn×OsState:=
 (r.ru,some (S.fin (FV pd r)),(S.ad.zip (S.ch (FV pd r))).map some,(S.nw (FV pd r)).map some,[],gens,drawn,os)
theorem HX{α:Type}{l:List α}(nd:l.Nodup){i j:Nat}(hi:i < l.length)(hj:j < l.length)(e:l[i]=l[j]):i=j:=by
 rcases Nat.lt_trichotomy i j with h | h | h
 ·exact absurd e (List.pairwise_iff_getElem.mp nd i j hi hj h)
 ·exact h
 ·exact absurd e.symm (List.pairwise_iff_getElem.mp nd j i hj hi h)
theorem Z'{p:zv}{w:zt}{kt:KT}{tl:ze}{x:SX}{r:R}{s:zr}{t:Thread}{e:End}(h:Cj p w kt tl x r s t)(e1:r.ry=r.ru)(e2:r.end?=some e):Vc p w kt tl x r s t e.tY:=by
 cases r with
 | fin es f x' c ps st=>cases e2; exact h.toFin e1 rfl
 | raised es f x' c ps st=>cases e2; exact h.sQ e1 rfl
 | _=>cases e2
noncomputable def Bo:TT→List (Nat×Obj)→TT
 | T,[]=>T
 | T,q::l=>Bo (T.set q.1 (fun z=>q.2)) l
noncomputable def Ca:TT→Nat→List (Nat×Obj)→TT
 | T,_,[]=>T
 | T,m,q::l=>Ca (T.ins m q.1 q.2) (m+1) l
noncomputable def HS:TT→Nat→List (Nat×Obj)→Bool
 | _,_,[]=>true
 | T,m,q::l=>((T.ins m q.1 q.2).get m).isSome&&HS (T.ins m q.1 q.2) (m+1) l
theorem G6:∀ (l:List (Nat×Obj)) (T:TT) (i a:Nat) (o:Obj),(Bo T l).get i=some (a,o)→∃ o0,T.get i=some (a,o0)∧((i,o)∈l∨(i∉l.map (·.1)∧o=o0))
 | [],T,i,a,o,h=>⟨o,h,.inr ⟨by simp,rfl⟩⟩
 | q::l,T,i,a,o,h=>by
  obtain ⟨o1,h1,h2⟩:=G6 l _ i a o h
  rw [TT.get_set] at h1
  by_cases e:i=q.1
  ·rw [wD e] at h1
   cases g:T.get q.1 with
   | none=>rw [g] at h1; cases h1
   | some z=>
    rw [g] at h1
    simp only [zX,wu,xd] at h1
    refine ⟨z.2,by rw [e,g,← h1.1],.inl ?_⟩
    rcases h2 with h2 | ⟨_,h2⟩
    ·exact .tail _ h2
    ·rw [h2,← h1.2,e]; exact .head _
  ·rw [w2 e] at h1
   refine ⟨o1,h1,?_⟩
   rcases h2 with h2 | ⟨h3,h2⟩
   ·exact .inl (.tail _ h2)
   ·exact .inr ⟨by simp only [vu,wK,not_or]; exact ⟨e,h3⟩,h2⟩
theorem G7:∀ (l:List (Nat×Obj)) (T:TT) (i a:Nat) (o:Obj),T.get i=some (a,o)→∃ o',(Bo T l).get i=some (a,o')
 | [],T,i,a,o,h=>⟨o,h⟩
 | q::l,T,i,a,o,h=>by
  have:∃ o',(T.set q.1 (fun z=>q.2)).get i=some (a,o'):=by
   rw [TT.get_set]
   by_cases e:i=q.1
   ·rw [wD e,← e,h]; exact ⟨_,rfl⟩
   ·rw [w2 e]; exact ⟨o,h⟩
  obtain ⟨o',h'⟩:=this
  exact G7 l _ i a o' h'
theorem E2:∀ (l:List (Nat×Obj)) (T:TT) (m i:Nat),HS T m l=true→(Ca T m l).get i=if m≤i∧i < m+l.length then l[i-m]? else T.get i
 | [],T,m,i,_=>by rw [w2 fun h=>absurd h.2 (xK.mpr h.1)]; rfl
 | q::l,T,m,i,h=>by
  have h:(_&&HS (T.ins m q.1 q.2) (m+1) l)=true:=h
  rw [xY] at h
  show (Ca (T.ins m q.1 q.2) (m+1) l).get i=_
  rw [E2 l _ _ i h.2]
  by_cases h1:m+1≤i∧i < m+1+l.length
  ·rw [wD h1,wD ⟨Nat.le_of_succ_le h1.1,by rw [xt] at h1; exact h1.2⟩,← zH (Nat.sub_pos_of_lt h1.1),← Nat.sub_add_eq,List.getElem?_cons_succ]
  ·rw [w2 h1,TT.get_ins _ _ _ _ h.1]
   by_cases e:i=m
   ·subst e
    rw [wD rfl,wD ⟨vp _,Nat.lt_add_of_pos_right (Nat.succ_pos _)⟩,Nat.sub_self]
    rfl
   ·rw [w2 e,w2 fun ⟨a,b⟩=>h1 ⟨Nat.lt_of_le_of_ne a (Ne.symm e),by rw [xt]; exact b⟩]
def LL(t:Nat):End→Result
 | .fin (.done (.ret v))=>.ok (.ret (dV t v))
 | .fin (.done f)=>.ok f
 | .fin (.again _)=>.ok .next
 | .err e=>.error e
def dF:(Nat→Dr)→(Nat→zu)→List Obj→List Bool→List Obj
 | _,_,[],_=>[]
 | q,_,o::l,[]=>ny q (o::l)
 | q,d,o::l,b::fl=>(bif b then ⟨o.cls,o.dict,d 0,dZ o.cls (q 0) o.slots⟩ else dO (q 0) o)::dF (fun k=>q (k+1)) (fun k=>d (k+1)) l fl
def Ft(q:Nat→Dr)(d:Nat→zu)(fl:List Bool)(i:Nat)(l:List Obj):List Obj:=dF (fun k=>q (k+i)) (fun k=>d (k+i)) l fl
def OB:(Nat→zu)→List Obj→List Bool→Prop
 | _,[],_=>True
 | _,_::_,[]=>True
 | d,o::l,true::fl=>eD (d 0)=o.data∧OB (fun k=>d (k+1)) l fl
 | d,_::l,false::fl=>OB (fun k=>d (k+1)) l fl
def GI(d:Nat→zu)(fl:List Bool)(i:Nat)(l:List Obj):Prop:=OB (fun k=>d (k+i)) l fl
theorem WY:∀ (os:List Obj) (fl:List Bool),∃ q d,dF q d (os.map eO) fl=os∧OB d (os.map eO) fl
 | [],_=>⟨fun z=>(fun z=>0,#[]),fun z=>.plain,rfl,trivial⟩
 | o::l,[]=>let ⟨q,h⟩:=ZL (o::l); ⟨q,fun z=>.plain,h,trivial⟩
 | o::l,b::fl=>
  let ⟨q,d,h1,h2⟩:=WY l fl
  let ⟨q0,h0⟩:=BY o
  ⟨fun k=>Nat.casesOn (motive:=fun z=>Dr) k q0 q,fun k=>Nat.casesOn (motive:=fun z=>zu) k o.data d,Gk (by cases b; exact h0; exact vm (fun x:Obj=>(⟨o.cls,o.dict,o.data,x.slots⟩:Obj)) h0) h1,by cases b; exact h2; exact ⟨rfl,h2⟩⟩
theorem Km(os:List Obj)(fl:List Bool):∃ q d,Ft q d fl 0 (os.map eO)=os∧GI d fl 0 (os.map eO):=WY os fl
def fa(u:U)(fl:List Bool)(os:List Obj):List Obj:=Ft (fun j=>(u.n (2*j+1),u.z (2*j))) (fun j=>u.d (2*j)) fl 0 os
def fN(u:U)(fl:List Bool)(os:List Obj):List (Nat×Obj):=((List.range os.length).map (fun k=>u.n 0 (3+k))).zip (Ft (fun j=>(u.n (2*j+2),u.z (2*j+1))) (fun j=>u.d (2*j+1)) fl 0 os)
def J3(gp:Option (zk))(ge:zk→zk)(vs:SX→Option (List Vw))(tr:zl)(fl fn:List Bool)(S:SX→Spec):A8 where
 C:=fun x=>(S x).C
 tr:=tr
 pre:=fun x=>((S x).ad.zip (S x).pre).map some
 vs:=vs
 ok:=fun u x=>HS (Bo x.T (tr.zip (fa u fl ((S x).ch (fun k=>u.n 0 (3+k)))))) x.m (fN u fn ((S x).nw (fun k=>u.n 0 (3+k))))
 res:=fun u x=>LL (u.n 0 2) ((S x).fin (fun k=>u.n 0 (3+k)))
 upd:=fun u x=>⟨Ca (Bo x.T (tr.zip (fa u fl ((S x).ch (fun k=>u.n 0 (3+k)))))) x.m (fN u fn ((S x).nw (fun k=>u.n 0 (3+k)))),x.m+((S x).nw (fun k=>u.n 0 (3+k))).length,u.n 0 0,0,ge x.gens,x.drawn,u.n 0 1,0,x.os⟩
 nt:=none
 tC:=none
 gp:=gp
 good:=fun u x=>GI (fun j=>u.d (2*j)) fl 0 ((S x).ch (fun k=>u.n 0 (3+k)))∧GI (fun j=>u.d (2*j+1)) fn 0 ((S x).nw (fun k=>u.n 0 (3+k)))
def Cm:=J3 none id
def BU(tr:zl)(fl fn:List Bool)(S:SX→Spec):A8:=Cm (fun q=>none) tr fl fn S
noncomputable def CZ:End→Bool
 | .fin (.again _)=>false
 | _=>true
section
noncomputable abbrev Lp:=List (Nat×Obj)
abbrev zd:=Lp→Prop
structure BA(kt:KT)(s:zr)(L:Lp):Prop where
 top:N8 kt s
 own:∀ q∈L,∃ o,s.heap.get? q.1=some o∧eO o=q.2
 nd:(L.map (·.1)).Nodup
 off:∀ q∈L,kt.get q.1=none
structure Zr(go:zk→zk)(s s':zr)(L L':Lp):Prop where
 life:s'.heap.life=s.heap.life
 gens:s'.gens=go s.gens
 drawn:s'.drawn=s.drawn
 os:s'.os=s.os
 old:∀ b o,s.heap.get? b=some o→b∉L.map (·.1)→s'.heap.get? b=some o
 new:∀ q∈L',q.1∈L.map (·.1)∨s.heap.objs.size≤q.1
noncomputable abbrev Fr:=Zr id
inductive QQ (ge:zk→zk) (w:zt) (pQ:End→Lp→Prop) (s:zr) (t:Thread) (pN:ze) (L:Lp):Prop
 | mk (e:End) (s':zr) (L':Lp) (qF:Code) (pos':Pos) (go:Go pw w s t s' ⟨e.tY,qF,pos',pN⟩) (po:pQ (eE e) L') (has:BA (A5 w.2) s' L') (fr:Zr ge s s' L L'):QQ ge w pQ s t pN L
noncomputable abbrev mH:=QQ id
def QR(l:ze):List Vw:=l.map fun f=>vw f.where_.1
structure Tl where
 l:Nat
 P:List Vw→Prop
structure H7(St:Tl)(tl:ze):Prop where
 qt:qt tl=true
 st:St.P (QR tl)
 len:tl.length≤10*St.l+1
noncomputable abbrev Al(St:Tl):Pos→ze→Prop:=fun q pN=>H7 St pN
def Eh:Pos→ze→Prop:=fun pc pN=>qt pN=true∧∃ k g l cd rest,pN=Frame.ret k none g l cd pc []::rest
def DZ(w:zt)(Sh:Pos→ze→Prop)(C:Code)(Pre:zd)(pQ:End→Lp→Prop):Prop:=
 ∀ (c:Code) (s:zr) (pc:Pos) (pN:ze) (L:Lp),Pre L→eC c=C→BA (A5 w.2) s L→Sh pc pN→mH w pQ s ⟨denote table c,c,pc,pN⟩ pN L
def Fb(gi:zk→Prop)(go:zk→zk)(w:zt)(Sh:Pos→ze→Prop)(C:Code)(Pre:zd)(pQ:End→Lp→Prop):Prop:=
 ∀ (c:Code) (s:zr) (pc:Pos) (pN:ze) (L:Lp),Pre L→eC c=C→BA (A5 w.2) s L→Sh pc pN→gi s.gens→QQ go w pQ s ⟨denote table c,c,pc,pN⟩ pN L
theorem Fb.con{w:zt}{Sh:Pos→ze→Prop}{C:Code}{Pre:zd}{pQ:End→Lp→Prop}(h:Fb (fun q=>True) id w Sh C Pre pQ):DZ w Sh C Pre pQ:=fun c s pc pN L a b d e=>h c s pc pN L a b d e trivial
theorem DZ.g{w:zt}{Sh:Pos→ze→Prop}{C:Code}{Pre:zd}{pQ:End→Lp→Prop}(h:DZ w Sh C Pre pQ):Fb (fun q=>True) id w Sh C Pre pQ:=fun c s pc pN L a b d e q=>h c s pc pN L a b d e
theorem BA.perm{kt:KT}{s:zr}{L L':Lp}(h:BA kt s L)(p:L.Perm L'):BA kt s L':=
 ⟨h.top,fun q m=>h.own q (p.mem_iff.mpr m),(p.map _).nodup_iff.mp h.nd,fun q m=>h.off q (p.mem_iff.mpr m)⟩
theorem BA.left{kt:KT}{s:zr}{L M:Lp}(h:BA kt s (L++M)):BA kt s L:=
 ⟨h.top,fun q m=>h.own q (vq _ m),by have:=h.nd; rw [vl] at this; exact (x5.mp this).1,fun q m=>h.off q (vq _ m)⟩
theorem BA.right{kt:KT}{s:zr}{L M:Lp}(h:BA kt s (L++M)):BA kt s M:=(h.perm wJ).left
theorem BA.lt{kt:KT}{s:zr}{L:Lp}(h:BA kt s L){q:Nat×Obj}(m:q∈L):q.1 < s.heap.objs.size:=by
 obtain ⟨o,ho,_⟩:=h.own q m
 exact xm ho
theorem Zr.trans{s s₁ s₂:zr}{L L₁ L₂:Lp}(z:s.heap.objs.size≤s₁.heap.objs.size)(h:Fr s s₁ L L₁)(k:Fr s₁ s₂ L₁ L₂):Fr s s₂ L L₂:=by
 refine ⟨k.life.trans h.life,k.gens.trans h.gens,k.drawn.trans h.drawn,k.os.trans h.os,fun b o e n=>?_,fun q m=>?_⟩
 ·refine k.old b o (h.old b o e n) fun m=>?_
  obtain ⟨q,hq,rfl⟩:=wC.mp m
  rcases h.new q hq with a | a
  ·exact n a
  ·exact absurd (xm e) (xK.mpr a)
 ·rcases k.new q m with a | a
  ·obtain ⟨q',hq,e⟩:=wC.mp a
   rw [← e]; exact h.new q' hq
  ·exact .inr (vv z a)
section
variable{w:zt}{Sh:Pos→ze→Prop}{C:Code}{Pre q8:zd}{pQ ph:End→Lp→Prop}
theorem DZ.pU(h:DZ w Sh C Pre pQ)(h1:∀ L,q8 L→Pre L)(h2:∀ e L,pQ e L→ph e L):DZ w Sh C q8 ph:=by
 intro c s pc pN L hp hc H hs
 obtain ⟨e,s',L',qF,pos',go,po,H',F⟩:=h c s pc pN L (h1 L hp) hc H hs
 exact ⟨e,s',L',qF,pos',go,h2 _ _ po,H',F⟩
noncomputable def Ba(c:Code):Bool:=FJ ⟨.pure (.again c),c,default,[]⟩
theorem K8{c c':Code}{pos:Pos}{st:ze}(h:Ba c=true):Thread.calm ⟨.pure (.again c),c',pos,st⟩=true:=by
 unfold Ba at h
 rw [Aq] at h
 exact h
theorem DZ.again{sV:Code→Lp→Prop}(qq:∀ p p' pN,Sh p pN→Sh p' pN)(h:DZ w Sh C Pre (fun e L=>(∃ c,e=.fin (.again c)∧Ba c=true∧sV c L)∨pQ e L))(k:∀ c,DZ w Sh (eC c) (sV c) pQ):DZ w Sh C Pre pQ:=by
 intro c s pc pN L hp hc H hs
 obtain ⟨e,s',L',qF,pos',go,po,H',F⟩:=h c s pc pN L hp hc H hs
 rcases po with ⟨c2,he,hq,hm⟩ | po
 ·have e2:e=.fin (.again c2):=by
   cases e with
   | err v=>cases he
   | fin f=>cases f with
    | again c3=>cases he; rfl
    | done f=>cases f<;>cases he
  subst e2
  obtain ⟨e,s2,L2,cd2,r8,go2,qN,H2,F2⟩:=k c2 c2 s' pos' pN L' hm rfl H' (qq _ _ _ hs)
  exact ⟨e,s2,L2,cd2,r8,go.trans (.head (Bj (K8 hq)) go2),qN,H2,F.trans go.size F2⟩
 ·exact ⟨e,s',L',qF,pos',go,po,H',F⟩
end
structure E6(kt:KT)(s:zr)(x:SX)(P:Lp):Prop where
 own:∀ q∈P,∃ o,s.heap.get? q.1=some o∧eO o=q.2
 nd:(P.map (·.1)).Nodup
 off:∀ q∈P,kt.get q.1=none
 lt:∀ q∈P,q.1 < x.n+x.i
 apart:∀ q∈P,∀ j o,x.T.get j≠some (q.1,o)
def AP(x:SX)(P:Lp)(s s':zr):Prop:=s'.heap.life=s.heap.life∧∀ b o,s.heap.get? b=some o→(∀ j o',x.T.get j≠some (b,o'))→b∉P.map (·.1)→s'.heap.get? b=some o
inductive o5 (p:zv) (w:zt) (kt:KT) (o:A8) (O:U→SX→Lp→Prop) (x:SX) (s:zr) (t:Thread) (k:Result→Sem Fin) (cd:Code) (pc:Pos) (rest:ze) (P:Lp):Prop
 | mk (u:U) (s':zr) (P':Lp) (go:Go p w s t s' ⟨k (o.res u x),cd,pc,rest⟩) (rep:BR kt s' (o.upd u x)) (ext:BS x (o.upd u x)) (out:O u x P') (s8:E6 kt s' (o.upd u x) P') (keep:AP (o.upd u x) P s s') (new:∀ q∈P',q.1∈P.map (·.1)∨s.heap.objs.size≤q.1) (sub:∀ a∈P.map (·.1),a∈P'.map (·.1)) (good:o.good u x):o5 p w kt o O x s t k cd pc rest P
def A8.qM(p:zv)(w:zt)(kt:KT)(St:Tl)(o:A8)(I:zd)(O:U→SX→Lp→Prop):Prop:=o.nt=none∧
 ∀ (c:Code) (x:SX) (s:zr) (k:Result→Sem Fin) (g:Bool) (l:zf) (cd:Code) (pc:Pos) (pN tl:ze) (P:Lp),
  eC c=o.C x→o.tr.map (fun j=>eP (x.T.get j))=o.pre x→(∀ V,o.vs x=some V→Ct cd pN=V)→qw o.ld pN=true→H7 St tl→(∀ u,o.ok u x=true)→BR kt s x→(∀ f,o.tC=some f→Fu c=f x)→(∀ g,o.gp=some g→x.gens=g)→I P→E6 kt s x P→o5 p w kt o O x s ⟨denote table c,c,pc,.ret k none g l cd pc []::(pN++tl)⟩ k cd pc (pN++tl) P
def A8.qB(p:zv)(w:zt)(kt:KT)(St:Tl)(o:A8)(I O:zd):Prop:=o.qM p w kt St I fun q q=>O
inductive eH (p:zv) (w:zt) (kt:KT) (o:A8) (X Y:Sem Fin) (x:SX) (s:zr) (cd:Code) (ps:Pos) (pN:ze) (P:Lp):Prop
 | mk (u:U) (s':zr) (go:Go p w s ⟨X,cd,ps,pN⟩ s' ⟨Y,cd,ps,pN⟩) (rep:BR kt s' (o.upd u x)) (ext:BS x (o.upd u x)) (s8:E6 kt s' (o.upd u x) P) (keep:AP (o.upd u x) P s s') (good:o.good u x):eH p w kt o X Y x s cd ps pN P
def A8.rz(p:zv)(w:zt)(kt:KT)(St:Tl)(o:A8)(I:zd):Prop:=∃ nt,o.nt=some nt∧
 ∀ (x:SX) (s:zr) (cd:Code) (ps:Pos) (pN tl:ze) (P:Lp),(∀ V,o.vs x=some V→Ct cd pN=V)→(∀ q,nt.ps=some q→ps=q)→H7 St tl→(∀ u,o.ok u x=true)→o.tr.map (fun j=>eP (x.T.get j))=o.pre x→BR kt s x→I P→E6 kt s x P→eH p w kt o (nt.X x) (nt.Y x) x s cd ps (pN++tl) P
section
variable{p:zv}{w:zt}{kt:KT}
theorem E6.keep{s s':zr}{x x':SX}{P:Lp}(h:E6 kt s x P)(X:BS x x')(K:AH x' s s'):E6 kt s' x' P:=by
 have ap:∀ q∈P,∀ j o,x'.T.get j≠some (q.1,o):=fun q m j o e=>by
  rcases X.bwd j _ _ e with ⟨o',z⟩ | z
  ·exact h.apart q m j o' z
  ·exact absurd (h.lt q m) (xK.mpr z)
 refine ⟨fun q m=>?_,h.nd,h.off,fun q m=>xr (h.lt q m) X.up,ap⟩
 obtain ⟨o,ho,eo⟩:=h.own q m
 exact ⟨o,K.2 _ _ ho (fun j o' e=>ap q m j o' e),eo⟩
theorem A8.Ok.s8{o:A8}{St:Tl}(h:o.Ok p w kt)(I:zd):o.qB p w kt St I I:=by
 refine ⟨h.1,?_⟩
 intro c x s k g l cd pc pN tl P a b _ _ _ e D tk _ hI hP
 obtain ⟨u,s',go,D',X,K,G⟩:=h.2 c x s k g l cd pc (pN++tl) a b e D tk
 exact ⟨u,s',P,go,D',X,hI,hP.keep X K,⟨K.1,fun b o hb hn z=>K.2 b o hb hn⟩,fun q m=>.inl (vo m),fun z m=>m,G⟩
theorem AP.of{x:SX}{P:Lp}{s s':zr}(h:AH x s s'):AP x P s s':=⟨h.1,fun b o a c q=>h.2 b o a c⟩
theorem AP.ext{x x':SX}{P:Lp}{s s₁:zr}(h:AP x P s s₁)(k:BS x x'):AP x' P s s₁:=⟨h.1,fun b o e q n=>h.2 b o e (fun j o' z=>let ⟨sy,z'⟩:=k.fwd j b o' z; q j sy z') n⟩
theorem AP.trans{x:SX}{P P₁:Lp}{s s₁ s₂:zr}(h:AP x P s s₁)(hn:∀ q∈P₁,q.1∈P.map (·.1)∨s.heap.objs.size≤q.1)(k:AP x P₁ s₁ s₂):AP x P s s₂:=
 ⟨k.1.trans h.1,fun b o e q n=>k.2 b o (h.2 b o e q n) q fun m=>by
  obtain ⟨z,hz,rfl⟩:=wC.mp m
  rcases hn z hz with a | a
  ·exact n a
  ·exact absurd (xm e) (xK.mpr a)⟩
end
end
def Spec.pq(S:Spec):Lp:=S.ad.zip S.pre
def Spec.pV(S:Spec)(A:zo):Lp:=S.ad.zip (S.ch A)++((List.range (S.nw A).length).map A).zip (S.nw A)
inductive Wd (S:Spec) (O:zd) (P:Lp) (e:End) (L':Lp):Prop
 | mk (A:zo) (P':Lp) (out:O P') (sub:∀ a∈P.map (·.1),a∈P'.map (·.1)) (he:e=S.fin A) (hL:L'=S.pV A++P'):Wd S O P e L'
def Spec.pP(S:Spec)(w:zt)(Sh:Pos→ze→Prop)(I O:zd):Prop:=
 ∀ P,I P→DZ w Sh S.C (fun L=>L=S.pq++P) (Wd S O P)
abbrev Spec.PO(S:Spec)(w:zt)(b b2:Bool)(n:Nat)(St:zc)(I O:zd):Prop:=S.pP (wf w b b2) (Al ⟨n,St⟩) I O
abbrev Spec.PI(S:Spec)(w:zt)(b b2:Bool)(n:Nat)(St:zc)(I:zd):Prop:=S.PO w b b2 n St I I
section
theorem IT{h:Heap}{ad:zl}:∀ {pre:List Obj},ad.length=pre.length→(∀ q∈ad.zip pre,∃ o,h.get? q.1=some o∧eO o=q.2)→∃ os:List Obj,os.map eO=pre∧∀ q∈ad.zip os,h.get? q.1=some q.2:=by
 induction ad with
 | nil=>intro pre e k; cases pre with
  | nil=>exact ⟨[],rfl,fun z m=>nomatch m⟩
  | cons _ _=>cases e
 | cons a ad ih=>intro pre e k; cases pre with
  | nil=>cases e
  | cons p pre=>
   obtain ⟨o,h1,h2⟩:=k _ (.head _)
   obtain ⟨os,e1,e2⟩:=ih (zV e) fun q m=>k q (.tail _ m)
   refine ⟨o::os,Gk h2 e1,fun q m=>?_⟩
   cases m with
   | head=>exact h1
   | tail _ m=>exact e2 q m
theorem Bs{x:SX}{j a:Nat}{o:Obj}(h:x.T.get j=some (a,o)):A4 x j=a:=by unfold A4; rw [h]
theorem Kk{z:Option (Nat×Obj)}{q:Nat×Obj}(h:eP z=some q):∃ o,z=some (q.1,o)∧eO o=q.2:=by
 cases z with
 | none=>cases h
 | some z=>cases h; exact ⟨z.2,rfl,rfl⟩
section
variable{x:SX}{tr:zl}{L:Lp}(e:tr.map (fun j=>eP (x.T.get j))=L.map some)
include e
theorem Hr{q:Nat×Obj}(m:q∈L):∃ j∈tr,∃ o,x.T.get j=some (q.1,o)∧eO o=q.2:=
 have ⟨j,hj,h⟩:=wC.mp (e ▸ vo m)
 ⟨j,hj,Kk h⟩
theorem Fc{j:Nat}(m:j∈tr):∃ o,x.T.get j=some (A4 x j,o)∧(A4 x j,eO o)∈L:=by
 have m:=vo (f:=fun j=>eP (x.T.get j)) m
 rw [e] at m
 obtain ⟨q,hq,h⟩:=wC.mp m
 obtain ⟨o,g,h⟩:=Kk h.symm
 rw [Bs g]
 exact ⟨o,g,by rw [h]; exact hq⟩
theorem Jr:tr.map (A4 x)=L.map (·.1):=by
 induction tr generalizing L with
 | nil=>cases L with | nil=>rfl | cons _ _=>cases e
 | cons j tr ih=>
  cases L with
  | nil=>cases e
  | cons q L=>
   obtain ⟨o,g,_⟩:=Kk (wB e).1
   exact Gk (Bs g) (ih (wB e).2)
theorem Wy{kt:KT}{s:zr}(D:BR kt s x){i a:Nat}{o:Obj}(g:x.T.get i=some (a,o))(n:i∉tr):a∉L.map (·.1):=fun m=>by
 obtain ⟨q,hq,rfl⟩:=wC.mp m
 obtain ⟨j,hj,o',g',_⟩:=Hr e hq
 exact n (D.apart _ _ _ _ _ g g' ▸ hj)
theorem PV{kt:KT}{s:zr}{P:Lp}(D:BR kt s x)(hP:E6 kt s x P)(nd:tr.Nodup):BA kt s (L++P):=by
 refine ⟨D.top,fun q m=>?_,?_,fun q m=>?_⟩
 ·rcases wY.mp m with m | m
  ·obtain ⟨j,_,o,g,h⟩:=Hr e m
   exact ⟨o,D.own _ _ _ g,h⟩
  ·exact hP.own q m
 ·rw [vl,← Jr e]
  have nd2:(tr.map (A4 x)).Nodup:=List.pairwise_map.mpr (nd.imp_of_mem fun {a b} ha hb n h=>n (by
   obtain ⟨o,h1,_⟩:=Fc e ha
   obtain ⟨o',h2,_⟩:=Fc e hb
   rw [← h] at h2
   exact D.apart _ _ _ _ _ h1 h2))
  refine x5.mpr ⟨nd2,hP.nd,fun a ha b hb h=>?_⟩
  ·obtain ⟨j,hj,rfl⟩:=wC.mp ha
   obtain ⟨o,g,_⟩:=Fc e hj
   obtain ⟨q,hq,h'⟩:=wC.mp hb
   exact hP.apart q hq j o (by rw [h',← h]; exact g)
 ·rcases wY.mp m with m | m
  ·obtain ⟨j,_,o,g,h⟩:=Hr e m
   exact D.off _ _ _ g
  ·exact hP.off q m
end
inductive pJ (kt:KT) (s:zr) (L P:Lp) (x:SX):Prop
 | mk (D:BR kt s x) (hP:E6 kt s x P) (sub:∀ j a o,x.T.get j=some (a,o)→a∈L.map (·.1))
theorem LM{kt:KT}{s:zr}{ad:zl}{pre os:List Obj}{P:Lp}(HL:BA kt s (ad.zip pre++P))(hl:ad.length=pre.length)(sE:os.map eO=pre)(own:∀ q∈ad.zip os,s.heap.get? q.1=some q.2):pJ kt s (ad.zip pre) P ⟨OC pre.length (ad.zip os),pre.length,s.heap.objs.size,0,s.gens,s.drawn,s.toks,0,s.os⟩:=by
 have lo:os.length=ad.length:=by rw [hl,← sE,vh]
 have lz:(ad.zip os).length=pre.length:=by rw [zY,lo,Nat.min_self,hl]
 have get:∀ j,(OC pre.length (ad.zip os)).get j=(ad.zip os)[j]?:=fun j=>I3 _ _ _ (wx lz)
 have fz:(ad.zip pre).map (·.1)=ad:=wm (wx hl)
 have HN:=HL.nd
 rw [vl,fz] at HN
 have HN:=x5.mp HN
 have sub:∀ j a o,(OC pre.length (ad.zip os)).get j=some (a,o)→a∈ad:=fun j a o h=>(List.of_mem_zip (wW (get j ▸ h))).1
 have adj:∀ {j a o},(OC pre.length (ad.zip os)).get j=some (a,o)→ad[j]?=some a:=fun {j a o} h=>(List.getElem?_zip_eq_some.mp ((get j).symm.trans h)).1
 refine ⟨⟨rfl,fun j a o h=>own _ (wW (get j ▸ h)),fun j j' a o o' h h'=>?_,fun j z h=>?_,HL.top,fun j a o h=>?_,rfl,rfl,rfl,rfl⟩,⟨HL.right.own,HL.right.nd,HL.right.off,fun q m=>HL.right.lt m,fun q m j o h=>?_⟩,fun j a o h=>by rw [fz]; exact sub j a o h⟩
 ·obtain ⟨p1,e1⟩:=wA.mp (adj h)
  obtain ⟨p2,e2⟩:=wA.mp (adj h')
  exact HX HN.1 p1 p2 (e1.trans e2.symm)
 ·have h:=(wA.mp ((get j).symm.trans h)).1
  rw [lz] at h; exact h
 ·have m:=sub j a o h
  rw [← fz] at m
  obtain ⟨q,hq,rfl⟩:=wC.mp m
  exact HL.off q (vq _ hq)
 ·exact HN.2.2 _ (sub j _ o h) _ (vo m) rfl
theorem Og{r:R}{pd:zl}{n:Nat}(h:n=pd.length):(List.range n).map (FV pd r)=pd.map (A4 r.x):=by
 subst h
 refine zS (by rw [vh,vh,y8]) fun i h1 h2=>?_
 rw [yb,yb,List.getElem_range]
 rw [vh] at h2
 unfold FV
 rw [w0 h2]
 rfl
theorem Of{x:SX}:∀ {pd:zl} {nw:List Obj},pd.map (fun j=>eQ (x.T.get j))=nw.map some→pd.map (fun j=>eP (x.T.get j))=((pd.map (A4 x)).zip nw).map some
 | [],[],_=>rfl
 | [],_::_,h=>nomatch h
 | _::_,[],h=>nomatch h
 | j::pd,o::nw,h=>by
  refine Gk ?_ (Of (wB h).2)
  have h:=(wB h).1
  unfold A4
  dsimp only at h ⊢
  cases hz:x.T.get j with
  | none=>rw [hz] at h; cases h
  | some z=>rw [hz] at h; cases h; rfl
inductive eM (w:zt) (kt:KT) (S:Spec) (tr:zl) (A:zo) (x1 y:SX) (cd:Code) (s1:zr) (t1:Thread) (pN:ze) (gens:zk) (drawn:Drawn) (os:OsState):Prop
 | mk (e:End) (s2:zr) (r8:Pos) (go:Go pw w s1 t1 s2 ⟨e.tY,cd,r8,pN⟩) (he:eE e=S.fin A) (D:BR kt s2 y) (K:AH y s1 s2) (X:BS x1 y) (vW:tr.map (fun j=>eP (y.T.get j))=(S.pV A).map some) (e6:s2.gens=gens) (e7:s2.drawn=drawn) (e8:s2.os=os):eM w kt S tr A x1 y cd s1 t1 pN gens drawn os
theorem Z3{w:zt}{kt:KT}{tl:ze}{x1:SX}{r:R}{s1:zr}{t1:Thread}{S:Spec}{m:zl}{pd:zl}{gens:zk}{drawn:Drawn}{os:OsState}(S1:Cj pw w kt tl x1 r s1 t1)(E:Ov m pd r=NM S pd gens drawn os r):eM w kt S (m++pd) (FV pd r) x1 r.x r.cd s1 t1 tl gens drawn os:=by
 have e1:r.ry=r.ru:=vm (fun x=>x.1) E
 have e2:nv r.end?=some (S.fin (FV pd r)):=vm (fun x=>x.2.1) E
 have e3:m.map (fun j=>eP (r.x.T.get j))=(S.ad.zip (S.ch (FV pd r))).map some:=vm (fun x=>x.2.2.1) E
 have e4:pd.map (fun j=>eQ (r.x.T.get j))=(S.nw (FV pd r)).map some:=vm (fun x=>x.2.2.2.1) E
 have e5:r.pN=[]:=vm (fun x=>x.2.2.2.2.1) E
 have e6:r.x.gens=gens:=vm (fun x=>x.2.2.2.2.2.1) E
 have e7:r.x.drawn=drawn:=vm (fun x=>x.2.2.2.2.2.2.1) E
 have e8:r.x.os=os:=vm (fun x=>x.2.2.2.2.2.2.2) E
 clear E
 cases hq:r.end? with
 | none=>rw [hq] at e2; cases e2
 | some e=>
  rw [hq] at e2
  obtain ⟨X2,s2,r8,go2,D2,K2⟩:=Z' S1 e1 hq
  have hn:=vm List.length e4
  rw [vh,vh] at hn
  rw [e5] at go2
  exact ⟨e,s2,r8,go2,x8 e2,D2,K2,X2,by unfold Spec.pV; rw [vl,e3,Of e4,Og hn.symm,vl],D2.gens.trans e6,D2.drawn.trans e7,D2.os.trans e8⟩
theorem pA(n0 t0 r0:Nat)(A:zo)(q1 q2:Nat→Dr)(d1 d2:Nat→zu):∃ u:U,(u.n 0 0=n0∧u.n 0 1=t0∧u.n 0 2=r0)∧(fun k=>u.n 0 (3+k))=A∧(fun j=>(u.n (2*j+1),u.z (2*j)))=q1∧(fun j=>(u.n (2*j+2),u.z (2*j+1)))=q2∧(fun j=>u.d (2*j))=d1∧(fun j=>u.d (2*j+1))=d2:=by
 obtain ⟨q,e1,e2⟩:=eY q1 q2
 obtain ⟨d,e3,e4⟩:=eY d1 d2
 exact ⟨⟨fun j i=>Nat.casesOn (motive:=fun y=>Nat) j (Nat.casesOn (motive:=fun y=>Nat) i n0 fun i=>Nat.casesOn (motive:=fun y=>Nat) i t0 fun i=>Nat.casesOn (motive:=fun y=>Nat) i r0 A) fun j=>(q j).1 i,d,fun j=>(q j).2⟩,⟨rfl,rfl,rfl⟩,funext fun k=>by rw [yH]; rfl,e1,e2,e3,e4⟩
theorem XX{w:zt}{s:zr}{e:End}{cd qF:Code}{pos pc:Pos}{k:Result→Sem Fin}{g:Bool}{l:zf}{rest:ze}(h:CZ (eE e)=true):∃ t,Go pw w s ⟨e.tY,qF,pos,Frame.ret k none g l cd pc []::rest⟩ s ⟨k (LL t (eE e)),cd,pc,rest⟩:=by
 cases e with
 | err v=>exact ⟨0,Ur⟩
 | fin f=>cases f with
  | again c=>cases h
  | done f=>cases f with
   | ret v=>exact ⟨Hq v,by rw [show LL (Hq v) (eE (.fin (.done (.ret v))))=.ok (.ret v) from vm (fun v=>Except.ok (Flow.ret v)) (EZ v)]; exact B'⟩
   | _=>exact ⟨0,B'⟩
inductive dr (x:SX) (tr:zl) (os:List Obj) (nl:Lp) (i a:Nat) (o:Obj):Prop
 | new (lo:x.m≤i) (k:nl[i-x.m]?=some (a,o))
 | uX (o0:Obj) (g:x.T.get i=some (a,o0)) (m:(a,o)∈(tr.map (A4 x)).zip os)
 | old (g:x.T.get i=some (a,o)) (n:i∉tr)
theorem gP{x:SX}{tr:zl}{os:List Obj}{nl:Lp}(lo:os.length=tr.length)(ok:HS (Bo x.T (tr.zip os)) x.m nl=true){i a:Nat}{o:Obj}(h:(Ca (Bo x.T (tr.zip os)) x.m nl).get i=some (a,o)):dr x tr os nl i a o:=by
 rw [E2 _ _ _ _ ok] at h
 by_cases h1:x.m≤i∧i < x.m+nl.length
 ·rw [wD h1] at h; exact .new h1.1 h
 ·rw [w2 h1] at h
  obtain ⟨o0,g1,g2 | ⟨g2,g3⟩⟩:=G6 _ _ _ _ _ h
  ·refine .uX o0 g1 ?_
   rw [List.zip_map_left]
   exact wC.mpr ⟨_,g2,vm (Prod.mk · o) (Bs g1)⟩
  ·rw [wm (wx lo.symm)] at g2
   exact .old (g3 ▸ g1) g2
inductive m9 (kt:KT) (s s':zr) (x y:SX) (P P':Lp):Prop
 | mk (D:BR kt s' y) (X:BS x y) (hP:E6 kt s' y P') (K:AP y P s s') (new:∀ q∈P',q.1∈P.map (·.1)∨s.heap.objs.size≤q.1)
theorem Rv{ge:zk→zk}{kt:KT}{s s':zr}{x:SX}{tr:zl}{os:List Obj}{L M N nl P P':Lp}(D:BR kt s x)(hP:E6 kt s x P)(e:tr.map (fun j=>eP (x.T.get j))=L.map some)(lo:os.length=tr.length)(H:BA kt s' ((M++N)++P'))(f1:M.map (·.1)=tr.map (A4 x))(n1:∀ q∈(tr.map (A4 x)).zip os,s'.heap.get? q.1=some q.2)(f2:N.map (·.1)=nl.map (·.1))(n2:∀ q∈nl,s'.heap.get? q.1=some q.2)(F:Zr ge s s' (L++P) ((M++N)++P'))(sub:∀ a∈P.map (·.1),a∈P'.map (·.1))(ok:HS (Bo x.T (tr.zip os)) x.m nl=true)(sz:s.heap.objs.size≤s'.heap.objs.size) :
  m9 kt s s' x ⟨Ca (Bo x.T (tr.zip os)) x.m nl,x.m+nl.length,s'.heap.objs.size,0,ge x.gens,x.drawn,s'.toks,0,x.os⟩ P P':=by
 have HN:=H.nd
 rw [vl,vl,f1,f2] at HN
 have ⟨HM,_,dP⟩:=x5.mp HN
 have ⟨_,nN,dN⟩:=x5.mp HM
 clear HN HM
 have el:=Jr e
 have inP:∀ {a:Nat},a∈(L++P).map (·.1)→a∈tr.map (A4 x)∨a∈P.map (·.1):=fun m=>by rw [vl,← el] at m; exact wY.mp m
 have fresh:∀ q∈nl,s.heap.objs.size≤q.1∧kt.get q.1=none:=fun q m=>by
  have m:=vo (f:=fun z:Nat×Obj=>z.1) m
  have m2:=m
  rw [← f2] at m2
  obtain ⟨q',hq,h⟩:=wC.mp m2
  have hq:=vq P' (vt M hq)
  rw [← h] at m ⊢
  refine ⟨(F.new q' hq).elim (fun a=>(inP a).elim (fun a=>absurd rfl (dN _ a _ m)) fun a=>absurd rfl (dP _ (vt _ m) _ (sub _ a))) id,H.off q' hq⟩
 have nk:∀ {i a:Nat} {o:Obj},nl[i-x.m]?=some (a,o)→(a,o)∈nl:=wW
 have offP:∀ {i a o},x.T.get i=some (a,o)→a∉P.map (·.1):=fun {i a o} h m=>by
  obtain ⟨z,hz,rfl⟩:=wC.mp m
  exact hP.apart z hz _ _ h
 have kept:∀ {i a o},x.T.get i=some (a,o)→i∉tr→a∉(L++P).map (·.1):=fun h n m=>(inP m).elim (el ▸ Wy e D h n) (offP h)
 have old:∀ {i a o},x.T.get i=some (a,o)→a < s.heap.objs.size:=fun h=>xm (D.own _ _ _ h)
 have W:=@gP x tr os nl lo ok
 have T:∀ {i a o},(Ca (Bo x.T (tr.zip os)) x.m nl).get i=some (a,o)→(x.m≤i∧nl[i-x.m]?=some (a,o))∨∃ o0,x.T.get i=some (a,o0):=fun h=>by
  rcases W h with ⟨lo,k⟩ | ⟨o0,g,m⟩ | ⟨g,n⟩
  ·exact .inl ⟨lo,k⟩
  ·exact .inr ⟨_,g⟩
  ·exact .inr ⟨_,g⟩
 have fwd:∀ j a o,x.T.get j=some (a,o)→∃ o',(Ca (Bo x.T (tr.zip os)) x.m nl).get j=some (a,o'):=fun j a o h=>by
  rw [E2 _ _ _ _ ok,w2 fun q=>absurd (D.low _ _ h) (xK.mpr q.1)]
  exact G7 _ _ _ _ _ h
 refine ⟨⟨rfl,fun i a o h=>?_,fun i j a o o' h h'=>?_,fun i z h=>?_,H.top,fun i a o h=>?_,F.gens.trans (vm ge D.gens),F.drawn.trans D.drawn,rfl,F.os.trans D.os⟩,⟨fwd,fun i a o h=>?_,?_⟩,⟨H.right.own,H.right.nd,H.right.off,fun q m=>H.right.lt m,fun q m j o h=>?_⟩,⟨F.life,fun b o hb hn v7=>F.old b o hb fun m=>(inP m).elim (fun m=>?_) v7⟩,fun q m=>(F.new q (vt _ m)).imp (fun a=>(inP a).elim (fun a=>absurd rfl (dP _ (vq _ a) _ (vo m))) id) id⟩
 ·rcases W h with ⟨_,k⟩ | ⟨o0,g,m⟩ | ⟨g,n⟩
  ·exact n2 _ (nk k)
  ·exact n1 _ m
  ·exact F.old a o (D.own _ _ _ g) (kept g n)
 ·rcases T h with ⟨k1,h⟩ | ⟨o0,h⟩<;>rcases T h' with ⟨k2,h'⟩ | ⟨o1,h'⟩
  ·obtain ⟨p1,e1⟩:=wA.mp h
   obtain ⟨p2,e2⟩:=wA.mp h'
   have:=HX nN (i:=i-x.m) (j:=j-x.m) (by rw [vh]; exact p1) (by rw [vh]; exact p2) (by rw [yb,yb,e1,e2])
   rw [← zH k1,this,zH k2]
  ·exact absurd (old h') (xK.mpr (fresh _ (nk h)).1)
  ·exact absurd (old h) (xK.mpr (fresh _ (nk h')).1)
  ·exact D.apart _ _ _ _ _ h h'
 ·obtain ⟨a,o⟩:=z
  show i < x.m+nl.length
  rcases T h with ⟨k1,h⟩ | ⟨o0,h⟩
  ·exact (Nat.sub_lt_iff_lt_add' k1).mp (wA.mp h).1
  ·exact xr (D.low _ _ h) (xo _ _)
 ·rcases T h with ⟨_,h⟩ | ⟨o0,h⟩
  ·exact (fresh _ (nk h)).2
  ·exact D.off _ _ _ h
 ·rcases T h with ⟨_,h⟩ | h
  ·exact .inr (D.size ▸ (fresh _ (nk h)).1)
  ·exact .inl h
 ·exact D.size ▸ sz
 ·have m':=vo (f:=fun z:Nat×Obj=>z.1) m
  rcases W h with ⟨_,h⟩ | ⟨o0,g,h⟩ | ⟨g,n⟩
  ·exact dP _ (vt _ (vo (nk h))) _ m' rfl
  ·exact dP _ (vq _ (List.of_mem_zip h).1) _ m' rfl
  ·exact (F.new q (vt _ m)).elim (kept g n) fun a=>absurd (old g) (xK.mpr a)
 ·obtain ⟨j,hj,rfl⟩:=wC.mp m
  obtain ⟨o2,g,_⟩:=Fc e hj
  obtain ⟨o',h⟩:=fwd _ _ _ g
  exact hn j o' h
end
section
inductive Wc {Z:Type} (F:Z→Spec) (φ:Z→(Nat→Nat)→Prop) (O:zd) (P:Lp) (e:End) (L':Lp):Prop
 | mk (z:Z) (A:zo) (P':Lp) (hz:φ z A) (out:O P') (sub:∀ a∈P.map (·.1),a∈P'.map (·.1)) (he:e=(F z).fin A) (hL:L'=(F z).pV A++P'):Wc F φ O P e L'
def Spec.px{Z:Type}(F:Z→Spec)(φ:Z→(Nat→Nat)→Prop)(S:Spec)(w:zt)(Sh:Pos→ze→Prop)(I O:zd):Prop:=
 ∀ P,I P→DZ w Sh S.C (fun L=>L=S.pq++P) (Wc F φ O P)
inductive QK {Z:Type} (F:Z→Spec) (O:Z→(Nat→Nat)→Lp→Prop) (P:Lp) (e:End) (L':Lp):Prop
 | mk (z:Z) (A:zo) (P':Lp) (out:O z A P') (sub:∀ a∈P.map (·.1),a∈P'.map (·.1)) (he:e=(F z).fin A) (hL:L'=(F z).pV A++P'):QK F O P e L'
def Spec.qh{Z:Type}(gi:zk→Prop)(go:zk→zk)(F:Z→Spec)(O:Z→(Nat→Nat)→Lp→Prop)(S:Spec)(w:zt)(Sh:Pos→ze→Prop)(I:zd):Prop:=
 ∀ P,I P→Fb gi go w Sh S.C (fun L=>L=S.pq++P) (QK F O P)
def Spec.pW{Z:Type}(F:Z→Spec)(O:Z→(Nat→Nat)→Lp→Prop)(S:Spec)(w:zt)(Sh:Pos→ze→Prop)(I:zd):Prop:=
 ∀ P,I P→DZ w Sh S.C (fun L=>L=S.pq++P) (QK F O P)
theorem A8.qM.mono{p:zv}{w:zt}{kt:KT}{St:Tl}{o:A8}{I I':zd}{O O':U→SX→Lp→Prop}(h:o.qM p w kt St I O)(hi:∀ P,I' P→I P)(ho:∀ u x P,o.good u x→O u x P→O' u x P):o.qM p w kt St I' O':=by
 refine ⟨h.1,fun c x s k g l cd pc pN tl P hc hp hv hq ht qW D tk sU hI hP=>?_⟩
 obtain ⟨u,s',P',go,D',X,hO,hP',K,N,sub,G⟩:=h.2 c x s k g l cd pc pN tl P hc hp hv hq ht qW D tk sU (hi _ hI) hP
 exact ⟨u,s',P',go,D',X,ho _ _ _ G hO,hP',K,N,sub,G⟩
def GH(ld:Bool)(gp:Option (zk))(ge:zk→zk)(vs:SX→Option (List Vw))(tr:zl)(fl fn:List Bool)(S:SX→Spec)(gd:U→SX→Prop):A8:={ J3 gp ge vs tr fl fn S with good:=gd,ld:=ld }
def J5:=GH false
def I2:=J5 none id
def KI{Z:Type}(vs:SX→Option (List Vw))(tr:zl)(fl fn:List Bool)(S:SX→Spec)(F:SX→Z→Spec)(φ:Z→(Nat→Nat)→Prop):A8:=I2 vs tr fl fn S (fun u x=>(∃ z,φ z (fun k=>u.n 0 (3+k))∧GI (fun j=>u.d (2*j)) fl 0 ((F x z).ch (fun k=>u.n 0 (3+k))))∧GI (fun j=>u.d (2*j+1)) fn 0 ((S x).nw (fun k=>u.n 0 (3+k))))
def O9(vs:SX→Option (List Vw))(tr:zl)(fl fn:List Bool)(S:SX→Spec):A8:=I2 vs tr fl fn S (fun u x=>GI (fun j=>u.d (2*j+1)) fn 0 ((S x).nw (fun k=>u.n 0 (3+k))))
def KJ{Z:Type}(vs:SX→Option (List Vw))(tr:zl)(fl fn:List Bool)(S:SX→Spec)(F:SX→Z→Spec):A8:=I2 vs tr fl fn S (fun u x=>(∃ z,GI (fun j=>u.d (2*j)) fl 0 ((F x z).ch (fun k=>u.n 0 (3+k))))∧GI (fun j=>u.d (2*j+1)) fn 0 ((S x).nw (fun k=>u.n 0 (3+k))))
theorem Nw{l:ze}(h:qv l=true):qt l=true∧l.length≤9:=(vz.mp h).imp id w8
theorem NR{St Sf:Tl}{pN tl:ze}{k:Result→Sem Fin}{g:Bool}{l:zf}{cd:Code}{pc:Pos}(hq:qv pN=true)(ht:H7 St tl)(hl:Nat.ble (St.l+1) Sf.l=true)(h:Sf.P (Ct cd pN++QR tl)):H7 Sf (.ret k none g l cd pc []::(pN++tl)):=by
 obtain ⟨q1,q2⟩:=Nw hq
 refine ⟨Ny q1 ht.qt,?_,?_⟩
 ·have e:QR (Frame.ret k none g l cd pc []::(pN++tl))=Ct cd pN++QR tl:=by simp only [QR,Ct,vu,vl,yE]; rfl
  rw [e]; exact h
 ·have:=ht.len
  have:=w8 hl
  rw [vr,vn]
  lia
theorem CP{St:Tl}{vs:SX→Option (List Vw)}:∀ x k g l cd pc pN tl,qv pN=true→H7 St tl→(∀ V,vs x=some V→Ct cd pN=V)→Eh pc (.ret k none g l cd pc []::(pN++tl)):=
 fun q k g l cd q pN tl hq ht q=>⟨Ny (Nw hq).1 ht.qt,k,g,l,cd,pN++tl,rfl⟩
theorem CO{St:Tl}{n:Nat}{vs:SX→Option (List Vw)}(hl:Nat.ble (St.l+1) n=true):∀ x k g l cd pc pN tl,qv pN=true→H7 St tl→(∀ V,vs x=some V→Ct cd pN=V)→Al ⟨n,fun q=>True⟩ pc (.ret k none g l cd pc []::(pN++tl)):=
 fun q q q q q q q q hq ht q=>NR hq ht hl trivial
theorem BK{St:Tl}{n:Nat}{Sf:SX→List Vw→Prop}{V:SX→List Vw}(hl:Nat.ble (St.l+1) n=true)(h:∀ x Vt,St.P Vt→Sf x (V x++Vt)):∀ x k g l cd pc pN tl,qv pN=true→H7 St tl→(∀ V',some (V x)=some V'→Ct cd pN=V')→Al ⟨n,Sf x⟩ pc (.ret k none g l cd pc []::(pN++tl)):=
 fun x q q q q q q q hq ht hv=>NR hq ht hl (by rw [hv _ rfl]; exact h x _ ht.st)
theorem J4{ld:Bool}{gp:Option (zk)}{ge:zk→zk}{gi:zk→Prop}(tM:∀ g,(∀ g',gp=some g'→g=g')→gi g){Z:Type}{w:zt}{Sf:SX→Pos→ze→Prop}{I:zd}{St:Tl}{vs:SX→Option (List Vw)}{tr:zl}{fl fn:List Bool}{S:SX→Spec}{F0:SX→Z→Spec}{O:SX→Z→(Nat→Nat)→Lp→Prop}{gd:U→SX→Prop}(hG:∀ u x z P,GI (fun j=>u.d (2*j)) fl 0 ((F0 x z).ch (fun k=>u.n 0 (3+k)))→GI (fun j=>u.d (2*j+1)) fn 0 ((F0 x z).nw (fun k=>u.n 0 (3+k)))→O x z (fun k=>u.n 0 (3+k)) P→gd u x)(T:∀ x,Spec.qh gi ge (F0 x) (O x) (S x) w (Sf x) I)(hF:∀ x z,(F0 x z).fin=(S x).fin∧(F0 x z).ad=(S x).ad)(tQ:∀ x z A q d,Ft q d fn 0 ((F0 x z).nw A)=Ft q d fn 0 ((S x).nw A))(tP:∀ x z A,((F0 x z).nw A).length=((S x).nw A).length)(sH:∀ x z A q d,Ft q d fl 0 ((F0 x z).ch A)=Ft q d fl 0 ((S x).ch A))(rP:∀ x k g l cd pc pN tl,qw ld pN=true→H7 St tl→(∀ V,vs x=some V→Ct cd pN=V)→Sf x pc (.ret k none g l cd pc []::(pN++tl)))(nd:tr.Nodup)(hl:∀ x,(S x).ad.length=tr.length∧(S x).pre.length=tr.length∧∀ z A,((F0 x z).ch A).length=tr.length)(hd:∀ x A,CZ ((S x).fin A)=true):(GH ld gp ge vs tr fl fn S gd).qM pw w (A5 w.2) St I (fun u x P'=>∃ z,GI (fun j=>u.d (2*j)) fl 0 ((F0 x z).ch (fun k=>u.n 0 (3+k)))∧GI (fun j=>u.d (2*j+1)) fn 0 ((F0 x z).nw (fun k=>u.n 0 (3+k)))∧O x z (fun k=>u.n 0 (3+k)) P'):=by
 refine ⟨rfl,?_⟩
 intro c x s k g l cd pc pN tl P hc hp hv hqs ht qW D _ sU hI hP
 have hp:tr.map (fun j=>eP (x.T.get j))=((S x).ad.zip (S x).pre).map some:=hp
 obtain ⟨l1,l2,l3⟩:=hl x
 obtain ⟨e,s',L',qF,pos',go,⟨z,A,P',hO,sub,he,eL⟩,H',F⟩:=T x P hI c s pc (.ret k none g l cd pc []::(pN++tl)) _ rfl hc (PV hp D hP nd) (rP x k g l cd pc pN tl hqs ht hv) (by rw [D.gens]; exact tM _ sU)
 subst eL
 obtain ⟨hF1,hF2⟩:=hF x z
 rw [hF1] at he
 unfold Spec.pV at H' F
 rw [hF2] at H' F
 have ea:tr.map (A4 x)=(S x).ad:=(Jr hp).trans (wm (by rw [l1,l2]; exact vp _))
 obtain ⟨rK,hch,n1⟩:=IT (h:=s'.heap) (l1.trans (l3 z A).symm) fun q m=>H'.own q (vq _ (vq _ m))
 obtain ⟨os'',hnw,n2⟩:=IT (h:=s'.heap) ((vh _).trans y8) fun q m=>H'.own q (vq _ (vt _ m))
 obtain ⟨q1,d1,hq1,ok1⟩:=Km rK fl
 obtain ⟨q2,d2,hq2,ok2⟩:=Km os'' fn
 rw [hch] at hq1 ok1
 rw [hnw] at hq2 ok2
 obtain ⟨t,gop⟩:=XX (w:=w) (s:=s') (e:=e) (cd:=cd) (qF:=qF) (pos:=pos') (pc:=pc) (k:=k) (g:=g) (l:=l) (rest:=pN++tl) (he ▸ hd x A)
 obtain ⟨u,⟨u0,ut,ur⟩,uA,u1,u2,v1,v2⟩:=pA s'.heap.objs.size s'.toks t A q1 q2 d1 d2
 have ln:((S x).nw A).length=os''.length:=by rw [← tP x z,← hnw,vh]
 have ch1:fa u fl ((S x).ch A)=rK:=by unfold fa; rw [u1,v1,← sH x z A,hq1]
 have nw1:fN u fn ((S x).nw A)=((List.range os''.length).map A).zip os'':=by unfold fN; rw [u2,v2,← tQ x z A,hq2,uA,ln]
 have hou:=qW u
 have up:(GH ld gp ge vs tr fl fn S gd).upd u x=⟨Ca (Bo x.T (tr.zip rK)) x.m (((List.range os''.length).map A).zip os''),x.m+(((List.range os''.length).map A).zip os'').length,s'.heap.objs.size,0,ge x.gens,x.drawn,s'.toks,0,x.os⟩:=by
  simp only [GH,J3]
  rw [uA,ch1,nw1,ln,u0,ut,zY,vh,y8,Nat.min_self]
 simp only [GH,J3] at hou
 rw [uA,ch1,nw1] at hou
 have lz:os''.length=((F0 x z).nw A).length:=by rw [← hnw,vh]
 rw [← lz] at n2
 obtain ⟨D2,X2,HP2,K2,N2⟩:=Rv D hP hp (by rw [← l3 z A,← hch,vh]) H' ((wm (by rw [l1,l3]; exact vp _)).trans ea.symm) (by rw [ea]; exact n1) (by rw [lz,wm (by rw [vh,y8]; exact vp _),wm (by rw [vh,y8,lz]; exact vp _)]) n2 F sub hou go.size
 refine ⟨u,s',P',?_,?_,?_,⟨z,by rw [uA,v1]; exact ok1,by rw [uA,v2]; exact ok2,by rw [uA]; exact hO⟩,?_,?_,N2,sub,hG _ _ z P' (by rw [uA,v1]; exact ok1) (by rw [uA,v2]; exact ok2) (by rw [uA]; exact hO)⟩
 ·rw [show (GH ld gp ge vs tr fl fn S gd).res u x=LL t (eE e) by simp only [GH,J3]; rw [uA,ur,he]]; exact go.trans gop
 ·rw [up]; exact D2
 ·rw [up]; exact X2
 ·rw [up]; exact HP2
 ·rw [up]; exact K2
theorem EF{gp:Option (zk)}{ge:zk→zk}{gi:zk→Prop}(tM:∀ g,(∀ g',gp=some g'→g=g')→gi g){Z:Type}{w:zt}{Sf:SX→Pos→ze→Prop}{I:zd}{St:Tl}{vs:SX→Option (List Vw)}{tr:zl}{fl fn:List Bool}{S:SX→Spec}{F0:SX→Z→Spec}{O:SX→Z→(Nat→Nat)→Lp→Prop}{gd:U→SX→Prop}(hG:∀ u x z P,GI (fun j=>u.d (2*j)) fl 0 ((F0 x z).ch (fun k=>u.n 0 (3+k)))→GI (fun j=>u.d (2*j+1)) fn 0 ((F0 x z).nw (fun k=>u.n 0 (3+k)))→O x z (fun k=>u.n 0 (3+k)) P→gd u x)(T:∀ x,Spec.qh gi ge (F0 x) (O x) (S x) w (Sf x) I)(hF:∀ x z,(F0 x z).fin=(S x).fin∧(F0 x z).ad=(S x).ad)(tQ:∀ x z A q d,Ft q d fn 0 ((F0 x z).nw A)=Ft q d fn 0 ((S x).nw A))(tP:∀ x z A,((F0 x z).nw A).length=((S x).nw A).length)(sH:∀ x z A q d,Ft q d fl 0 ((F0 x z).ch A)=Ft q d fl 0 ((S x).ch A))(rP:∀ x k g l cd pc pN tl,qv pN=true→H7 St tl→(∀ V,vs x=some V→Ct cd pN=V)→Sf x pc (.ret k none g l cd pc []::(pN++tl)))(nd:tr.Nodup)(hl:∀ x,(S x).ad.length=tr.length∧(S x).pre.length=tr.length∧∀ z A,((F0 x z).ch A).length=tr.length)(hd:∀ x A,CZ ((S x).fin A)=true):(J5 gp ge vs tr fl fn S gd).qM pw w (A5 w.2) St I (fun u x P'=>∃ z,GI (fun j=>u.d (2*j)) fl 0 ((F0 x z).ch (fun k=>u.n 0 (3+k)))∧GI (fun j=>u.d (2*j+1)) fn 0 ((F0 x z).nw (fun k=>u.n 0 (3+k)))∧O x z (fun k=>u.n 0 (3+k)) P'):=
 J4 (ld:=false) tM hG T hF tQ tP sH rP nd hl hd
theorem Bw{Z:Type}{w:zt}{Sf:SX→Pos→ze→Prop}{I:zd}{St:Tl}{vs:SX→Option (List Vw)}{tr:zl}{fl fn:List Bool}{S:SX→Spec}{F0:SX→Z→Spec}{O:SX→Z→(Nat→Nat)→Lp→Prop}{gd:U→SX→Prop}(hG:∀ u x z P,GI (fun j=>u.d (2*j)) fl 0 ((F0 x z).ch (fun k=>u.n 0 (3+k)))→GI (fun j=>u.d (2*j+1)) fn 0 ((F0 x z).nw (fun k=>u.n 0 (3+k)))→O x z (fun k=>u.n 0 (3+k)) P→gd u x)(T:∀ x,Spec.pW (F0 x) (O x) (S x) w (Sf x) I)(hF:∀ x z,(F0 x z).fin=(S x).fin∧(F0 x z).ad=(S x).ad)(tQ:∀ x z A q d,Ft q d fn 0 ((F0 x z).nw A)=Ft q d fn 0 ((S x).nw A))(tP:∀ x z A,((F0 x z).nw A).length=((S x).nw A).length)(sH:∀ x z A q d,Ft q d fl 0 ((F0 x z).ch A)=Ft q d fl 0 ((S x).ch A))(rP:∀ x k g l cd pc pN tl,qv pN=true→H7 St tl→(∀ V,vs x=some V→Ct cd pN=V)→Sf x pc (.ret k none g l cd pc []::(pN++tl)))(nd:tr.Nodup)(hl:∀ x,(S x).ad.length=tr.length∧(S x).pre.length=tr.length∧∀ z A,((F0 x z).ch A).length=tr.length)(hd:∀ x A,CZ ((S x).fin A)=true):(I2 vs tr fl fn S gd).qM pw w (A5 w.2) St I (fun u x P'=>∃ z,GI (fun j=>u.d (2*j)) fl 0 ((F0 x z).ch (fun k=>u.n 0 (3+k)))∧GI (fun j=>u.d (2*j+1)) fn 0 ((F0 x z).nw (fun k=>u.n 0 (3+k)))∧O x z (fun k=>u.n 0 (3+k)) P'):=
 EF (gi:=fun y=>True) (fun y y=>trivial) hG (fun x P hI=>(T x P hI).g) hF tQ tP sH rP nd hl hd
theorem Spec.pP.dd{S:Spec}{w:zt}{Sh:Pos→ze→Prop}{I O:zd}(h:S.pP w Sh I O):Spec.pW (fun _:Unit=>S) (fun q q P'=>O P') S w Sh I:=
 fun P hI=>(h P hI).pU (fun q e=>e) fun e L ⟨A,P',a,b,c,d⟩=>⟨(),A,P',a,b,c,d⟩
theorem Ab{w:zt}{Sf:SX→Pos→ze→Prop}{I O:zd}{St:Tl}{vs:SX→Option (List Vw)}{tr:zl}{fl fn:List Bool}{S:SX→Spec}(T:∀ x,(S x).pP w (Sf x) I O)(rP:∀ x k g l cd pc pN tl,qv pN=true→H7 St tl→(∀ V,vs x=some V→Ct cd pN=V)→Sf x pc (.ret k none g l cd pc []::(pN++tl)))(nd:tr.Nodup)(hl:∀ x,(S x).ad.length=tr.length∧(S x).pre.length=tr.length∧∀ A,((S x).ch A).length=tr.length)(hd:∀ x A,CZ ((S x).fin A)=true):(Cm vs tr fl fn S).qB pw w (A5 w.2) St I O:=
 Bw (Z:=Unit) (F0:=fun x q=>S x) (O:=fun q q q P=>O P) (fun q q q q a b q=>⟨a,b⟩) (fun x=>(T x).dd) (fun q q=>⟨rfl,rfl⟩) (fun q q q q q=>rfl) (fun q q q=>rfl) (fun q q q q q=>rfl) rP nd (fun x=>⟨(hl x).1,(hl x).2.1,fun q=>(hl x).2.2⟩) hd |>.mono (fun q h=>h) fun _ _ _ _ ⟨_,_,_,h⟩=>h
theorem Dd{Z:Type}{w:zt}{Sf:SX→Pos→ze→Prop}{I O:zd}{St:Tl}{vs:SX→Option (List Vw)}{tr:zl}{fl fn:List Bool}{S:SX→Spec}{F0:SX→Z→Spec}{φ:Z→(Nat→Nat)→Prop}(T:∀ x,Spec.px (F0 x) φ (S x) w (Sf x) I O)(hF:∀ x z,(F0 x z).fin=(S x).fin∧(F0 x z).ad=(S x).ad∧(F0 x z).nw=(S x).nw)(sH:∀ x z A q d,Ft q d fl 0 ((F0 x z).ch A)=Ft q d fl 0 ((S x).ch A))(rP:∀ x k g l cd pc pN tl,qv pN=true→H7 St tl→(∀ V,vs x=some V→Ct cd pN=V)→Sf x pc (.ret k none g l cd pc []::(pN++tl)))(nd:tr.Nodup)(hl:∀ x,(S x).ad.length=tr.length∧(S x).pre.length=tr.length∧∀ z A,((F0 x z).ch A).length=tr.length)(hd:∀ x A,CZ ((S x).fin A)=true):(KI vs tr fl fn S F0 φ).qB pw w (A5 w.2) St I O:=
 (Bw (O:=fun y z A P=>φ z A∧O P) (fun y x z y a b h=>⟨⟨z,h.1,a⟩,by rw [(hF x z).2.2] at b; exact b⟩) (fun x P hI=>(T x P hI).pU (fun y e=>e) fun e L ⟨z,A,P',a,b,c,d,g⟩=>⟨z,A,P',⟨a,b⟩,c,d,g⟩) (fun x z=>⟨(hF x z).1,(hF x z).2.1⟩) (fun x z y y y=>by rw [(hF x z).2.2]) (fun x z y=>by rw [(hF x z).2.2]) sH rP nd hl hd).mono (fun y h=>h) fun _ _ _ _ ⟨_,_,_,h⟩=>h.2
theorem Fj{Z:Type}{w:zt}{Sf:SX→Pos→ze→Prop}{I:zd}{St:Tl}{vs:SX→Option (List Vw)}{tr:zl}{fl fn:List Bool}{S:SX→Spec}{F0:SX→Z→Spec}{O:SX→Z→(Nat→Nat)→Lp→Prop}(T:∀ x,Spec.pW (F0 x) (O x) (S x) w (Sf x) I)(hF:∀ x z,(F0 x z).fin=(S x).fin∧(F0 x z).ad=(S x).ad∧(F0 x z).nw=(S x).nw)(sH:∀ x z A q d,Ft q d fl 0 ((F0 x z).ch A)=Ft q d fl 0 ((S x).ch A))(rP:∀ x k g l cd pc pN tl,qv pN=true→H7 St tl→(∀ V,vs x=some V→Ct cd pN=V)→Sf x pc (.ret k none g l cd pc []::(pN++tl)))(nd:tr.Nodup)(hl:∀ x,(S x).ad.length=tr.length∧(S x).pre.length=tr.length∧∀ z A,((F0 x z).ch A).length=tr.length)(hd:∀ x A,CZ ((S x).fin A)=true):(O9 vs tr fl fn S).qM pw w (A5 w.2) St I (fun u x P'=>∃ z,GI (fun j=>u.d (2*j)) fl 0 ((F0 x z).ch (fun k=>u.n 0 (3+k)))∧O x z (fun k=>u.n 0 (3+k)) P'):=
 (Bw (fun y x z y a b y=>by rw [(hF x z).2.2] at b; exact b) T (fun x z=>⟨(hF x z).1,(hF x z).2.1⟩) (fun x z y y y=>by rw [(hF x z).2.2]) (fun x z y=>by rw [(hF x z).2.2]) sH rP nd hl hd).mono (fun y h=>h) fun _ _ _ _ ⟨z,a,_,h⟩=>⟨z,a,h⟩
theorem De{Z:Type}{w:zt}{Sf:SX→Pos→ze→Prop}{I:zd}{St:Tl}{vs:SX→Option (List Vw)}{tr:zl}{fl fn:List Bool}{S:SX→Spec}{F0:SX→Z→Spec}{O:SX→Z→(Nat→Nat)→Lp→Prop}(T:∀ x,Spec.pW (F0 x) (O x) (S x) w (Sf x) I)(hF:∀ x z,(F0 x z).fin=(S x).fin∧(F0 x z).ad=(S x).ad∧(F0 x z).nw=(S x).nw)(sH:∀ x z A q d,Ft q d fl 0 ((F0 x z).ch A)=Ft q d fl 0 ((S x).ch A))(rP:∀ x k g l cd pc pN tl,qv pN=true→H7 St tl→(∀ V,vs x=some V→Ct cd pN=V)→Sf x pc (.ret k none g l cd pc []::(pN++tl)))(nd:tr.Nodup)(hl:∀ x,(S x).ad.length=tr.length∧(S x).pre.length=tr.length∧∀ z A,((F0 x z).ch A).length=tr.length)(hd:∀ x A,CZ ((S x).fin A)=true):(KJ vs tr fl fn S F0).qM pw w (A5 w.2) St I (fun u x P'=>∃ z,GI (fun j=>u.d (2*j)) fl 0 ((F0 x z).ch (fun k=>u.n 0 (3+k)))∧O x z (fun k=>u.n 0 (3+k)) P'):=
 (Bw (fun y x z y a b y=>⟨⟨z,a⟩,by rw [(hF x z).2.2] at b; exact b⟩) T (fun x z=>⟨(hF x z).1,(hF x z).2.1⟩) (fun x z y y y=>by rw [(hF x z).2.2]) (fun x z y=>by rw [(hF x z).2.2]) sH rP nd hl hd).mono (fun y h=>h) fun _ _ _ _ ⟨z,a,_,h⟩=>⟨z,a,h⟩
theorem AL{w:zt}{St:Tl}{n:Nat}{I O:zd}{tr:zl}{fl fn:List Bool}{S:SX→Spec}(T:∀ x,(S x).pP w (Al ⟨n,fun q=>True⟩) I O)(nd:tr.Nodup)(hl:∀ x,(S x).ad.length=tr.length∧(S x).pre.length=tr.length∧∀ A,((S x).ch A).length=tr.length)(hd:∀ x A,CZ ((S x).fin A)=true)(hn:Nat.ble (St.l+1) n=true:=by rfl):(BU tr fl fn S).qB pw w (A5 w.2) St I O:=
 Ab (Sf:=fun q=>Al ⟨n,fun q=>True⟩) T (CO hn) nd hl hd
def CI:zh→Nat→U
 | [],_=>U0
 | u::_,0=>u
 | _::l,n+1=>CI l n
def ud(l:zh)(i j:Nat):zu:=eD ((CI l i).d j)
def un(l:zh)(i j k:Nat):Nat:=(CI l i).n j k
noncomputable def gD(D:zg)(i:Nat):zu:=D.getD i .plain
noncomputable def F8:List (zh→A8)→zh→zh→List A8
 | f::fs,l,u::us=>f l::F8 fs (u::l) us
 | _,_,_=>[]
def Ck(E:zh→Lp→Prop)(p:zv)(w:zt)(kt:KT)(St:Tl):(Lp→Prop)→List (zh→A8)→zh→Prop
 | I,[],l=>∀ P,I P→E l P
 | I,f::fs,l=>(∃ J:U→SX→Lp→Prop,(f l).qM p w kt St I J∧∀ u x,(f l).good u x→Ck E p w kt St (J u x) fs (u::l))∨((f l).rz p w kt St I∧∀ u x,(f l).good u x→Ck E p w kt St I fs (u::l))
section
variable{E:zh→Lp→Prop}{p:zv}{w:zt}{kt:KT}{St:Tl}{I:zd}{l:zh}{f:zh→A8}{fs:List (zh→A8)}
theorem Ck.nil(h:∀ P,I P→E l P):Ck E p w kt St I [] l:=h
theorem Ck.qA{J:U→SX→Lp→Prop}(h:(f l).qM p w kt St I J)(k:∀ u x,(f l).good u x→Ck E p w kt St (J u x) fs (u::l)):Ck E p w kt St I (f::fs) l:=.inl ⟨J,h,k⟩
theorem Ck.note(h:(f l).rz p w kt St I)(k:∀ u x,(f l).good u x→Ck E p w kt St I fs (u::l)):Ck E p w kt St I (f::fs) l:=.inr ⟨h,k⟩
end
def Jj(F:zh→R→Prop):List (zh→A8)→zh→R→Prop
 | [],l,r=>F l r
 | f::fs,l,r=>(∀ u,UG (f l) u r=UC (f l) r)∧∀ u,(f l).good u r.x→Jj F fs (u::l) (next (f l) u r)
theorem GB{F:zh→R→Prop}:∀ (fs:List (zh→A8)) (l:zh) (r:R),(∀ us:zh,us.length=fs.length→UE (F8 fs l us) us r=UD (F8 fs l us) us r∧F (us.reverse++l) (Gf (F8 fs l us) us r))→Jj F fs l r
 | [],l,r,h=>(h [] rfl).2
 | f::fs,l,r,h=>by
  refine ⟨fun u=>?_,fun u g=>GB fs (u::l) (next (f l) u r) fun us hu=>?_⟩
  ·exact (wB (h (u::List.replicate fs.length U0) (by simp)).1).1
  ·obtain ⟨h1,h2⟩:=h (u::us) (by simp [hu])
   refine ⟨(wB h1).2,?_⟩
   rw [x6,vj] at h2
   exact h2
theorem Vq(us:zh){n:Nat}(h:us.length=n):us=(List.range n).map fun i=>us.getD i U0:=by
 subst h
 apply zS
 ·simp
 ·intro i h1 h2
  simp [List.getD,w0 h1]
section
variable{p:zv}{w:zt}{kt:KT}{St:Tl}{tl:ze}
theorem Ck.cons{E:zh→Lp→Prop}{I J l}{f:zh→A8}{fs}(h:(f l).qB p w kt St I J)(k:∀ u x,(f l).good u x→Ck E p w kt St J fs (u::l)):Ck E p w kt St I (f::fs) l:=
 .qA (J:=fun q q=>J) h k
inductive Wf (p:zv) (w:zt) (kt:KT) (tl:ze) (E:zh→Lp→Prop) (F:zh→R→Prop) (x:SX) (s:zr) (t:Thread) (P:Lp):Prop
 | mk (z:zh) (r':R) (s':zr) (t':Thread) (x':SX) (P':Lp) (fin:F z r') (go:Go p w s t s' t') (sim:Cj p w kt tl x' r' s' t') (ext:BS x x') (out:E z P') (s8:E6 kt s' x' P') (keep:AP x' P s s') (new:∀ q∈P',q.1∈P.map (·.1)∨s.heap.objs.size≤q.1) (sub:∀ a∈P.map (·.1),a∈P'.map (·.1)):Wf p w kt tl E F x s t P
theorem Vp{o:A8}{r:R}(h:Zz o r=o.vs r.x):∀ V,o.vs r.x=some V→Ct r.cd r.pN=V:=fun V e=>by
 unfold Zz at h
 rw [e] at h
 exact x8 h
set_option tactic.hygienic true in
theorem FH(ht:H7 St tl){E:zh→Lp→Prop}{F:zh→R→Prop}:∀ {I:zd} {fs:List (zh→A8)} {l:zh},Ck E p w kt St I fs l→∀ {x:SX} {r:R} {s:zr} {t:Thread} {P:Lp},Cj p w kt tl x r s t→Jj F fs l r→I P→E6 kt s x P→
  Wf p w kt tl E F x s t P:=by
 intro I fs
 induction fs generalizing I with
 | nil=>
  intro l he x r s t P S H hI hP
  exact ⟨l,r,s,t,x,P,H,.refl,S,BS.refl x,he P hI,hP,⟨rfl,fun y y h y y=>h⟩,fun q m=>.inl (vo m),fun y m=>m⟩
 | cons f fs ih=>
  intro l0 ch x r s t P S H hI hP
  cases ch with
  | inl h=>
  obtain ⟨J,O,ch2⟩:=h
  obtain ⟨H1,H2⟩:=H
  generalize f l0=o at *
  have e0:UG o U0 r=UC o r:=H1 U0
  have eu0:∀ u,i' o u r=true:=fun u=>vm (fun x:Cq=>x.2.2.2.2.2.2.1) (H1 u)
  clear H1
  have eu:∀ u,o.ok u r.x=true:=fun u=>(vz.mp (eu0 u)).1
  have e1:r.ry=r.ru:=vm (fun x:Cq=>x.2.1) e0
  have eh:r.hd=none:=vm (fun x:Cq=>x.2.2.1) e0
  have ec:eC r.c=o.C r.x:=vm (fun x:Cq=>x.2.2.2.1) e0
  have ep:o.tr.map (fun j=>eP (r.x.T.get j))=o.pre r.x:=vm (fun x:Cq=>x.2.2.2.2.1) e0
  have es:Zz o r=o.vs r.x:=vm (fun x:Cq=>x.2.2.2.2.2.1) e0
  have etk:gn o r=gm o r:=vm (fun x:Cq=>x.2.2.2.2.2.2.2.2.1) e0
  have egp:lD o r=o.gp:=vm (fun x:Cq=>x.2.2.2.2.2.2.2.2.2) e0
  have e2:r.tag=3:=(vm (fun x:Cq=>x.1) e0).trans (by show cG o=3; unfold cG; rw [O.1])
  clear e0
  obtain ⟨X,s₁,pos,g,l,kk,go,D,K,qs,cont⟩:=S.sh e1 e2
  rw [eh] at go
  have hP1:=hP.keep X K
  obtain ⟨u,s₂,P₂,go2,D2,X2,hJ,hP2,K2,N2,Q2,G2⟩:=O.2 r.c r.x s₁ kk g l r.cd pos r.pN tl P ec ep (Vp es) (vz.mpr ⟨by have h2:=(vz.mp (eu0 U0)).2; rw [O.1] at h2; exact h2,qs⟩) ht eu D (fun f hf=>by unfold gn gm at etk; rw [hf] at etk; exact x8 etk) (fun g hg=>by unfold lD at egp; rw [hg] at egp; exact x8 egp) hI hP1
  have en:next o u r=r.k (o.res u r.x) (o.upd u r.x):=by unfold next; rw [O.1]
  have S2:Cj p w kt tl (o.upd u r.x) (next o u r) s₂ ⟨kk (o.res u r.x),r.cd,pos,r.pN++tl⟩:=by rw [en]; exact cont _ _ _ D2
  obtain ⟨zz,r',s',t',x',P',hF,go3,S3,X3,hK,hP3,K3,N3,Q3⟩:=ih (ch2 u r.x G2) S2 (H2 u G2) hJ hP2
  have z1:=go.size
  have z2:s₁.heap.objs.size≤s₂.heap.objs.size:=Go.size (.head CV go2)
  have N2':∀ q∈P₂,q.1∈P.map (·.1)∨s.heap.objs.size≤q.1:=fun q m=>(N2 q m).imp id (fun h=>vv z1 h)
  refine ⟨zz,r',s',t',x',P',hF,go.trans (.head CV (go2.trans go3)),S3,(X.trans X2).trans X3,hK,hP3,?_,?_,fun a m=>Q3 a (Q2 a m)⟩
  ·refine AP.trans (P₁:=P₂) ?_ N2' K3
   refine AP.ext ?_ X3
   refine AP.trans (P₁:=P) (AP.of (K.ext X2)) (fun q m=>.inl (vo m)) K2
  ·intro q m
   rcases N3 q m with a | a
   ·obtain ⟨z,hz,e⟩:=wC.mp a
    rw [← e]; exact N2' z hz
   ·exact .inr (by lia)
  | inr h=>
  obtain ⟨O,ch2⟩:=h
  obtain ⟨H1,H2⟩:=H
  generalize f l0=o at *
  obtain ⟨nt,hn,O⟩:=O
  have e0:UG o U0 r=UC o r:=H1 U0
  have eu0:∀ u,i' o u r=true:=fun u=>vm (fun x:Cq=>x.2.2.2.2.2.2.1) (H1 u)
  clear H1
  have eu:∀ u,o.ok u r.x=true:=fun u=>(vz.mp (eu0 u)).1
  have e1:r.ry=r.ru:=vm (fun x:Cq=>x.2.1) e0
  have es:Zz o r=o.vs r.x:=vm (fun x:Cq=>x.2.2.2.2.2.1) e0
  have ep:o.tr.map (fun j=>eP (r.x.T.get j))=o.pre r.x:=vm (fun x:Cq=>x.2.2.2.2.1) e0
  have en:kQ o r=kP o r:=vm (fun x:Cq=>x.2.2.2.2.2.2.2.1) e0
  have e2:r.tag=4:=(vm (fun x:Cq=>x.1) e0).trans (by show cG o=4; unfold cG; rw [hn])
  clear e0
  unfold kQ kP at en
  rw [hn] at en
  have en:=x8 en
  have ecur:r.cur=nt.X r.x:=vm (·.1) en
  have evp:(match nt.ps with | none=>none | some _=>some r.pos)=nt.ps:=vm (·.2) en
  obtain ⟨X,s₁,go,D,K,cont⟩:=S.sg e1 e2
  have hP1:=hP.keep X K
  rw [ecur] at go
  obtain ⟨u,s₂,go2,D2,X2,hP2,K2,G2⟩:=O r.x s₁ r.cd r.pos r.pN tl P (Vp es) (fun q hq=>by rw [hq] at evp; exact x8 evp) ht eu ep D hI hP1
  have en:next o u r=r.kS (nt.Y r.x) (o.upd u r.x):=by unfold next; rw [hn]
  have S2:Cj p w kt tl (o.upd u r.x) (next o u r) s₂ ⟨nt.Y r.x,r.cd,r.pos,r.pN++tl⟩:=by rw [en]; exact cont _ _ _ D2
  obtain ⟨zz,r',s',t',x',P',hF,go3,S3,X3,hK,hP3,K3,N3,Q3⟩:=ih (ch2 u r.x G2) S2 (H2 u G2) hI hP2
  have z1:=go.size
  have z2:=go2.size
  refine ⟨zz,r',s',t',x',P',hF,go.trans (go2.trans go3),S3,(X.trans X2).trans X3,hK,hP3,?_,?_,Q3⟩
  ·refine AP.trans (P₁:=P) ?_ (fun q m=>.inl (vo m)) K3
   refine AP.ext ?_ X3
   refine AP.trans (P₁:=P) (AP.of (K.ext X2)) (fun q m=>.inl (vo m)) K2
  ·intro q m
   exact (N3 q m).imp id (fun h=>by lia)
end
def Dx:(Nat→zu)→List Bool→zg
 | _,[]=>[]
 | dt,true::fl=>eD (dt 0)::Dx (fun k=>dt (k+1)) fl
 | dt,false::fl=>Dx (fun k=>dt (k+1)) fl
noncomputable def EY:List Bool→List Obj→zg
 | true::fl,o::os=>o.data::EY fl os
 | false::fl,_::os=>EY fl os
 | _,_=>[]
theorem Gj:∀ {dt:Nat→zu} (fl:List Bool) (os:List Obj),fl.length.ble os.length=true→OB dt os fl→Dx dt fl=EY fl os
 | _,[],[],_,_=>rfl
 | _,[],_::_,_,_=>rfl
 | _,true::fl,o::os,h,k=>Gk k.1 (Gj fl os h k.2)
 | _,false::fl,o::os,h,k=>Gj fl os h k
 | _,_::_,[],h,_=>by cases h
noncomputable def hD(B:Nat):Nat→Nat→zl
 | 0,_=>[]
 | k+1,n=>(bif Nat.beq (n % B) (B-1) then 1000000 else n % B)::hD B k (n / B)
noncomputable def Ag(os:List A8):List (zh→A8):=os.map fun o q=>o
abbrev fq:=QO×(zl×Option End×List (Option (Nat×Obj))×List (Option Obj)×ze×zk×Drawn×OsState)×zl
noncomputable def cQ(w:zt)(b b2:Bool)(S:Spec)(fs:List (zh→A8))(us:zh)(as:List (Nat×Nat))(pd:zl)(fl:List Bool)(hs:zl)(c:Nat)(cs:zl)(ag n:Nat)(gens:zk)(drawn:Drawn)(t:Nat)(os:OsState)(pos:Pos)(tw:List (Code×Pos))(q0 s7:zo)(q:Nat→Dr)(dt:Nat→zu):fq:=(fun rK r=>(UE rK us r,Ov (List.range S.pre.length) pd (Gf rK us r),as.map fun p=>FV pd (Gf rK us r) p.1)) (F8 fs [] us) (run pw (wf w b b2) (A5 w.2) tw 100000 hs c cs ag ⟨OC S.pre.length (S.ad.zip (Ft q dt fl 0 S.pre)),S.pre.length,n,0,gens,drawn,t,0,os⟩ (dC q0 s7 S.C) pos)
noncomputable def cP(go:zk→zk)(w:zt)(b b2:Bool)(S:Spec)(Z:Spec)(fs:List (zh→A8))(us:zh)(as:List (Nat×Nat))(pd:zl)(fl:List Bool)(hs:zl)(c:Nat)(cs:zl)(ag n:Nat)(gens:zk)(drawn:Drawn)(t:Nat)(os:OsState)(pos:Pos)(tw:List (Code×Pos))(q0 s7:zo)(q:Nat→Dr)(dt:Nat→zu):fq:=(fun rK r=>(UD rK us r,NM Z pd (go gens) drawn os (Gf rK us r),as.map (·.2))) (F8 fs [] us) (run pw (wf w b b2) (A5 w.2) tw 100000 hs c cs ag ⟨OC S.pre.length (S.ad.zip (Ft q dt fl 0 S.pre)),S.pre.length,n,0,gens,drawn,t,0,os⟩ (dC q0 s7 S.C) pos)
noncomputable def L3(m:Nat)(u:Nat→U):zh:=(List.range m).map u
noncomputable def Vg{Δ:Type}(tf:Δ→zk×List (Code×Pos))(w:zt)(b b2:Bool)(Sf:zg→Spec)(fs:zg→List (zh→A8))(m:Nat)(as:zg→zh→List (Nat×Nat))(pd:zl)(fl:List Bool)(hs:zl)(c0:Nat)(cs:zl)(ag:Nat):Nat→Drawn→Nat→OsState→Pos→Δ→(Nat→Nat)→(Nat→Nat)→(Nat→Dr)→(Nat→zu)→(Nat→U)→fq:=fun n drawn t os pos td q0 s7 q dt u=>cQ w b b2 (Sf (Dx dt fl)) (fs (Dx dt fl)) (L3 m u) (as (Dx dt fl) (L3 m u).reverse) pd fl hs c0 cs ag n (tf td).1 drawn t os pos (tf td).2 q0 s7 q dt
noncomputable def Vf(go:zk→zk){Δ:Type}(tf:Δ→zk×List (Code×Pos))(w:zt)(b b2:Bool)(Sf:zg→Spec)(E:Nat→Nat→zg→zh→Spec)(fs:zg→List (zh→A8))(m:Nat)(as:zg→zh→List (Nat×Nat))(pd:zl)(fl:List Bool)(hs:zl)(c0:Nat)(cs:zl)(ag:Nat):Nat→Drawn→Nat→OsState→Pos→Δ→(Nat→Nat)→(Nat→Nat)→(Nat→Dr)→(Nat→zu)→(Nat→U)→fq:=fun n drawn t os pos td q0 s7 q dt u=>cP go w b b2 (Sf (Dx dt fl)) (E n t (Dx dt fl) (L3 m u).reverse) (fs (Dx dt fl)) (L3 m u) (as (Dx dt fl) (L3 m u).reverse) pd fl hs c0 cs ag n (tf td).1 drawn t os pos (tf td).2 q0 s7 q dt
noncomputable def Hn(w:zt)(b2:Bool)(Sf:zg→Spec)(fs:zg→List (zh→A8))(m:Nat)(as:zg→zh→List (Nat×Nat))(pd:zl)(fl:List Bool)(hs:zl)(c0:Nat)(cs:zl)(ag:Nat):=(Vg id w false b2 Sf fs m as pd fl hs c0 cs ag,Vg id w true b2 Sf fs m as pd fl hs c0 cs ag)
noncomputable def Hm(w:zt)(b2:Bool)(Sf:zg→Spec)(E:zg→zh→Spec)(fs:zg→List (zh→A8))(m:Nat)(as:zg→zh→List (Nat×Nat))(pd:zl)(fl:List Bool)(hs:zl)(c0:Nat)(cs:zl)(ag:Nat):=(Vf id id w false b2 Sf (fun q q=>E) fs m as pd fl hs c0 cs ag,Vf id id w true b2 Sf (fun q q=>E) fs m as pd fl hs c0 cs ag)
noncomputable def mF(w:zt)(Sf:zg→Spec)(fs:zg→List (zh→A8))(m:Nat)(as:zg→zh→List (Nat×Nat))(pd:zl)(fl:List Bool)(hs:Bool→zl)(c0:Bool→Nat)(cs:Bool→zl)(ag:Nat):=(Hn w false Sf fs m as pd fl (hs false) (c0 false) (cs false) ag,Hn w true Sf fs m as pd fl (hs true) (c0 true) (cs true) ag)
noncomputable def mD(w:zt)(Sf:zg→Spec)(E:zg→zh→Spec)(fs:zg→List (zh→A8))(m:Nat)(as:zg→zh→List (Nat×Nat))(pd:zl)(fl:List Bool)(hs:Bool→zl)(c0:Bool→Nat)(cs:Bool→zl)(ag:Nat):=(Hm w false Sf E fs m as pd fl (hs false) (c0 false) (cs false) ag,Hm w true Sf E fs m as pd fl (hs true) (c0 true) (cs true) ag)
structure Cs(κ:Type) where
 c:κ
 l:List κ
 h:c∈l
@[reducible] def Cs.bb (b:Bool):Cs Bool:=⟨b,[false,true],by cases b<;>simp⟩
@[reducible] def Cs.oo {α:Type} (o:Option α) (d:α):Cs (Option α):=⟨o,[none,some (o.getD d)],by cases o<;>simp⟩
@[reducible] def Cs.pp {α β:Type} (x:Cs α) (y:Cs β):Cs (α×β):=⟨(x.c,y.c),x.l.flatMap fun a=>y.l.map (Prod.mk a),yw.mpr ⟨_,x.h,vo y.h⟩⟩
@[reducible] def Cs.oi {α:Type} [Inhabited α] (o:Option α):Cs (Option α):=.oo o default
@[reducible] def Cs.on {α β:Type} [Inhabited α] [Inhabited β] (o:Option (α×Option β)):Cs (Option (α×Option β)):=⟨o,[none,some ((o.getD default).1,none),some ((o.getD default).1,some ((o.getD default).2.getD default))],by rcases o with _ | ⟨_,_ | _⟩<;>simp⟩
@[reducible] def Cs.ua {α β γ:Type} [Inhabited α] [Inhabited β] [Inhabited γ] (o:Option (α×γ×Option β)):Cs (Option (α×γ×Option β)):=⟨o,[none,some ((o.getD default).1,(o.getD default).2.1,none),some ((o.getD default).1,(o.getD default).2.1,some ((o.getD default).2.2.getD default))],by rcases o with _ | ⟨_,_,_ | _⟩<;>simp⟩
theorem GD{α:Type}[Inhabited α](l:List α):(List.range l.length).map (fun i=>l.getD i default)=l:=zS (by simp) fun i h1 h2=>by simp [h2]
@[reducible] def Cs.len {α:Type} [Inhabited α] (l:List α) (ns:zl) (h:l.length∈ns):Cs (List α):=⟨l,ns.map fun n=>(List.range n).map fun i=>l.getD i default,wC.mpr ⟨_,h,GD l⟩⟩
theorem Ku{α β κ:Type}[Inhabited α](ns:zl)(x:Cs κ){F G:List α→κ→β}(k:∀ f:Nat→α,(ns.flatMap fun n=>x.l.map (Prod.mk n)).map (fun z=>F ((List.range z.1).map f) z.2)=(ns.flatMap fun n=>x.l.map (Prod.mk n)).map fun z=>G ((List.range z.1).map f) z.2){l:List α}(h:l.length∈ns):F l x.c=G l x.c:=by
 have k:=wU.mp (k fun i=>l.getD i default) (l.length,x.c) (yw.mpr ⟨_,h,vo x.h⟩)
 rwa [show (List.range (l.length,x.c).1).map (fun i=>l.getD i default)=l from GD l] at k
noncomputable def mG{κ:Type}(L:List κ)(w:zt)(b2:Bool)(Sf:κ→zg→Spec)(fs:κ→zg→List (zh→A8))(m:Nat)(as:κ→zg→zh→List (Nat×Nat))(pd:κ→zl)(fl:List Bool)(hs:zl)(c0:Nat)(cs:zl)(ag:Nat):=L.map fun c=>Hn w b2 (Sf c) (fs c) m (as c) (pd c) fl hs c0 cs ag
noncomputable def mE{κ:Type}(L:List κ)(w:zt)(b2:Bool)(Sf:κ→zg→Spec)(E:κ→zg→zh→Spec)(fs:κ→zg→List (zh→A8))(m:Nat)(as:κ→zg→zh→List (Nat×Nat))(pd:κ→zl)(fl:List Bool)(hs:zl)(c0:Nat)(cs:zl)(ag:Nat):=L.map fun c=>Hm w b2 (Sf c) (E c) (fs c) m (as c) (pd c) fl hs c0 cs ag
def FZ{Z:Type}(F:Z→Spec)(φ:Z→(Nat→Nat)→Prop)(K:Z→Lp→Prop)(E:zh→Spec)(as:zh→List (Nat×Nat))(l:zh)(P:Lp):Prop:=∃ z,E l=F z∧K z P∧∀ A:Nat→Nat,(∀ p∈as l,A p.1=p.2)→φ z A
theorem Nj{Δ:Type}{tf:Δ→zk×List (Code×Pos)}{go:zk→zk}{w:zt}{b1 b2:Bool}{Sf:zg→Spec}{E:Nat→Nat→zg→zh→Spec}{fs:zg→List (zh→A8)}{m:Nat}{as:zg→zh→List (Nat×Nat)}{pd:zl}{fl:List Bool}{hs:zl}{c0:Nat}{cs:zl}{ag:Nat}{D:zg}
  (look:Vg tf w b1 b2 Sf fs m as pd fl hs c0 cs ag=Vf go tf w b1 b2 Sf E fs m as pd fl hs c0 cs ag) (hD:EY fl (Sf D).pre=D) (hf:fl.length.ble (Sf D).pre.length=true) (hm:(fs D).length=m) (n:Nat) (drawn:Drawn) (t:Nat) (tq:OsState) (pc:Pos) (td:Δ) {q:Nat→Dr} {dt:Nat→zu} {q0 s7:zo} {os:List Obj} {c:Code} (ta:GI dt fl 0 (Sf D).pre) (e0:dC q0 s7 (Sf D).C=c) (eq:Ft q dt fl 0 (Sf D).pre=os) :
  Jj (fun l r=>Ov (List.range (Sf D).pre.length) pd r=NM (E n t D l) pd (go (tf td).1) drawn tq r∧∀ p∈as D l,FV pd r p.1=p.2) (fs D) [] (run pw (wf w b1 b2) (A5 w.2) (tf td).2 100000 hs c0 cs ag ⟨OC (Sf D).pre.length ((Sf D).ad.zip os),(Sf D).pre.length,n,0,(tf td).1,drawn,t,0,tq⟩ c pc):=by
 subst e0 eq
 refine GB _ _ _ fun us hu=>?_
 have h:=xD (xD (xD (xD (xD (xD (xD (xD (xD (xD (xD look n) drawn) t) tq) pc) td) q0) s7) q) dt) (fun i=>us.getD i U0)
 unfold Vg Vf at h
 rw [(Gj (dt:=dt) fl (Sf D).pre hf ta).trans hD,show L3 m (fun i=>us.getD i U0)=us from (Vq us (hu.trans hm)).symm] at h
 rw [w9]
 exact ⟨vm Prod.fst h,vm (fun x=>x.2.1) h,wU.mp (vm (fun x=>x.2.2) h)⟩
theorem MW{Δ:Type}{tf:Δ→zk×List (Code×Pos)}{go:zk→zk}{Z:Type}{St:Tl}{w:zt}{b1 b2:Bool}{gi:zk→Prop}(uf:∀ pN g,H7 St pN→gi g→∃ d,(g,pN.map Frame.where_)=tf d)(F:Z→Spec)(φ:Z→(Nat→Nat)→Prop)(Sf:zg→Spec)(E:Nat→Nat→zg→zh→Spec)(fs:zg→List (zh→A8))(m:Nat)(as:zg→zh→List (Nat×Nat))(pd:zl)(fl:List Bool)(hs:zl)(c0:Nat)(cs:zl)(ag:Nat)(D:zg){I:zd}{K0:Z→Lp→Prop}(ho:∀ (n t:Nat) (E0:zh→Lp→Prop),(∀ l P,FZ F φ K0 (E n t D) (as D) l P→E0 l P)→Ck E0 pw (wf w b1 b2) (A5 w.2) St I (fs D) [])
  (look:Vg tf w b1 b2 Sf fs m as pd fl hs c0 cs ag=Vf go tf w b1 b2 Sf E fs m as pd fl hs c0 cs ag) (hD:EY fl (Sf D).pre=D:=by rfl) (hf:fl.length.ble (Sf D).pre.length=true:=by rfl) (hm:(fs D).length=m:=by rfl)
  (hF:∀ z,(F z).ad=(Sf D).ad:=by exact fun y=>rfl) (hl:(Sf D).ad.length=(Sf D).pre.length:=by rfl) (hc:∀ z A,((F z).ch A).length=(Sf D).ad.length:=by exact fun y y=>rfl) (h2:(pd.all fun j=>Nat.ble (Sf D).pre.length j)=true:=by rfl) (h3:pd.Nodup:=by decide) (hT:Nat.ble St.l 13=true:=by rfl):Spec.qh gi go F (fun z A P'=>φ z A∧K0 z P') (Sf D) (wf w b1 b2) (Al St) I:=by
 intro P hI c s pc pN L eL hC HL qq tM
 obtain ⟨td,etd⟩:=uf _ _ qq tM
 have etg:s.gens=(tf td).1:=vm (·.1) etd
 have etd:pN.map Frame.where_=(tf td).2:=vm (·.2) etd
 subst eL
 obtain ⟨os,sE,own⟩:=IT (h:=s.heap) hl fun q m=>HL.own q (vq _ m)
 obtain ⟨D0,P0,sub0⟩:=LM HL hl sE own
 rw [etg] at D0 P0
 obtain ⟨q0,s7,e0⟩:=dX c
 rw [hC] at e0
 obtain ⟨q,dt,eq,ta⟩:=Km os fl
 rw [sE] at eq ta
 obtain ⟨l1,r,s1,t1,x1,P1,⟨E1,EA⟩,go1,S1,X1,⟨z,ez,hO,hφ⟩,HP1,K1,N1,Q1⟩:=FH qq (ho s.heap.objs.size s.toks _ fun y y h=>h) (etd ▸ HG qq.qt cS (vv qq.len (xb (xG 10 (w8 hT)))) D0) (Nj look hD hf hm s.heap.objs.size s.drawn s.toks s.os pc td ta e0 eq) hI P0
 rw [ez] at E1
 obtain ⟨e,s2,r8,go2,e2,D2,K2,X2,et,e6,e7,e8⟩:=Z3 S1 E1
 have X:=X1.trans X2
 have KK:AP r.x P s s2:=(K1.ext X2).trans N1 (AP.of K2)
 refine ⟨e,s2,_,r.cd,r8,go1.trans go2,⟨z,FV pd r,P1,⟨hφ _ EA,hO⟩,Q1,e2,rfl⟩,PV et D2 (HP1.keep X2 K2) (x5.mpr ⟨List.nodup_range,h3,fun a ha b hb e=>absurd (yo.mp ha) (xK.mpr (e ▸ w8 (wG.mp h2 b hb)))⟩),KK.1,e6.trans (vm go etg.symm),e7,e8,fun b o hb hn=>?_,fun q m=>?_⟩
 ·rw [vl] at hn
  exact KK.2 b o hb (fun j o' g=>(X.bwd j b o' g).elim (fun ⟨_,g⟩=>hn (vq _ (sub0 _ _ _ g))) fun z=>absurd (xm hb) (xK.mpr z)) fun m=>hn (vt _ m)
 ·rw [vl]
  rcases wY.mp m with m | m
  ·obtain ⟨j,_,o,g,_⟩:=Hr et m
   exact (X.bwd j _ o g).imp (fun ⟨_,g⟩=>vq _ (sub0 _ _ _ g)) id
  ·exact (N1 q m).imp (vt _) id
theorem Za{Z:Type}{St:Tl}{w:zt}{b1 b2:Bool}(F:Z→Spec)(φ:Z→(Nat→Nat)→Prop)(Sf:zg→Spec)(E:zg→zh→Spec)(fs:zg→List (zh→A8))(m:Nat)(as:zg→zh→List (Nat×Nat))(pd:zl)(fl:List Bool)(hs:zl)(c0:Nat)(cs:zl)(ag:Nat)(D:zg){I:zd}{K0:Z→Lp→Prop}(ho:∀ E0:zh→Lp→Prop,(∀ l P,FZ F φ K0 (E D) (as D) l P→E0 l P)→Ck E0 pw (wf w b1 b2) (A5 w.2) St I (fs D) [])
  (k:Hn w b2 Sf fs m as pd fl hs c0 cs ag=Hm w b2 Sf E fs m as pd fl hs c0 cs ag:=by kernel_rfl) (hD:EY fl (Sf D).pre=D:=by rfl) (hf:fl.length.ble (Sf D).pre.length=true:=by rfl) (hm:(fs D).length=m:=by rfl)
  (hF:∀ z,(F z).ad=(Sf D).ad:=by exact fun q=>rfl) (hl:(Sf D).ad.length=(Sf D).pre.length:=by rfl) (hc:∀ z A,((F z).ch A).length=(Sf D).ad.length:=by exact fun q q=>rfl) (h2:(pd.all fun j=>Nat.ble (Sf D).pre.length j)=true:=by rfl) (h3:pd.Nodup:=by decide) (hT:Nat.ble St.l 13=true:=by rfl):Spec.pW F (fun z A P'=>φ z A∧K0 z P') (Sf D) (wf w b1 b2) (Al St) I:=
 fun P hI=>Fb.con (MW (tf:=id) (go:=id) (gi:=fun q=>True) (fun q q q q=>⟨_,rfl⟩) F φ Sf (fun q q=>E) fs m as pd fl hs c0 cs ag D (fun q q=>ho) (by cases b1; exact vm (·.1) k; exact vm (·.2) k) hD hf hm hF hl hc h2 h3 hT P hI)
theorem ab{Z:Type}{St:Tl}{w:zt}{b1 b2:Bool}(F:Z→Spec)(φ:Z→(Nat→Nat)→Prop)(Sf:zg→Spec)(E:zg→zh→Spec)(fs:zg→List (zh→A8))(m:Nat)(as:zg→zh→List (Nat×Nat))(pd:zl)(fl:List Bool)(hs:Bool→zl)(c0:Bool→Nat)(cs:Bool→zl)(ag:Nat)(D:zg){I:zd}{K0:Z→Lp→Prop}(ho:∀ E0:zh→Lp→Prop,(∀ l P,FZ F φ K0 (E D) (as D) l P→E0 l P)→Ck E0 pw (wf w b1 b2) (A5 w.2) St I (fs D) [])
  (k:mF w Sf fs m as pd fl hs c0 cs ag=mD w Sf E fs m as pd fl hs c0 cs ag:=by kernel_rfl) (hD:EY fl (Sf D).pre=D:=by rfl) (hf:fl.length.ble (Sf D).pre.length=true:=by rfl) (hm:(fs D).length=m:=by rfl)
  (hF:∀ z,(F z).ad=(Sf D).ad:=by exact fun q=>rfl) (hl:(Sf D).ad.length=(Sf D).pre.length:=by rfl) (hc:∀ z A,((F z).ch A).length=(Sf D).ad.length:=by exact fun q q=>rfl) (h2:(pd.all fun j=>Nat.ble (Sf D).pre.length j)=true:=by rfl) (h3:pd.Nodup:=by decide) (hT:Nat.ble St.l 13=true:=by rfl):Spec.pW F (fun z A P'=>φ z A∧K0 z P') (Sf D) (wf w b1 b2) (Al St) I:=
 fun P hI=>Fb.con (MW (tf:=id) (go:=id) (gi:=fun q=>True) (fun q q q q=>⟨_,rfl⟩) F φ Sf (fun q q=>E) fs m as pd fl (hs b2) (c0 b2) (cs b2) ag D (fun q q=>ho) (by cases b1<;>cases b2; exact vm (·.1.1) k; exact vm (·.2.1) k; exact vm (·.1.2) k; exact vm (·.2.2) k) hD hf hm hF hl hc h2 h3 hT P hI)
theorem Spec.pW.zz{Z:Type}{F:Z→Spec}{φ:Z→(Nat→Nat)→Prop}{S:Spec}{w:zt}{Sh:Pos→ze→Prop}{I O:zd}(h:Spec.pW F (fun z A P'=>φ z A∧O P') S w Sh I):Spec.px F φ S w Sh I O:=
 fun P hI=>(h P hI).pU (fun q e=>e) fun e L ⟨z,A,P',⟨a,b⟩,c,d,g⟩=>⟨z,A,P',a,b,c,d,g⟩
theorem Spec.pW.pp{S:Spec}{w:zt}{Sh:Pos→ze→Prop}{I O:zd}(h:Spec.pW (fun _:Unit=>S) (fun q q P'=>True∧O P') S w Sh I):S.pP w Sh I O:=
 fun P hI=>(h P hI).pU (fun q e=>e) fun e L ⟨z,A,P',⟨a,b⟩,c,d,g⟩=>⟨A,P',b,c,d,g⟩
theorem Ck.pO{E0:zh→Lp→Prop}{E:zh→Spec}{F:Spec}{O:zd}{p:zv}{w:zt}{kt:KT}{l:zh}(he:∀ l P,FZ (fun _:Unit=>F) (fun q q=>True) (fun q=>O) E (fun q=>[]) l P→E0 l P)(h:E l=F):Ck E0 p w kt St O [] l:=.nil fun P hP=>he l P ⟨(),h,hP,fun q q=>trivial⟩
theorem Ck.q{E:zh→Lp→Prop}{p:zv}{w:zt}{kt:KT}{I l}{f:zh→A8}{fs}(h:(f l).Ok p w kt)(k:∀ u x,(f l).good u x→Ck E p w kt St I fs (u::l)):Ck E p w kt St I (f::fs) l:=.cons (h.s8 I) k
theorem MV{Z:Type}{St:Tl}{w:zt}{b1 b2:Bool}{F:Z→Spec}{φ:Z→(Nat→Nat)→Prop}(Sf:zg→Spec)(E:zg→zh→Spec)(fs:zg→List (zh→A8))(m:Nat)(as:zg→zh→List (Nat×Nat))(pd:zl)(fl:List Bool)(hs:zl)(c0:Nat)(cs:zl)(ag:Nat)(D:zg){I O:zd}(ho:∀ E0:zh→Lp→Prop,(∀ l P,FZ F φ (fun q=>O) (E D) (as D) l P→E0 l P)→Ck E0 pw (wf w b1 b2) (A5 w.2) St I (fs D) [])
  (k:Hn w b2 Sf fs m as pd fl hs c0 cs ag=Hm w b2 Sf E fs m as pd fl hs c0 cs ag:=by kernel_rfl) (hD:EY fl (Sf D).pre=D:=by rfl) (hf:fl.length.ble (Sf D).pre.length=true:=by rfl) (hm:(fs D).length=m:=by rfl)
  (hF:∀ z,(F z).ad=(Sf D).ad:=by exact fun q=>rfl) (hl:(Sf D).ad.length=(Sf D).pre.length:=by rfl) (hc:∀ z A,((F z).ch A).length=(Sf D).ad.length:=by exact fun q q=>rfl) (h2:(pd.all fun j=>Nat.ble (Sf D).pre.length j)=true:=by rfl) (h3:pd.Nodup:=by decide) (hT:Nat.ble St.l 13=true:=by rfl):Spec.px F φ (Sf D) (wf w b1 b2) (Al St) I O:=
 (Za F φ Sf E fs m as pd fl hs c0 cs ag D ho k hD hf hm hF hl hc h2 h3 hT).zz
theorem Bu{St:Tl}{w:zt}{b1 b2:Bool}(Sf:zg→Spec)(E:zg→zh→Spec)(fs:zg→List (zh→A8))(m:Nat)(pd:zl)(fl:List Bool)(hs:zl)(c0:Nat)(cs:zl)(ag:Nat)(D:zg){I O:zd}(ho:∀ E0:zh→Lp→Prop,(∀ l P,FZ (fun _:Unit=>Sf D) (fun q q=>True) (fun q=>O) (E D) (fun q=>[]) l P→E0 l P)→Ck E0 pw (wf w b1 b2) (A5 w.2) St I (fs D) [])
  (k:Hn w b2 Sf fs m (fun q q=>[]) pd fl hs c0 cs ag=Hm w b2 Sf E fs m (fun q q=>[]) pd fl hs c0 cs ag:=by kernel_rfl) (hD:EY fl (Sf D).pre=D:=by rfl) (hf:fl.length.ble (Sf D).pre.length=true:=by rfl) (hm:(fs D).length=m:=by rfl)
  (hl:(Sf D).ad.length=(Sf D).pre.length:=by rfl) (hc:∀ A,((Sf D).ch A).length=(Sf D).ad.length:=by exact fun q=>rfl) (h2:(pd.all fun j=>Nat.ble (Sf D).pre.length j)=true:=by rfl) (h3:pd.Nodup:=by decide) (hT:Nat.ble St.l 13=true:=by rfl):(Sf D).pP (wf w b1 b2) (Al St) I O:=
 (Za (fun _:Unit=>Sf D) (fun q q=>True) Sf E fs m (fun q q=>[]) pd fl hs c0 cs ag D ho k hD hf hm (fun q=>rfl) hl (fun q=>hc) h2 h3 hT).pp
theorem aa{Z:Type}{St:Tl}{w:zt}{b1 b2:Bool}{F:Z→Spec}{φ:Z→(Nat→Nat)→Prop}(Sf:zg→Spec)(E:zg→zh→Spec)(fs:zg→List (zh→A8))(m:Nat)(as:zg→zh→List (Nat×Nat))(pd:zl)(fl:List Bool)(hs:Bool→zl)(c0:Bool→Nat)(cs:Bool→zl)(ag:Nat)(D:zg){I O:zd}(ho:∀ E0:zh→Lp→Prop,(∀ l P,FZ F φ (fun q=>O) (E D) (as D) l P→E0 l P)→Ck E0 pw (wf w b1 b2) (A5 w.2) St I (fs D) [])
  (k:mF w Sf fs m as pd fl hs c0 cs ag=mD w Sf E fs m as pd fl hs c0 cs ag:=by kernel_rfl) (hD:EY fl (Sf D).pre=D:=by rfl) (hf:fl.length.ble (Sf D).pre.length=true:=by rfl) (hm:(fs D).length=m:=by rfl)
  (hF:∀ z,(F z).ad=(Sf D).ad:=by exact fun q=>rfl) (hl:(Sf D).ad.length=(Sf D).pre.length:=by rfl) (hc:∀ z A,((F z).ch A).length=(Sf D).ad.length:=by exact fun q q=>rfl) (h2:(pd.all fun j=>Nat.ble (Sf D).pre.length j)=true:=by rfl) (h3:pd.Nodup:=by decide) (hT:Nat.ble St.l 13=true:=by rfl):Spec.px F φ (Sf D) (wf w b1 b2) (Al St) I O:=
 (ab F φ Sf E fs m as pd fl hs c0 cs ag D ho k hD hf hm hF hl hc h2 h3 hT).zz
theorem G8{St:Tl}{w:zt}{b1 b2:Bool}(Sf:zg→Spec)(E:zg→zh→Spec)(fs:zg→List (zh→A8))(m:Nat)(pd:zl)(fl:List Bool)(hs:Bool→zl)(c0:Bool→Nat)(cs:Bool→zl)(ag:Nat)(D:zg){I O:zd}(ho:∀ E0:zh→Lp→Prop,(∀ l P,FZ (fun _:Unit=>Sf D) (fun q q=>True) (fun q=>O) (E D) (fun q=>[]) l P→E0 l P)→Ck E0 pw (wf w b1 b2) (A5 w.2) St I (fs D) [])
  (k:mF w Sf fs m (fun q q=>[]) pd fl hs c0 cs ag=mD w Sf E fs m (fun q q=>[]) pd fl hs c0 cs ag:=by kernel_rfl) (hD:EY fl (Sf D).pre=D:=by rfl) (hf:fl.length.ble (Sf D).pre.length=true:=by rfl) (hm:(fs D).length=m:=by rfl)
  (hl:(Sf D).ad.length=(Sf D).pre.length:=by rfl) (hc:∀ A,((Sf D).ch A).length=(Sf D).ad.length:=by exact fun q=>rfl) (h2:(pd.all fun j=>Nat.ble (Sf D).pre.length j)=true:=by rfl) (h3:pd.Nodup:=by decide) (hT:Nat.ble St.l 13=true:=by rfl):(Sf D).pP (wf w b1 b2) (Al St) I O:=
 (ab (fun _:Unit=>Sf D) (fun q q=>True) Sf E fs m (fun q q=>[]) pd fl hs c0 cs ag D ho k hD hf hm (fun q=>rfl) hl (fun q=>hc) h2 h3 hT).pp
theorem LF{κ:Type}{Z:Type}{St:Tl}{w:zt}{b1 b2:Bool}{F:Z→Spec}{φ:Z→(Nat→Nat)→Prop}(x:Cs κ)(Sf:κ→zg→Spec)(E:κ→zg→zh→Spec)(fs:κ→zg→List (zh→A8))(m:Nat)(as:κ→zg→zh→List (Nat×Nat))(pd:κ→zl)(fl:List Bool)(hs:zl)(c0:Nat)(cs:zl)(ag:Nat)(D:zg){I O:zd}(ho:∀ E0:zh→Lp→Prop,(∀ l P,FZ F φ (fun q=>O) (E x.c D) (as x.c D) l P→E0 l P)→Ck E0 pw (wf w b1 b2) (A5 w.2) St I (fs x.c D) [])
  (k:mG x.l w b2 Sf fs m as pd fl hs c0 cs ag=mE x.l w b2 Sf E fs m as pd fl hs c0 cs ag:=by kernel_rfl) (hD:EY fl (Sf x.c D).pre=D:=by rfl) (hf:fl.length.ble (Sf x.c D).pre.length=true:=by rfl) (hm:(fs x.c D).length=m:=by rfl)
  (hF:∀ z,(F z).ad=(Sf x.c D).ad:=by exact fun q=>rfl) (hl:(Sf x.c D).ad.length=(Sf x.c D).pre.length:=by rfl) (hc:∀ z A,((F z).ch A).length=(Sf x.c D).ad.length:=by exact fun q q=>rfl) (h2:((pd x.c).all fun j=>Nat.ble (Sf x.c D).pre.length j)=true:=by rfl) (h3:(pd x.c).Nodup:=by decide) (hT:Nat.ble St.l 13=true:=by rfl):Spec.px F φ (Sf x.c D) (wf w b1 b2) (Al St) I O:=
 MV (Sf x.c) (E x.c) (fs x.c) m (as x.c) (pd x.c) fl hs c0 cs ag D ho (wU.mp k _ x.h) hD hf hm hF hl hc h2 h3 hT
theorem Rd{κ:Type}{Z:Type}{St:Tl}{w:zt}{b1 b2:Bool}(x:Cs κ)(F:Z→Spec)(φ:Z→(Nat→Nat)→Prop)(Sf:κ→zg→Spec)(E:κ→zg→zh→Spec)(fs:κ→zg→List (zh→A8))(m:Nat)(as:κ→zg→zh→List (Nat×Nat))(pd:κ→zl)(fl:List Bool)(hs:zl)(c0:Nat)(cs:zl)(ag:Nat)(D:zg){I:zd}{K0:Z→Lp→Prop}(ho:∀ E0:zh→Lp→Prop,(∀ l P,FZ F φ K0 (E x.c D) (as x.c D) l P→E0 l P)→Ck E0 pw (wf w b1 b2) (A5 w.2) St I (fs x.c D) [])
  (k:mG x.l w b2 Sf fs m as pd fl hs c0 cs ag=mE x.l w b2 Sf E fs m as pd fl hs c0 cs ag:=by kernel_rfl) (hD:EY fl (Sf x.c D).pre=D:=by rfl) (hf:fl.length.ble (Sf x.c D).pre.length=true:=by rfl) (hm:(fs x.c D).length=m:=by rfl)
  (hF:∀ z,(F z).ad=(Sf x.c D).ad:=by exact fun q=>rfl) (hl:(Sf x.c D).ad.length=(Sf x.c D).pre.length:=by rfl) (hc:∀ z A,((F z).ch A).length=(Sf x.c D).ad.length:=by exact fun q q=>rfl) (h2:((pd x.c).all fun j=>Nat.ble (Sf x.c D).pre.length j)=true:=by rfl) (h3:(pd x.c).Nodup:=by decide) (hT:Nat.ble St.l 13=true:=by rfl):Spec.pW F (fun z A P'=>φ z A∧K0 z P') (Sf x.c D) (wf w b1 b2) (Al St) I:=
 Za F φ (Sf x.c) (E x.c) (fs x.c) m (as x.c) (pd x.c) fl hs c0 cs ag D ho (wU.mp k _ x.h) hD hf hm hF hl hc h2 h3 hT
theorem Ae{κ:Type}{St:Tl}{w:zt}{b1 b2:Bool}(x:Cs κ)(Sf:κ→zg→Spec)(E:κ→zg→zh→Spec)(fs:κ→zg→List (zh→A8))(m:Nat)(pd:κ→zl)(fl:List Bool)(hs:zl)(c0:Nat)(cs:zl)(ag:Nat)(D:zg){I O:zd}(ho:∀ E0:zh→Lp→Prop,(∀ l P,FZ (fun _:Unit=>Sf x.c D) (fun q q=>True) (fun q=>O) (E x.c D) (fun q=>[]) l P→E0 l P)→Ck E0 pw (wf w b1 b2) (A5 w.2) St I (fs x.c D) [])
  (k:mG x.l w b2 Sf fs m (fun q q q=>[]) pd fl hs c0 cs ag=mE x.l w b2 Sf E fs m (fun q q q=>[]) pd fl hs c0 cs ag:=by kernel_rfl) (hD:EY fl (Sf x.c D).pre=D:=by rfl) (hf:fl.length.ble (Sf x.c D).pre.length=true:=by rfl) (hm:(fs x.c D).length=m:=by rfl)
  (hl:(Sf x.c D).ad.length=(Sf x.c D).pre.length:=by rfl) (hc:∀ A,((Sf x.c D).ch A).length=(Sf x.c D).ad.length:=by exact fun q=>rfl) (h2:((pd x.c).all fun j=>Nat.ble (Sf x.c D).pre.length j)=true:=by rfl) (h3:(pd x.c).Nodup:=by decide) (hT:Nat.ble St.l 13=true:=by rfl):(Sf x.c D).pP (wf w b1 b2) (Al St) I O:=
 Bu (Sf x.c) (E x.c) (fs x.c) m (pd x.c) fl hs c0 cs ag D ho (wU.mp k _ x.h) hD hf hm hl hc h2 h3 hT
theorem As{St:Tl}{w:zt}{b1 b2:Bool}{S:Spec}(fs:List (zh→A8))(m:Nat)(pd:zl)(hs:zl)(c0:Nat)(cs:zl)(ag:Nat){I O:zd}(ho:∀ E0:zh→Lp→Prop,(∀ l P,FZ (fun _:Unit=>S) (fun q q=>True) (fun q=>O) (fun q=>S) (fun q=>[]) l P→E0 l P)→Ck E0 pw (wf w b1 b2) (A5 w.2) St I fs [])
  (k:Hn w b2 (fun q=>S) (fun q=>fs) m (fun q q=>[]) pd [] hs c0 cs ag=Hm w b2 (fun q=>S) (fun q=>(fun q=>S)) (fun q=>fs) m (fun q q=>[]) pd [] hs c0 cs ag:=by kernel_rfl) (hm:fs.length=m:=by rfl)
  (hl:S.ad.length=S.pre.length:=by rfl) (hc:∀ A,(S.ch A).length=S.ad.length:=by exact fun q=>rfl) (h2:(pd.all fun j=>Nat.ble S.pre.length j)=true:=by rfl) (h3:pd.Nodup:=by decide) (hT:Nat.ble St.l 13=true:=by rfl):S.pP (wf w b1 b2) (Al St) I O:=
 Bu (fun q=>S) (fun q=>(fun q=>S)) (fun q=>fs) m pd [] hs c0 cs ag [] ho k (by cases S.pre<;>rfl) rfl hm hl hc h2 h3 hT
end
noncomputable def EC(u:U):TT→zl→TT
 | T,[]=>T
 | T,j::l=>EC u (T.set j (fun o=>{ o with slots:=u.z j })) l
theorem Iv(u:U)(i:Nat):∀ (l:zl) (T:TT),(EC u T l).get i=if i∈l then (T.get i).map (fun p=>(p.1,{ p.2 with slots:=u.z i })) else T.get i
 | [],T=>by rw [w2 (by simp)]; rfl
 | j::l,T=>by
  show (EC u (T.set j _) l).get i=_
  rw [Iv u i l,TT.get_set]
  by_cases e:i=j
  ·subst e
   rw [wD rfl,wD (show i∈i::l from .head l)]
   cases T.get i with
   | none=>split<;>rfl
   | some q=>split<;>rfl
  ·rw [w2 e]
   by_cases m:i∈l
   ·rw [wD m,wD (.tail _ m)]
   ·rw [w2 m,w2 (by rw [wK]; exact fun h=>h.elim e m)]
noncomputable def PM:zq→Bool
 | .none=>true
 | _=>false
def Yv:zu→Bool
 | .fields vs=>PM (vs.toList.getD 1 (.bool true))
 | _=>false
def Q9(x:SX)(j:Nat):Bool:=match x.T.get j with
 | some (_,o)=>Yv o.data && !CG o.cls
 | none=>false
def Kq(x:SX)(j:Nat):Bool:=match x.T.get j with
 | some (_,o)=>CG o.cls
 | none=>false
noncomputable def O7(C:SX→Sem Unit→Sem Fin)(je:Nat)(env:SX→Env)(f:SX→Nat)(ft:zl)(V:SX→List Vw)(ps:Pos)(ids:List String):A8 where
 C:=fun q=>.builtin "" {}
 tr:=[]
 pre:=fun q=>[]
 vs:=fun x=>some (V x)
 ok:=fun u x=>(Q9 x je&&ft.all (Kq x))&&(((EC u x.T ft).ins x.m (x.n+x.i) (Cu .none (f x) (rawInt (f x)) ps ids false)).get x.m).isSome
 res:=fun q q=>.ok .next
 upd:=fun u x=>⟨((EC u x.T ft).ins x.m (x.n+x.i) (Cu .none (f x) (rawInt (f x)) ps ids false)).set je (Obj.mapFields (·.setIfInBounds 1 (.ref (x.n+x.i)))),x.m+1,x.n,x.i+1,x.gens,x.drawn,x.t,x.ti,x.os⟩
 nt:=some ⟨fun x=>C x (Zf (.ref (A4 x je)) (env x)),fun x=>C x (.pure ()),some ps⟩
theorem Pg{h:Heap}{a:Nat}{o:Obj}(e:h.get? a=some o):o.isFreed=false:=(Heap.get?_some_iff.mp e).2
theorem U6{g:Array zq→Array zq}(o:Obj):(Obj.mapFields g o).isFreed=o.isFreed:=by
 obtain ⟨c,d,dt,sl⟩:=o; cases dt<;>rfl
inductive eI (kt:KT) (s s':zr) (x y:SX):Prop
 | mk (D:BR kt s' y) (K:AH y s s') (X:BS x y)
theorem J1{kt:KT}{s:zr}{T:TT}{m n i:Nat}{gens:zk}{drawn:Drawn}{t ti:Nat}{os:OsState}(D:BR kt s ⟨T,m,n,i,gens,drawn,t,ti,os⟩){o:Obj}(hf:o.isFreed=false)(ok:((T.ins m (n+i) o).get m).isSome=true){je ae:Nat}{oe:Obj}(he:T.get je=some (ae,oe)){g:Array zq→Array zq} :
  eI kt s { s with heap:=(s.heap.push o).update ae (Obj.mapFields g) } ⟨T,m,n,i,gens,drawn,t,ti,os⟩ ⟨(T.ins m (n+i) o).set je (Obj.mapFields g),m+1,n,i+1,gens,drawn,t,ti,os⟩:=by
 obtain ⟨D2,K2,X2⟩:=Ej D hf ok
 obtain ⟨o2,g2⟩:=X2.fwd je _ _ he
 obtain ⟨D3,K3,X3⟩:=CR (f:=Obj.mapFields g) D2 g2 (by rw [U6]; exact Pg (D2.own _ _ _ g2))
 exact ⟨D3,(K2.ext X3).trans K3,X2.trans X3⟩
theorem Kf{v:zq}(h:PM v=true):v=.none:=by cases v<;>first | rfl | cases h
theorem Pk{d:zu}(h:Yv d=true):∃ vs,d=.fields vs∧vs[1]?=some .none:=by
 cases d with
 | fields vs=>
  have h:=Kf h
  rw [wa,Array.getElem?_toList] at h
  cases q:vs[1]? with
  | none=>rw [q] at h; cases h
  | some v=>rw [q] at h; exact ⟨_,rfl,q.trans (vm some h)⟩
 | _=>cases h
theorem Jg{x:SX}{j:Nat}(h:Q9 x j=true):∃ o vs,x.T.get j=some (A4 x j,o)∧o.data=.fields vs∧vs[1]?=some .none∧CG o.cls=false:=by
 unfold Q9 at h
 cases q:x.T.get j with
 | none=>rw [q] at h; cases h
 | some z=>
  rw [q] at h
  have h:(Yv z.2.data && !CG z.2.cls)=true:=h
  rw [xY] at h
  have ⟨vs,h1,h2⟩:=Pk h.1
  exact ⟨z.2,vs,by rw [Bs q],h1,h2,by simpa using h.2⟩
theorem Ec{x:SX}{j:Nat}(h:Kq x j=true):∃ o,x.T.get j=some (A4 x j,o)∧CG o.cls=true:=by
 unfold Kq at h
 cases q:x.T.get j with
 | none=>rw [q] at h; cases h
 | some z=>rw [q] at h; exact ⟨z.2,by rw [Bs q],h⟩
def DH(e:Env):Prop:=e.scope.kind≠.module∧(e.scope.isGenerator || e.scope.isCoroutine)=false
def AW(E:zi)(R:Lp):Prop:=∀ e∈E,DH e∧∃ f o,e.frame=some f∧(f,o)∈R∧CG o.cls=true
structure Ax(E:zi)(ids:List String)(V:List Vw):Prop where
 envs:BD V=E
 ids:V.filterMap (·.2.2.1)=ids
theorem By(V W:List Vw):BD (V++W)=BD V++BD W:=by simp [BD]
theorem Ax.app{E E':zi}{ids qe:List String}{V W:List Vw}(h:Ax E ids W)(h1:BD V=E')(h2:V.filterMap (·.2.2.1)=qe):Ax (E'++E) (qe++ids) (V++W):=
 ⟨by rw [By,h1,h.envs],by rw [List.filterMap_append,h2,h.ids]⟩
inductive Wb (kt:KT) (s:zr) (h:Heap) (x:SX) (ft:zl) (P:Lp):Prop
 | mk (u:U) (D:BR kt { s with heap:=h } ⟨EC u x.T ft,x.m,x.n,x.i,x.gens,x.drawn,x.t,x.ti,x.os⟩) (X:BS x ⟨EC u x.T ft,x.m,x.n,x.i,x.gens,x.drawn,x.t,x.ti,x.os⟩) (P':E6 kt { s with heap:=h } ⟨EC u x.T ft,x.m,x.n,x.i,x.gens,x.drawn,x.t,x.ti,x.os⟩ P) (K:AP ⟨EC u x.T ft,x.m,x.n,x.i,x.gens,x.drawn,x.t,x.ti,x.os⟩ P s { s with heap:=h }):Wb kt s h x ft P
theorem Nt{kt:KT}{s:zr}{h:Heap}{x:SX}{ft:zl}{P:Lp}(D:BR kt s x)(hP:E6 kt s x P)(hf:∀ j∈ft,(x.T.get j).isSome=true)(S:Cp (ft.map (A4 x)++P.map (·.1)) s.heap h):Wb kt s h x ft P:=by
 have hz:∀ u i,(EC u x.T ft).get i=_:=fun u i=>Iv u i ft x.T
 have inF:∀ {j a o},x.T.get j=some (a,o)→a∈ft.map (A4 x)++P.map (·.1)→j∈ft:=fun {j a o} e m=>by
  rcases wY.mp m with m | m
  ·obtain ⟨i,hi,rfl⟩:=wC.mp m
   obtain ⟨⟨a',o'⟩,e'⟩:=wM.mp (hf i hi)
   rw [Bs e'] at e
   exact D.apart _ _ _ _ _ e' e ▸ hi
  ·obtain ⟨q,hq,rfl⟩:=wC.mp m
   exact absurd e (hP.apart q hq _ _)
 let u:U:=⟨fun y y=>0,fun y=>.plain,fun j=>match h.get? (A4 x j) with | some o=>o.slots | none=>#[]⟩
 have back:∀ {j a o},(EC u x.T ft).get j=some (a,o)→∃ o0,x.T.get j=some (a,o0)∧h.get? a=some o:=fun {j a o} e=>by
  rw [hz] at e
  by_cases m:j∈ft
  ·rw [wD m] at e
   cases g:x.T.get j with
   | none=>rw [g] at e; cases e
   | some z=>
    obtain ⟨a',o'⟩:=z
    rw [g] at e
    cases e
    refine ⟨o',rfl,?_⟩
    have uz:u.z j=match h.get? a' with | some o=>o.slots | none=>#[]:=by show (match h.get? (A4 x j) with | some o=>o.slots | none=>#[])=_; rw [Bs g]
    rcases S.at_ a' o' (D.own _ _ _ g) with e1 | ⟨_,_,z,e1⟩<;>(rw [e1] at uz; rw [e1,uz])
  ·rw [w2 m] at e
   refine ⟨o,e,?_⟩
   rcases S.at_ a o (D.own _ _ _ e) with e1 | ⟨m',_⟩
   ·exact e1
   ·exact absurd (inF e m') m
 have fwd:∀ j a o,x.T.get j=some (a,o)→∃ o',(EC u x.T ft).get j=some (a,o'):=fun j a o e=>by
  rw [hz,e]
  split
  ·exact ⟨_,rfl⟩
  ·exact ⟨o,rfl⟩
 refine ⟨u,⟨S.size.trans D.size,fun j a o e=>(back e).elim fun y h=>h.2,fun j j' a o o' e e'=>?_,fun j p e=>?_,fun a o e=>?_,fun j a o e=>?_,D.gens,D.drawn,D.toks,D.os⟩,⟨fwd,fun j a o e=>.inl ((back e).imp fun y h=>h.1),vp _⟩,⟨fun q m=>?_,hP.nd,hP.off,hP.lt,fun q m j o e=>?_⟩,⟨S.life,fun b o e n np=>?_⟩⟩
 ·obtain ⟨_,e,_⟩:=back e
  obtain ⟨_,e',_⟩:=back e'
  exact D.apart _ _ _ _ _ e e'
 ·obtain ⟨_,e,_⟩:=back (j:=j) (a:=p.1) (o:=p.2) e
  exact D.low _ _ e
 ·rcases S.at_ a o (D.top a o e) with e1 | ⟨m,_⟩
  ·exact e1
  ·exfalso
   rcases wY.mp m with m | m
   ·obtain ⟨i,hi,rfl⟩:=wC.mp m
    obtain ⟨⟨a',o'⟩,e'⟩:=wM.mp (hf i hi)
    rw [Bs e',D.off _ _ _ e'] at e
    cases e
   ·obtain ⟨q,hq,rfl⟩:=wC.mp m
    rw [hP.off q hq] at e
    cases e
 ·obtain ⟨_,e,_⟩:=back e
  exact D.off _ _ _ e
 ·obtain ⟨o,g,e⟩:=hP.own q m
  rcases S.at_ _ o g with e1 | ⟨_,i,z,e1⟩
  ·exact ⟨o,e1,e⟩
  ·refine ⟨_,e1,?_⟩
   rw [← e]
   show (⟨o.cls,o.dict,eD o.data,bif CG o.cls then #[] else _⟩:Obj)=⟨o.cls,o.dict,eD o.data,bif CG o.cls then #[] else _⟩
   rw [i]; rfl
 ·obtain ⟨_,e,_⟩:=back e
  exact hP.apart q m _ _ e
 ·rcases S.at_ b o e with e1 | ⟨m,_⟩
  ·exact e1
  ·rcases wY.mp m with m | m
   ·obtain ⟨i,hi,rfl⟩:=wC.mp m
    obtain ⟨⟨a',o'⟩,e'⟩:=wM.mp (hf i hi)
    obtain ⟨o2,e2⟩:=fwd _ _ _ e'
    rw [Bs e'] at n
    exact absurd e2 (n _ _)
   ·exact absurd m np
theorem AP.tA{x y:SX}{P:Lp}{s s₁ s₂:zr}(h:AP x P s s₁)(X:BS x y)(k:AH y s₁ s₂):AP y P s s₂:=
 (h.ext X).trans (fun q m=>.inl (vo m)) (AP.of k)
theorem Sr{p:zv}{w:zt}{kt:KT}{St:Tl}{I:zd}{C:SX→Sem Unit→Sem Fin}{je:Nat}{env:SX→Env}{f:SX→Nat}{ft:zl}{V:SX→List Vw}{ps:Pos}{ids:List String}
  (hC:∀ x,FN (C x)) (hf:∀ x,(env x).frame=some (f x)) (hl:ps.line≠0) (own:∀ x,(V x).head?.bind (fun v=>v.2.1.bind (·.frame))=some (f x))
  (top:∀ x Vt,St.P Vt→((BD (V x++Vt)).dropWhile (·.frame != (env x).frame)).head?.bind (·.frame)=some (f x))
  (caller:∀ x Vt,St.P Vt→(V x++Vt).any (fun v=>v.2.2.1==some "claim.caller")=true) (tW:∀ x Vt,St.P Vt→Bl (f x) (V x++Vt)=some ids) (size:¬ (EntryCells.make ids).length > sizeLine)
  (tU:∀ x Vt P,St.P Vt→I P→∀ e∈BD (V x++Vt),DH e∧((∃ j∈ft,e.frame=some (A4 x j))∨∃ f o,e.frame=some f∧(f,o)∈P∧CG o.cls=true)):(O7 C je env f ft V ps ids).rz p w kt St I:=by
 refine ⟨_,rfl,?_⟩
 intro x s cd qs pN tl P hv hps ht qW _ D hI hP
 replace hv:Ct cd pN=V x:=hv _ rfl
 obtain rfl:qs=ps:=hps _ rfl
 have hv2:Ct cd (pN++tl)=V x++QR tl:=by rw [← hv]; simp only [Ct,QR,vl,yE]
 have ok0:∀ u,((Q9 x je&&ft.all (Kq x))&&(((EC u x.T ft).ins x.m (x.n+x.i) (Cu .none (f x) (rawInt (f x)) qs ids false)).get x.m).isSome)=true:=qW
 have okA:=fun u=>vz.mp (ok0 u)
 have ok1:=vz.mp (okA U0).1
 have OB:∀ j∈ft,Kq x j=true:=wG.mp ok1.2
 have tsome:∀ j∈ft,(x.T.get j).isSome=true:=fun j m=>by obtain ⟨o,e,_⟩:=Ec (OB j m); rw [e]; rfl
 obtain ⟨oe,vs,ge,hd,h1,qf⟩:=Jg ok1.1
 have he:=D.own _ _ _ ge
 have N:Ii cd qs (pN++tl) s (env x) (f x) (ft.map (A4 x)++P.map (·.1)) ids:=by
  refine ⟨hf x,?_,hl,?_,?_,?_,size,?_⟩
  ·have:=own x; rw [← hv] at this; exact this
  ·rw [hv2]; exact top x _ ht.st
  ·rw [hv2]; exact caller x _ ht.st
  ·rw [hv2]; exact tW x _ ht.st
  ·rw [hv2]
   intro e m
   obtain ⟨⟨k1,k2⟩,⟨j,hj,e1⟩ | ⟨g,o,e1,m1,i1⟩⟩:=tU x _ P ht.st hI e m
   ·obtain ⟨o,g,i⟩:=Ec (OB j hj)
    exact ⟨A4 x j,vq _ (vo hj),e1,k1,k2,o,D.own _ _ _ g,i⟩
   ·obtain ⟨o',g',e'⟩:=hP.own _ m1
    have ec:o.cls=o'.cls:=(vm Obj.cls e').symm
    exact ⟨g,vt _ (vo (f:=fun z:Nat×Obj=>z.1) m1),e1,k1,k2,o',g',ec ▸ i1⟩
 obtain ⟨h,S,R⟩:=JJ N he hd h1 qf
 obtain ⟨u,D1,X1,P1,K1⟩:=Nt D hP tsome S
 obtain ⟨oe',ge'⟩:=X1.fwd _ _ _ ge
 have lv:(Cu .none (f x) (rawInt (f x)) qs ids false).isFreed=false:=rfl
 obtain ⟨D2,K2,X2⟩:=J1 (g:=(·.setIfInBounds 1 (.ref (x.n+x.i)))) D1 lv (okA u).2 ge'
 have go:=R.go (p:=p) (w:=w) (hC x)
 rw [D.size] at go
 refine ⟨u,_,?_,D2,X1.trans X2,P1.keep X2 K2,K1.tA X2 K2,trivial⟩
 show Go p w s ⟨C x (Zf (.ref (A4 x je)) (env x)),cd,_,pN++tl⟩ _ ⟨C x (.pure ()),cd,_,pN++tl⟩
 rw [Oe]
 exact go
def C0(e:Env):Vw:=(true,some e,none,true)
def IL(e:Env):Vw:=(false,some e,none,false)
def QY(id:String):Vw:=(false,none,some id,false)
noncomputable def Bp(D:zu):Obj:={ cls:=.type "frame",data:=D }
def Vk(k:Nat)(e:Env):List Vw:=List.replicate k (IL e)++[C0 e]
theorem Ig(k:Nat)(e:Env):BD (Vk k e)=[e]:=by
 unfold Vk
 rw [By]
 induction k with
 | zero=>rfl
 | succ k ih=>exact ih
theorem QI{k:Nat}{e:Env}{f:Nat}(h:e.frame=some f)(Vt:List Vw):Bl f (Vk k e++Vt)=some (Vt.filterMap (·.2.2.1)).eraseDups:=by
 unfold Bl Vk
 have z:(List.replicate k (IL e)++[C0 e]++Vt).dropWhile (fun v=>!(v.1&&v.2.1.bind (·.frame)==some f))=C0 e::Vt:=by
  induction k with
  | zero=>exact yT (by simp [C0,h])
  | succ k ih=>rw [List.replicate_succ,yE,yE,List.dropWhile_cons_of_pos (by rfl)]; exact ih
 rw [z]
theorem AW.cons{E:zi}{R:Lp}{e:Env}{f:Nat}{D:zu}(h:AW E R)(k:DH e)(hf:e.frame=some f):AW (e::E) ((f,Bp D)::R):=fun x m=>by
 cases m with
 | head=>exact ⟨k,f,_,hf,.head _,rfl⟩
 | tail _ m=>obtain ⟨a,g,o,b,c,d⟩:=h x m; exact ⟨a,g,o,b,.tail _ c,d⟩
theorem bf{p:zv}{w:zt}{kt:KT}{n k j:Nat}{E:zi}{rO:List String}{R:Lp}{C:SX→Sem Unit→Sem Fin}{je:Nat}{env:SX→Env}{ps:Pos}{ids:List String}
  (hE:AW E R) (hC:∀ x,FN (C x)) (hf:∀ x,(env x).frame=some (A4 x j)) (hs:∀ x,DH (env x)) (hl:ps.line≠0) (he:"claim.caller"∈rO) (hb:rO.eraseDups=ids) (size:¬ (EntryCells.make ids).length > sizeLine):(O7 C je env (fun x=>A4 x j) [j] (fun x=>Vk k (env x)) ps ids).rz p w kt ⟨n,Ax E rO⟩ (fun P=>P=R):=by
 refine Sr hC hf hl (fun x=>?_) (fun x Vt c=>?_) (fun x Vt c=>?_) (fun x Vt c=>?_) size (fun x Vt P c hP e m=>?_)
 ·unfold Vk
  cases k with
  | zero=>exact hf x
  | succ k=>exact hf x
 ·rw [By,Ig,c.envs]
  show (List.dropWhile _ (env x::E)).head?.bind _=_
  rw [yT (by simp)]
  exact hf x
 ·have m:=he
  rw [← c.ids] at m
  obtain ⟨v,hv,e⟩:=List.mem_filterMap.mp m
  exact yZ.mpr ⟨v,vt _ hv,by rw [e]; rfl⟩
 ·rw [QI (hf x),c.ids,hb]
 ·subst hP
  rw [By,Ig,c.envs] at m
  rcases wK.mp m with rfl | m
  ·exact ⟨hs x,.inl ⟨j,.head _,hf x⟩⟩
  ·obtain ⟨a,b⟩:=hE e m
   exact ⟨a,.inr b⟩
theorem DZ.qd{w:zt}{Sh:Pos→ze→Prop}{C:Code}{Pre:zd}{pQ ph:End→Lp→Prop}(h:DZ w Sh C Pre pQ)(k:∀ e L,pQ e L→∃ L',L.Perm L'∧ph e L'):DZ w Sh C Pre ph:=by
 intro c s pc pN L hp hc H hs
 obtain ⟨e,s',L0,qF,pos',go,po,H',F⟩:=h c s pc pN L hp hc H hs
 obtain ⟨L',p,po⟩:=k _ _ po
 exact ⟨e,s',L',qF,pos',go,po,H'.perm p,F.life,F.gens,F.drawn,F.os,F.old,fun q m=>F.new q (p.mem_iff.mpr m)⟩
def Spec.own(S:Spec)(f:Nat)(D:zu):Spec:=⟨S.C,S.ad++[f],S.pre++[Bp D],S.fin,fun A=>S.ch A++[Bp D],S.nw⟩
theorem Spec.rV{S:Spec}{w:zt}{Sh:Pos→ze→Prop}{E:zi}{R:Lp}{e:Env}{f:Nat}{D:zu}(h:∀ R',AW (e::E) R'→S.pP w Sh (fun P=>P=R') (fun P=>P=R'))(hE:AW E R)(k:DH e)(hf:e.frame=some f)(l1:S.ad.length=S.pre.length)(l2:∀ A,(S.ch A).length=S.ad.length):(S.own f D).pP w Sh (fun P=>P=R) (fun P=>P=R):=by
 rintro P rfl
 have z:=h _ (hE.cons k hf (D:=D)) _ rfl
 have e1:(S.own f D).pq++P=S.pq++(f,Bp D)::P:=by
  show (S.ad++[f]).zip (S.pre++[Bp D])++P=_
  rw [wi l1,vj]; rfl
 refine (z.pU (q8:=fun L=>L=(S.own f D).pq++P) (fun L hL=>hL.trans e1) (fun q q h=>h)).qd ?_
 rintro e' L ⟨A,P',rfl,sub,he,rfl⟩
 refine ⟨(S.own f D).pV A++P,?_,⟨A,P,rfl,fun q m=>m,he,rfl⟩⟩
 show (S.pV A++(f,Bp D)::P).Perm (((S.ad++[f]).zip (S.ch A++[Bp D])++_)++P)
 rw [wi (l2 A).symm]
 unfold Spec.pV
 rw [vj,vj,vj]
 refine vy _ ?_
 exact wV
noncomputable def Xe(k:zl)(X Y:SX→Sem Fin):A8 where
 C:=fun q=>.builtin "" {}
 tr:=[]
 pre:=fun q=>[]
 vs:=fun q=>none
 ok:=fun q x=>k.all (fun j=>(x.T.get j).isSome)
 res:=fun q q=>.ok .next
 upd:=fun q x=>x
 nt:=some ⟨X,Y,none⟩
theorem LV{p:zv}{w:zt}{kt:KT}{St:Tl}{I:zd}{k:zl}{X Y:SX→Sem Fin}(h:∀ x s,BR kt s x→(∀ j∈k,(x.T.get j).isSome=true)→X x=Y x):(Xe k X Y).rz p w kt St I:=by
 refine ⟨_,rfl,?_⟩
 intro x s cd ps pN tl P _ _ _ qW _ D hI hP
 have hk:∀ j∈k,(x.T.get j).isSome=true:=wG.mp (qW U0)
 refine ⟨U0,s,?_,D,BS.refl _,hP,⟨rfl,fun q q h q q=>h⟩,trivial⟩
 show Go p w s ⟨X x,cd,ps,pN++tl⟩ s ⟨Y x,cd,ps,pN++tl⟩
 rw [h x s D hk]
 exact .refl
section
variable{p:zv}{w:zt}{kt:KT}
theorem Wx{t:Nat}{items:Array zq}{ys:zj}(x:Str)(u:Nat)(hi:PyProof.Rows.StrsAre items.toList ys) :
  FL p w (fun s=>PyProof.Rows.IsTup s.heap t items) (.call (.builtin "tuple.__contains__") ⟨[.ref t,.str x u],[]⟩) (fun r=>r=.ok (.ret (.bool (ys.any (· == x))))):=
 ED fun A s hs Q E hq=>wF PyProof.Rows.slot_tuple_contains hs.typeIs PyProof.Rows.entry_tuple_contains (PyProof.Rows.tuple_contains_strs hs hi ⟨_,rfl,hq _ _ rfl (BX.refl _)⟩) (PyProof.Rows.args_tuple_contains _ _)
noncomputable def J7(C:SX→Code)(tr:zl)(pre:SX→List (Option (Nat×Obj)))(res:Nat→SX→Result):A8:=⟨C,tr,pre,fun q=>none,fun q q=>true,fun u x=>res (u.n 0 2) x,fun u x=>x.grown (u.n 0 0) (u.n 0 1),fun q q=>True,none,none,none,false⟩
theorem CS{C:SX→Code}{tr:zl}{pre:SX→List (Option (Nat×Obj))}{res:Nat→SX→Result}
  (h:∀ c x,eC c=C x→tr.map (fun j=>eP (x.T.get j))=pre x→FL p w (fun s=>BR kt s x) c (fun r=>∃ u,r=res u x)):(J7 C tr pre res).Ok p w kt:=by
 refine ⟨rfl,?_⟩
 intro c x s k g l cd pc rest hc hp _ D _
 obtain ⟨s',r,⟨u,rfl⟩,G,go⟩:=h c x hc hp s k g l cd pc rest D
 refine ⟨⟨fun q i=>if i=0 then s'.heap.objs.size else if i=1 then s'.toks else u,fun q=>.plain,fun q=>#[]⟩,s',go,?_,?_,?_,trivial⟩
 ·exact D.grown G
 ·refine ⟨fun q q o h=>⟨o,h⟩,fun q q o h=>.inl ⟨o,h⟩,?_⟩
  show x.n+x.i≤s'.heap.objs.size+0
  rw [← D.size]; exact go.size
 ·exact ⟨G.life,fun b o hb q=>G.old b o hb⟩
theorem Am{X:SX}{m a:Nat}{O:Obj}(h:eP (X.T.get m)=some (a,O)):∃ o,X.T.get m=some (a,o)∧eO o=O:=by
 cases q:X.T.get m with
 | none=>rw [q] at h; cases h
 | some z=>
  rw [q] at h
  simp only [eP,wu,xd] at h
  exact ⟨z.2,by rw [← h.1],h.2⟩
noncomputable def gY(ys:zj)(n:Nat):Obj:={ cls:=.type "tuple",data:=.seq ⟨ys.map (fun y=>.str y 0)⟩ n }
theorem G1:∀ {l:zf} {ys:zj},l.map eV=ys.map (fun y=>.str y 0)→PyProof.Rows.StrsAre l ys
 | [],[],_=>.nil
 | [],_::_,h=>by cases h
 | _::_,[],h=>by cases h
 | v::l,y::ys,h=>by
  simp only [vu,wh] at h
  obtain ⟨t,rfl⟩:=AX h.1
  exact .cons y t (G1 h.2)
theorem Z6{o:Obj}{c:zq}{vs:zf}{n:Nat}(h:eO o = { cls:=c,data:=.seq ⟨vs⟩ n }):∃ xs,o.cls=c∧o.data=.seq xs n∧xs.toList.map eV=vs:=by
 obtain ⟨q,e⟩:=BY o
 rw [h] at e
 subst e
 exact ⟨_,rfl,rfl,vm XG h⟩
def fJ(m n:Nat)(ys:zj)(x:Str)(v:Bool):A8:=J7 (fun X=>.call (.builtin "tuple.__contains__") ⟨[.ref (A4 X m),.str x 0],[]⟩) [m] (fun X=>[some (A4 X m,gY ys n)]) (fun q q=>.ok (.ret (.bool v)))
theorem KU{m n:Nat}{ys:zj}{x:Str}{v:Bool}(hv:ys.any (· == x)=v):(fJ m n ys x v).Ok p w kt:=CS fun c X hc hp=>by
 obtain ⟨ps,rfl,e⟩:=Ak hc
 obtain ⟨t,rfl⟩:=D8 e
 obtain ⟨o,ho,ho2⟩:=Am (wB hp).1
 obtain ⟨xs,hc,hd,hx⟩:=Z6 ho2
 intro s k g l cd pc rest D
 obtain ⟨s',r,hr,G,go⟩:=Wx (p:=p) (w:=w) (t:=A4 X m) (items:=xs) x t (G1 hx) s k g l cd pc rest ⟨o,D.own _ _ _ ho,hc,n,hd⟩
 exact ⟨s',r,⟨0,by rw [hr,hv]⟩,G,go⟩
theorem MA{c:Code}{id:String}{vs:zf}(h:eC c=.builtin id ⟨vs,[]⟩):∃ ps,c=.builtin id ⟨ps,[]⟩∧ps.map eV=vs:=by
 cases c with
 | builtin f' ar=>
  obtain ⟨ps,kw⟩:=ar
  obtain ⟨rfl,hh⟩:=Code.builtin.inj h
  obtain ⟨h1,h2⟩:=Args.mk.inj hh
  obtain rfl:=xa.mp h2
  exact ⟨ps,rfl,h1⟩
 | _=>cases h
theorem Mi(x:Str)(t:Nat)(h:x.length < 2 ^ 62):FL p w (fun q=>True) (.builtin "len" ⟨[.str x t],[]⟩) (Ef x.length):=
 Ek fun A s q Q E hq=>by
  refine zI (z6 entry_len ?_)
  rw [yU plain_len _]
  exact wpAny_mono (wpAny_len_body (Q:=Q) (yi s x t) F.slot_str_len F.entry_str_len (F.args_str_len_1 _) (gives_str_len x t) (by lia) (by lia) (hq _ _ ⟨_,rfl⟩ B7))
   (fun fin s' h'=>by obtain ⟨r,rfl,hq⟩:=h'; exact hq) fun q q e=>e
def OQ(x:Nat)(xs:zl):A8:=J7 (fun q=>.builtin "len" ⟨[.str ⟨⟨x::xs⟩⟩ 0],[]⟩) [] (fun q=>[]) (fun u q=>.ok (.ret (.int (Int.ofNat (Nat.succ xs.length)) u)))
theorem JE{x:Nat}{xs:zl}(h:xs.length+1 < 2 ^ 62):(OQ x xs).Ok p w kt:=CS fun c X hc hp=>by
 obtain ⟨ps,rfl,e⟩:=MA hc
 obtain ⟨v,rfl,e1⟩:=Oj e
 obtain ⟨t,rfl⟩:=AX e1
 intro s k g l cd pc rest D
 obtain ⟨s',r,⟨u,hr⟩,G,go⟩:=Mi (p:=p) (w:=w) ⟨⟨x::xs⟩⟩ t (by simpa [Str.length] using h) s k g l cd pc rest trivial
 exact ⟨s',r,⟨u,by rw [hr]; rfl⟩,G,go⟩
end
section
variable{p:zv}{w:zt}{kt:KT}
theorem Bf{T:String}{name:Str}{id:String}{B:Builtin}{x:Str}{t:Nat}{rest:zf}{m:Made}{R:Result→Prop}(slot:Slot T name id)(hT:∀ s:zr,s.TypeIs (.str x t) T)(entry:entryFor table id=some B)(args:argsOk id ⟨.str x t::rest,[]⟩)(g:Gives (B ⟨.str x t::rest,[]⟩) m)
  (h:∀ (s:zr) (Q:zq→zr→Prop),(∀ v s',R (.ok (.ret v))→BX s s'→Q v s')→m.post Q s):Bm p w (.call (.builtin id) ⟨.str x t::rest,[]⟩) R:=
 GF fun A s Q E hq=>PySem.call_givesAt slot (hT s) entry args (Gives.at (P:=fun q=>True) g) trivial (h s Q hq)
theorem RR(x y:Str)(t u:Nat):Bm p w (.call (.builtin "str.__eq__") ⟨[.str x t,.str y u],[]⟩) (Az (x.cps.toList==y.cps.toList)):=
 Bf F.slot_str_eq (fun s=>yi s x t) F.entry_str_eq (F.args_str_eq_2 _ _) (gives_str_eq x y t u) (fun s Q hq=>hq _ _ rfl (BX.refl s))
theorem RP(x y:Str)(t u:Nat):Bm p w (.call (.builtin "str.__ne__") ⟨[.str x t,.str y u],[]⟩) (Az (x.cps.toList != y.cps.toList)):=
 Bf F.slot_str_ne (fun s=>yi s x t) F.entry_str_ne (F.args_str_ne_2 _ _) (gives_str_ne x y t u) (fun s Q hq=>hq _ _ rfl (BX.refl s))
theorem Na(a b:zl)(t u:Nat)(h:a.length+b.length≤sizeLine):Bm p w (.call (.builtin "str.__add__") ⟨[.str ⟨⟨a⟩⟩ t,.str ⟨⟨b⟩⟩ u],[]⟩) (C6 ⟨⟨a++b⟩⟩):=by
 refine Bf F.slot_str_add (fun s=>yi s _ t) F.entry_str_add (F.args_str_add_2 _ _) (gives_str_add ⟨⟨a⟩⟩ ⟨⟨b⟩⟩ t u) (fun s Q hq=>?_)
 have e:(⟨⟨a⟩⟩++⟨⟨b⟩⟩:Str)=⟨⟨a++b⟩⟩:=by
  show Str.mk (_++_)=_
  simp
 cases a with
 | nil=>exact hq _ _ ⟨u,rfl⟩ (BX.refl s)
 | cons x a=>
  cases b with
  | nil=>exact hq _ _ ⟨t,by rw [w9]⟩ (BX.refl s)
  | cons y b=>
   rw [e]
   exact ⟨by show (x::a++y::b).length≤sizeLine; rw [vn]; exact h,hq _ _ ⟨_,rfl⟩ B7⟩
theorem RT(a:zl)(i c:Nat)(t u:Nat)(h:a[i]?=some c)(hs:a.length≤sizeLine):Bm p w (.call (.builtin "str.__getitem__") ⟨[.str ⟨⟨a⟩⟩ t,.int i u],[]⟩) (C6 ⟨⟨[c]⟩⟩):=by
 have hi:i < a.length:=(wA.mp h).1
 have big:sizeLine < 2 ^ 62:=by decide
 refine Bf F.slot_str_getitem (fun s=>yi s _ t) F.entry_str_getitem (F.args_str_getitem_2 _ _) (gives_str_getitem ⟨⟨a⟩⟩ i t u c ?_ ?_) (fun s Q hq=>⟨(by show 1≤sizeLine; decide),hq _ _ ⟨_,rfl⟩ B7⟩)
 ·simp only [Bool.or_eq_false_iff,decide_eq_false_iff_not]
  lia
 ·have:seqIndex? (i:Int) (Str.length ⟨⟨a⟩⟩)=some i:=by
   unfold seqIndex?
   have hl:(Str.length ⟨⟨a⟩⟩)=a.length:=rfl
   rw [hl]
   simp only [show ¬ ((i:Int) < 0) from by lia,yz]
   first
    | (rw [wD (by lia)]; simp; done)
    | (rw [w2 (by lia)]; simp; done)
    | (simp; lia)
  rw [this]
  simpa using h
def IE(x y:Str)(v:Bool):A8:=En (.call (.builtin "str.__eq__") ⟨[.str x 0,.str y 0],[]⟩) fun q=>.ok (.ret (.bool v))
theorem Pw{c:Code}{id:String}{x y:Str}(h:eC c=.call (.builtin id) ⟨[.str x 0,.str y 0],[]⟩):∃ t u,c=.call (.builtin id) ⟨[.str x t,.str y u],[]⟩:=by
 obtain ⟨ps,rfl,e⟩:=Ak h
 obtain ⟨v,v2,rfl,e1,e2⟩:=EO e
 obtain ⟨t,rfl⟩:=AX e1
 obtain ⟨u,rfl⟩:=AX e2
 exact ⟨t,u,rfl⟩
theorem CB{x y:Str}{v:Bool}(h:(x.cps.toList==y.cps.toList)=v):(IE x y v).Ok p w kt:=BG fun c hc=>by
 obtain ⟨t,u,rfl⟩:=Pw hc
 intro s k g l cd pc rest
 obtain ⟨s',res,e,G,go⟩:=RR (p:=p) (w:=w) x y t u s k g l cd pc rest
 exact ⟨s',res,⟨0,by rw [e,h]⟩,G,go⟩
def ON(x y:Str)(v:Bool):A8:=En (.call (.builtin "str.__ne__") ⟨[.str x 0,.str y 0],[]⟩) fun q=>.ok (.ret (.bool v))
theorem Fm{x y:Str}{v:Bool}(h:(x.cps.toList != y.cps.toList)=v):(ON x y v).Ok p w kt:=BG fun c hc=>by
 obtain ⟨t,u,rfl⟩:=Pw hc
 intro s k g l cd pc rest
 obtain ⟨s',res,e,G,go⟩:=RP (p:=p) (w:=w) x y t u s k g l cd pc rest
 exact ⟨s',res,⟨0,by rw [e,h]⟩,G,go⟩
def CC(a b r:zl):A8:=En (.call (.builtin "str.__add__") ⟨[.str ⟨⟨a⟩⟩ 0,.str ⟨⟨b⟩⟩ 0],[]⟩) fun u=>.ok (.ret (.str ⟨⟨r⟩⟩ u))
theorem Ao{a b r:zl}(h:a.length+b.length≤sizeLine)(hr:a++b=r):(CC a b r).Ok p w kt:=BG fun c hc=>by
 obtain ⟨t,u,rfl⟩:=Pw hc
 rw [← hr]
 exact Na a b t u h
def EK(a:zl)(i c:Nat):A8:=En (.call (.builtin "str.__getitem__") ⟨[.str ⟨⟨a⟩⟩ 0,.int i 0],[]⟩) fun u=>.ok (.ret (.str ⟨⟨[c]⟩⟩ u))
theorem B5{a:zl}{i c:Nat}(h:a[i]?=some c)(hs:a.length≤sizeLine):(EK a i c).Ok p w kt:=BG fun cc hc=>by
 obtain ⟨ps,rfl,e⟩:=Ak hc
 obtain ⟨v,v2,rfl,e1,e2⟩:=EO e
 obtain ⟨t,rfl⟩:=AX e1
 obtain ⟨u,rfl⟩:=E4 e2
 exact RT a i c t u h hs
theorem Jx(x:Str)(t a:Nat)(j:Nat)(tj:Nat)(h2:j < x.length)(h3:x.length≤sizeLine) :
  FL p w (fun s=>s.heap.IsSlice a none (some ((j:Int),tj)) none) (.call (.builtin "str.__getitem__") ⟨[.str x t,.ref a],[]⟩) (C6 ⟨⟨x.cps.toList.take j⟩⟩):=by
 refine G3 x t a 0 j _ _ (yj _) (Nat.le_of_lt h2) h3 h2 ?_
 have m:max 0 (min (0:Int) (x.length:Int))=0:=by rw [Int.min_eq_left (zJ _)]; rfl
 unfold slicePicked Builtin.Str.strSliceIndices
 show sliceRange 0 _ 1=sliceRange (max 0 (min 0 (x.length:Int))) _ 1
 rw [m]; rfl
theorem Mw{o:Obj}{j:Int}(h:eO o = { cls:=.type "slice",data:=.fields #[.none,.int j 0,.none] }):∃ tj,o.cls=.type "slice"∧o.data=.fields #[.none,.int j tj,.none]:=by
 obtain ⟨q,e⟩:=BY o
 rw [h] at e
 subst e
 exact ⟨_,rfl,rfl⟩
def JH(x:Str)(m j:Nat)(r:zl):A8:=J7 (fun X=>.call (.builtin "str.__getitem__") ⟨[.str x 0,.ref (A4 X m)],[]⟩) [m] (fun X=>[some (A4 X m,{ cls:=.type "slice",data:=.fields #[.none,.int j 0,.none] })]) (fun u q=>.ok (.ret (.str ⟨⟨r⟩⟩ u)))
theorem EJ{x:Str}{m j:Nat}{r:zl}(h2:j < x.length)(h3:x.length≤sizeLine)(hr:x.cps.toList.take j=r):(JH x m j r).Ok p w kt:=CS fun c X hc hp=>by
 obtain ⟨t,rfl⟩:=M9 hc
 obtain ⟨o,ho,ho2⟩:=Am (wB hp).1
 obtain ⟨tj,qO,hdt⟩:=Mw ho2
 intro s k g l cd pc rest D
 rw [← hr]
 exact Jx (p:=p) (w:=w) x t (A4 X m) j tj h2 h3 s k g l cd pc rest ⟨o,D.own _ _ _ ho,qO,hdt⟩
def W8(x:Str)(m i j:Nat)(r:zl):A8:=J7 (fun X=>.call (.builtin "str.__getitem__") ⟨[.str x 0,.ref (A4 X m)],[]⟩) [m] (fun X=>[some (A4 X m,{ cls:=.type "slice",data:=.fields #[.int i 0,.int j 0,.none] })]) (fun u q=>.ok (.ret (.str ⟨⟨r⟩⟩ u)))
theorem OV{x:Str}{m i j:Nat}{r:zl}(h1:i≤j)(h2:j≤x.length)(h3:x.length≤sizeLine)(h4:j-i < x.length)(hr:(x.cps.toList.drop i).take (j-i)=r):(W8 x m i j r).Ok p w kt:=CS fun c X hc hp=>by
 obtain ⟨t,rfl⟩:=M9 hc
 obtain ⟨o,ho,ho2⟩:=Am (wB hp).1
 obtain ⟨ti,tj,qO,hdt⟩:=Jb ho2
 intro s k g l cd pc rest D
 rw [← hr]
 exact HD (p:=p) (w:=w) x t (A4 X m) i j ti tj h1 h2 h3 h4 s k g l cd pc rest ⟨o,D.own _ _ _ ho,qO,hdt⟩
end
end
section
open PySem PySem.W PySem.W.X PySem.Builtin.Str
noncomputable def XF:Pos→ze→Prop:=fun pc pN=>∃ k g l cd rest,pN=Frame.ret k none g l cd pc []::rest
theorem Spec.pP.uY{S:Spec}{w:zt}{I O:zd}(h:S.pP w XF I O):S.pP w Eh I O:=fun P hI c s pc pN L a b d e=>h P hI c s pc pN L a b d e.2
theorem MI{w:zt}{f:zq}{as:zf}{Pre:zd}{pQ:End→Lp→Prop}
  (h:∀ (vs:zf) (A:Around) (s:zr) (L:Lp),Pre L→vs.map eV=as→BA (A5 w.2) s L→∀ (Q E:zq→zr→Prop),(∀ v s' L',pQ (.fin (.done (.ret (eV v)))) L'→BA (A5 w.2) s' L'→Fr s s' L L'→Q v s')→wpAny (model pw w) A (call f vs) Q E s):DZ w XF (.call f ⟨as,[]⟩) Pre pQ:=by
 intro c s pc pN L hp hc H hs
 obtain ⟨vs,rfl,e⟩:=Ak hc
 obtain ⟨k,g,l,cd,rest,rfl⟩:=hs
 exact CQ (c:=.call f ⟨vs,[]⟩) (h vs (QD cd rest) s L hp e H (fun v s'=>∃ L',pQ (.fin (.done (.ret (eV v)))) L'∧BA (A5 w.2) s' L'∧Fr s s' L L') (fun q q=>False) fun v s' L' a b c=>⟨L',a,b,c⟩) (fun v s' _ _ ⟨L',a,b,c⟩ go=>⟨.fin (.done (.ret v)),s',L',_,_,go,a,b,c⟩) (fun q q q q h=>h.elim)
theorem Q8{w:zt}{f:zq}{as:zf}{Pre:zd}{pQ:End→Lp→Prop}
  (h:∀ (vs:zf) (A:Around) (s:zr) (L:Lp),Pre L→vs.map eV=as→BA (A5 w.2) s L→∀ (Q E:zq→zr→Prop),(∀ v s' L',pQ (.fin (.done (.ret (eV v)))) L'→BA (A5 w.2) s' L'→Fr s s' L L'→Q v s')→wpAny (model pw w) A (call f vs) Q E s):DZ w Eh (.call f ⟨as,[]⟩) Pre pQ:=fun c s pc pN L a b d e=>MI h c s pc pN L a b d e.2
theorem Bd{kt:KT}{s:zr}{a:Nat}{o o':Obj}{F:Lp}{f:Obj→Obj}{tk:Nat}(H:BA kt s ((a,eO o)::F))(ho:s.heap.get? a=some o)(hf:f o=o')(hl:o'.isFreed=false) :
  BA kt { s with heap:=s.heap.update a f,toks:=tk } ((a,eO o')::F)∧Fr s { s with heap:=s.heap.update a f,toks:=tk } ((a,eO o)::F) ((a,eO o')::F):=by
 have hs:Heap.SameBut a s.heap (s.heap.update a f):=xM ..
 have hself:(s.heap.update a f).get? a=some o':=by
  rw [← hf] at hl ⊢
  exact xV f ho hl
 have nd:=H.nd
 rw [vu,wZ] at nd
 have ne:∀ q∈F,q.1≠a:=fun q m e=>nd.1 (wC.mpr ⟨q,m,e⟩)
 refine ⟨⟨fun b ob h=>?_,fun q m=>?_,H.nd,fun q m=>?_⟩,?_,rfl,rfl,rfl,fun b ob h n=>?_,fun q m=>?_⟩
 ·have:b≠a:=fun e=>by
   have:=H.off (a,eO o) (.head _)
   dsimp only at this
   rw [← e,h] at this; cases this
  exact (hs.2 b this).trans (H.top b ob h)
 ·rcases wK.mp m with rfl | m
  ·exact ⟨o',hself,rfl⟩
  ·obtain ⟨ob,h1,h2⟩:=H.own q (.tail _ m)
   exact ⟨ob,(hs.2 _ (ne q m)).trans h1,h2⟩
 ·rcases wK.mp m with rfl | m
  ·exact H.off (a,eO o) (.head _)
  ·exact H.off q (.tail _ m)
 ·cases s with | mk h=>cases h; rfl
 ·exact (hs.2 b (fun e=>n (by rw [e]; exact .head _))).trans h
 ·rcases wK.mp m with rfl | m
  ·exact .inl (.head _)
  ·exact .inl (.tail _ (vo m))
theorem BA.find{kt:KT}{s:zr}{a:Nat}{O:Obj}{F:Lp}(H:BA kt s ((a,O)::F)):∃ o,s.heap.get? a=some o∧eO o=O:=H.own (a,O) (.head _)
def Ol(vs:zf)(n:Nat):Obj:={ cls:=.type "list",data:=.seq ⟨vs⟩ n }
theorem IZ{o:Obj}{vs:zf}{n:Nat}(h:eO o=Ol vs n):∃ xs:Array zq,o = { cls:=.type "list",dict:=none,data:=.seq xs n,slots:=#[] }∧xs.toList.map eV=vs:=by
 obtain ⟨q,e⟩:=BY o
 rw [h] at e
 subst e
 exact ⟨_,rfl,vm XG h⟩
def lx(a:Nat)(vs:zf)(n:Nat)(v:zq):Spec:=⟨.call (.builtin "list.append") ⟨[.ref a,v],[]⟩,[a],[Ol vs n],fun q=>.fin (.done (.ret .none)),fun q=>[Ol (vs++[v]) (n+1)],fun q=>[]⟩
theorem QE(w:zt)(a:Nat)(vs:zf)(n:Nat)(v:zq)(hs:vs.length≤sizeLine)(I:zd):(lx a vs n v).pP w Eh I I:=by
 intro P hI
 refine Q8 fun as A s L hL ha H Q E hq=>?_
 subst hL
 obtain ⟨x,y,rfl,e1,e2⟩:=EO ha
 obtain rfl:=B3 e1
 have H':BA (A5 w.2) s ((a,Ol vs n)::P):=H
 obtain ⟨o,ho,hO⟩:=H'.find
 obtain ⟨xs,rfl,hx⟩:=IZ hO
 have hsz:xs.size≤sizeLine:=by
  have:=vm List.length hx
  simp only [vh,yd] at this
  lia
 refine yR F.slot_list_append ⟨_,ho,rfl⟩ F.entry_list_append (F.args_list_append_2 _ _) (PySem.list_append a xs n y hsz) ⟨ho,?_⟩
 rw [← hO] at H'
 have U:=Bd (f:=Obj.mapSeq (·.push y)) (tk:=s.toks) H' ho rfl rfl
 refine hq _ _ _ ⟨fun q=>0,P,hI,fun q m=>m,rfl,?_⟩ U.1 ?_
 ·show _=(a,Ol (vs++[v]) (n+1))::P
  have e:((xs.push y).toList).map eV=vs++[v]:=by rw [zP,vl,hx,List.map_singleton,e2]
  have em:Obj.mapSeq (fun x=>x.push y) { cls:=.type "list",data:=.seq xs n } = ({ cls:=.type "list",data:=.seq (xs.push y) (n+1) }:Obj):=by simp [Obj.mapSeq]
  rw [em,← e]; rfl
 ·rw [hO] at U; exact U.2
noncomputable def A0(D:zu):Obj:={ cls:=.type "list",data:=D }
def dk(a:Nat)(D D':zu)(v:zq):Spec:=⟨.call (.builtin "list.append") ⟨[.ref a,v],[]⟩,[a],[A0 D],fun q=>.fin (.done (.ret .none)),fun q=>[A0 D'],fun q=>[]⟩
theorem QF(w:zt)(a:Nat)(D D':zu)(v:zq)(vs:zf)(n:Nat)(hD:D=.seq ⟨vs⟩ n)(qU:D'=.seq ⟨vs++[v]⟩ (n+1))(hs:vs.length≤sizeLine)(I:zd):(dk a D D' v).pP w Eh I I:=by
 subst hD qU
 exact QE w a vs n v hs I
def Dn(m:Nat)(D D':zu)(v:zq):A8:=Cm (fun q=>none) [m] [true] [] (fun x=>dk (A4 x m) D D' v)
theorem Av{w:zt}{m:Nat}{D D':zu}{v:zq}{vs:zf}{n:Nat}{I:zd}{St:Tl}(hD:D=.seq ⟨vs⟩ n)(qU:D'=.seq ⟨vs++[v]⟩ (n+1))(hs:vs.length≤sizeLine):(Dn m D D' v).qB pw w (A5 w.2) St I I:=
 Ab (w:=w) (Sf:=fun q=>Eh) (fun x=>QF w (A4 x m) D D' v vs n hD qU hs I) CP (by simp) (fun q=>⟨rfl,rfl,fun q=>rfl⟩) (fun q q=>rfl)
def Ld(sep:Str)(m:Nat)(D:zu)(r:zl):A8:=J7 (fun X=>.call (.builtin "str.join") ⟨[.str sep 0,.ref (A4 X m)],[]⟩) [m] (fun X=>[some (A4 X m,A0 D)]) (fun u q=>.ok (.ret (.str ⟨⟨r⟩⟩ u)))
theorem L5:∀ {l:zf} {ys:zj},l.map eV=ys.map (fun y=>.str y 0)→∃ z:List (Str×Tok),l=strValues z∧z.map (·.1)=ys
 | [],[],_=>⟨[],rfl,rfl⟩
 | [],_::_,h=>by cases h
 | _::_,[],h=>by cases h
 | v::l,y::ys,h=>by
  simp only [vu,wh] at h
  obtain ⟨t,rfl⟩:=AX h.1
  obtain ⟨z,rfl,hz⟩:=L5 h.2
  exact ⟨(y,t)::z,rfl,by simp [hz]⟩
theorem GN{p:zv}{w:zt}{kt:KT}{sep:Str}{m:Nat}{D:zu}{r:zl}{ys:zj}{n:Nat}(hD:D=.seq ⟨ys.map (fun y=>.str y 0)⟩ n)(hr:glued sep ys=⟨⟨r⟩⟩)(hl:tooLong (ys.toArray.foldl (· + ·.length+sep.length) 0)=false)(hs:r.length≤sizeLine):(Ld sep m D r).Ok p w kt:=CS fun c X hc hp=>by
 subst hD
 obtain ⟨t,rfl⟩:=M9 hc
 obtain ⟨o,ho,ho2⟩:=Am (wB hp).1
 obtain ⟨xs,rfl,hx⟩:=IZ ho2
 obtain ⟨z,hz,qz⟩:=L5 hx
 refine ED (Pre:=fun s=>BR kt s X) fun A s D Q E hq=>?_
 have il:s.heap.IsList (A4 X m) (strValues z).toArray:=⟨_,D.own _ _ _ ho,rfl,n,by rw [← hz]⟩
 refine yR F.slot_str_join (yi s sep t) F.entry_str_join (F.args_str_join_2 _ _) (meets_str_join_list sep t (A4 X m) z (by rw [qz]; exact hl)) ⟨il,?_⟩
 have key:∀ w:List (Str×Tok),w.map (·.1)=ys→(joinMade sep w).post (fun v s'=>wants Q E (.ok (.ret v)) s') s:=by
  intro w hw
  subst hw
  cases w with
  | nil=>exact ⟨by show (glued sep []).length≤sizeLine; have hr':glued sep []=⟨⟨r⟩⟩:=hr; rw [hr']; exact hs,hq _ _ ⟨s.toks,by have hr':glued sep []=⟨⟨r⟩⟩:=hr; rw [← hr']; rfl⟩ B7⟩
  | cons a w=>
   cases w with
   | nil=>
    have e1:glued sep ([a].map (·.1))=a.1:=by simp [glued]
    refine hq _ _ ⟨a.2,?_⟩ (BX.refl s)
    rw [← hr,e1]
   | cons b w=>exact ⟨by show (glued sep ((a::b::w).map (·.1))).length≤sizeLine; rw [hr]; exact hs,hq _ _ ⟨s.toks,by rw [← hr]⟩ B7⟩
 exact key z qz
end
section
open PySem PySem.W PySem.W.X
noncomputable def kE(P:zp)(k:String)(v:zq):DictEntry:=⟨PyData.keyHash P (Str.ofString k),.str (Str.ofString k) 0,v⟩
noncomputable def Bv(v left step:Int):Obj:={ cls:=.type "range_iterator",data:=.fields #[.int v 0,.int left 0,.int step 0] }
noncomputable def AR(aE:Nat):Obj:={ cls:=.ref 749,dict:=some aE }
def AS(P:zp)(buf:Str)(pos:Int):Obj:={ cls:=.type "dict",data:=.dict #[kE P "_StringIO__newline" (.str (Str.ofString "\n") 0),kE P "_StringIO__buf" (.str buf 0),kE P "_StringIO__pos" (.int pos 0)] 3 }
theorem Gn:sizeLine < 2 ^ 62:=by decide
def i9(P:zp)(aS aE:Nat)(buf:Str)(p:Nat):Spec:=⟨.call (.ref 695) ⟨[.ref aS,.int 1 0],[]⟩,[aS,aE],[AR aE,AS P buf p],fun A=>.fin (.done (.ret (.str ⟨⟨(buf.cps.toList.drop p).take (p+1-p)⟩⟩ 0))),fun A=>[AR aE,AS P buf ((p+1:Nat):Int)],fun A=>[]⟩
variable{St:zc}(w:zt)(b b2:Bool)
theorem Rw(aS aE:Nat)(buf:Str)(p:Nat)(h1:p+1 < buf.length)(h2:buf.length≤sizeLine)(I:zd):(i9 w.2 aS aE buf p).PI w b b2 12 St I:=As (Ag [KS 1 (-1099511627776) false,Md buf,Le p buf.length false,Le 1 0 true,KS ((p+1:Nat):Int) buf.length true,YE buf 5 p (p+1)]) 6 [] (hD 7 187 53523913989276092031989188001831959259311120156141025282610866978894491236688471461582248459983106691132816572177660089697056592654158262402986554456006307186) 7 [4,0,0,1,3] 1 fun E0 ke=>.q (BN rfl) fun z z z=>.q (EH (by have:=Gn; lia)) fun z z z=>.q (Bb (wg (by lia))) fun z z z=>.q (Bb rfl) fun z z z=>.q (BN (wj (by lia))) fun z z z=>.q (Lg (by lia) (by lia) h2 (by lia)) fun z z z=>.pO ke rfl
def iA(P:zp)(aS aE:Nat)(buf:Str)(p:Nat):Spec:=⟨.call (.ref 695) ⟨[.ref aS,.int 1 0],[]⟩,[aS,aE],[AR aE,AS P buf p],fun A=>.fin (.done (.ret (.str ⟨⟨(buf.cps.toList.drop p).take (buf.length-p)⟩⟩ 0))),fun A=>[AR aE,AS P buf buf.length],fun A=>[]⟩
theorem Rx(aS aE:Nat)(buf:Str)(p:Nat)(h0:0 < p)(h1:p+1=buf.length)(h2:buf.length≤sizeLine)(I:zd):(iA w.2 aS aE buf p).PI w b b2 12 St I:=As (Ag [KS 1 (-1099511627776) false,Md buf,Le p buf.length false,Le 1 0 true,KS ((p+1:Nat):Int) buf.length false,YE buf 5 p buf.length]) 6 [] (hD 7 183 22292342352884669734272881300221557375806380739749616482892573316438567959573655780000238618112939845783831054888997934102517271018251564946367451502487586) 7 [4,0,0,1,2] 1 fun E0 ke=>.q (BN rfl) fun z z z=>.q (EH (by have:=Gn; lia)) fun z z z=>.q (Bb (wg (by lia))) fun z z z=>.q (Bb rfl) fun z z z=>.q (BN (wg (by lia))) fun z z z=>.q (Lg (by lia) (by lia) h2 (by lia)) fun z z z=>.pO ke rfl
def mZ(P:zp)(aS aE:Nat)(buf:Str)(p:Nat):Spec:=⟨.call (.ref 695) ⟨[.ref aS,.int 1 0],[]⟩,[aS,aE],[AR aE,AS P buf p],fun A=>.fin (.done (.ret (.str ⟨⟨[]⟩⟩ 0))),fun A=>[AR aE,AS P buf p],fun A=>[]⟩
theorem Ry(aS aE:Nat)(buf:Str)(p:Nat)(h1:buf.length≤p)(h2:buf.length≤sizeLine)(I:zd):(mZ w.2 aS aE buf p).PI w b b2 12 St I:=As (Ag [KS 1 (-1099511627776) false,Md buf,Le p buf.length true]) 3 [] (hD 7 129 5206439720530891583133807067031072523745883702585988774058978147223532249849506571733594693847400610890239798) 7 [4,0] 1 fun E0 ke=>.q (BN rfl) fun z z z=>.q (EH (by have:=Gn; lia)) fun z z z=>.q (Bb (wj (by lia))) fun z z z=>.pO ke rfl
def rd(P:zp)(aS aE:Nat)(buf:Str)(p c:Nat):Spec:=⟨.call (.ref 695) ⟨[.ref aS,.int 1 0],[]⟩,[aS,aE],[AR aE,AS P buf p],fun q=>.fin (.done (.ret (.str ⟨⟨[c]⟩⟩ 0))),fun q=>[AR aE,AS P buf ((p+1:Nat):Int)],fun q=>[]⟩
theorem XR(aS aE:Nat)(buf:Str)(p c:Nat)(h:buf.cps.toList[p]?=some c)(h1:2≤buf.length)(h2:buf.length≤sizeLine)(I:zd):(rd w.2 aS aE buf p c).PI w b b2 12 St I:=by
 obtain ⟨lt,e⟩:=wA.mp h
 have lt':p < buf.length:=by simpa [Str.length] using lt
 have cut:(buf.cps.toList.drop p).take 1=[c]:=by
  rw [wH lt,List.take_succ_cons,List.take_zero,e]
 by_cases q:p+1 < buf.length
 ·have t:=Rw (St:=St) w b b2 aS aE buf p q h2 I
  have:i9 w.2 aS aE buf p=rd w.2 aS aE buf p c:=by
   unfold i9 rd
   rw [show p+1-p=1 by lia,cut]
  rw [this] at t; exact t
 ·have t:=Rx (St:=St) w b b2 aS aE buf p (by lia) (by lia) h2 I
  have:iA w.2 aS aE buf p=rd w.2 aS aE buf p c:=by
   unfold iA rd
   rw [show buf.length=p+1 by lia,show p+1-p=1 by lia,cut]
  rw [this] at t; exact t
theorem m2{c x y:Nat}(h:c=x∨c=y):c∈[x,y]:=h.elim (fun e=>e ▸ .head _) fun e=>e ▸ .tail _ (.head _)
theorem m4{c x y z u:Nat}(h:c=x∨c=y∨c=z∨c=u):c∈[x,y,z,u]:=h.elim (fun e=>e ▸ .head _) fun h=>.tail _ (h.elim (fun e=>e ▸ .head _) fun h=>.tail _ (m2 h))
theorem mC{s c:Nat}(h:(s=39∧(c=97∨c=98∨c=99∨c=100∨c=61∨c=34∨c=32))∨(s=34∧c=39)):(s,c)∈[(39,97),(39,98),(39,99),(39,100),(39,61),(39,34),(39,32),(34,39)]:=by rcases h with ⟨rfl,rfl | rfl | rfl | rfl | rfl | rfl | rfl⟩ | ⟨rfl,rfl⟩<;>decide
noncomputable def CM(f:FuncData):List Stmt:=match f.body with
 | .stmts b=>b
 | _=>[]
noncomputable def cw(a:Nat)(f:FuncData)(qual:String)(fr:Nat):Env:={ scope:=f.scope,locals:=fr,globals:=f.globals,cells:=[],qual:=Str.ofString qual,func:=some a,code:=f.code,frame:=some fr,builtins:=f.builtins }
noncomputable def mN(st:Stmt)(env:Env):Code:=match st with
 | .While t b o _=>.whileLoop t b o env
 | _=>.builtin "" {}
def nr:FuncData:=fd (HY 32 6) "shlex.read_token" .none (vs "cpy313.shlex" 1318) (.ref 851)
def B8(fr:Nat):Code:=mN ((CM nr).getD 2 (.Pass default)) (cw 852 nr "shlex.read_token.<locals>." fr)
noncomputable def sv(s:String):zq:=.str (Str.ofString s) 0
noncomputable def Ac(aD:Nat):Obj:={ cls:=.ref 884,dict:=some aD }
noncomputable def fU(es:List DictEntry)(n:Nat):Obj:={ cls:=.type "frame",data:=.dict ⟨es⟩ n }
def Ad(P:zp)(aS aP aQ:Nat)(st:zq)(tok:Str):Obj:={ cls:=.type "dict",data:=.dict #[kE P "instream" (.ref aS),kE P "infile" .none,kE P "posix" (.bool true),kE P "eof" .none,kE P "commenters" (sv ""),kE P "wordchars" (sv "abcdfeghijklmnopqrstuvwxyzABCDEFGHIJKLMNOPQRSTUVWXYZ0123456789_ßàáâãäåæçèéêëìíîïðñòóôõöøùúûüýþÿÀÁÂÃÄÅÆÇÈÉÊËÌÍÎÏÐÑÒÓÔÕÖØÙÚÛÜÝÞ"),kE P "whitespace" (sv " \t\r\n"),kE P "whitespace_split" (.bool true),kE P "quotes" (sv "'\""),kE P "escape" (sv "\\"),kE P "escapedquotes" (sv "\""),kE P "state" st,kE P "pushback" (.ref aP),kE P "lineno" (.int 1 0),kE P "debug" (.int 0 0),kE P "token" (.str tok 0),kE P "filestack" (.ref aQ),kE P "source" .none,kE P "_punctuation_chars" (sv "")] 19 }
def Pj(P:zp)(aL:Nat)(q:Bool):Obj:=fU [kE P "self" (.ref aL),kE P "quoted" (.bool q),kE P "escapedstate" (sv " ")] 3
def Hf(P:zp)(aL:Nat)(q:Bool)(c:zl):Obj:=fU [kE P "self" (.ref aL),kE P "quoted" (.bool q),kE P "escapedstate" (sv " "),kE P "nextchar" (.str ⟨⟨c⟩⟩ 0)] 4
noncomputable def cv(c:Nat):zq:=.str ⟨⟨[c]⟩⟩ 0
def TJ(P:zp)(aS aE:Nat)(buf:Str)(p c:Nat):A8:=BU [3,4] [] [] (fun q=>rd P aS aE buf p c)
variable{w b b2}
theorem C'{aS aE:Nat}{buf:Str}{p c:Nat}{I:zd}{St:zc}(h:buf.cps.toList[p]?=some c)(h1:2≤buf.length)(h2:buf.length≤sizeLine):(TJ w.2 aS aE buf p c).qB pw (wf w b b2) (A5 w.2) ⟨11,St⟩ I I:=
 AL (w:=wf w b b2) (fun q=>XR w b b2 aS aE buf p c h h1 h2 I) (by decide) (fun q=>⟨rfl,rfl,fun q=>rfl⟩) (fun q q=>rfl)
def Xm(P:zp)(aS aE:Nat)(buf:Str)(p:Nat):A8:=BU [3,4] [] [] (fun q=>mZ P aS aE buf p)
theorem La{aS aE:Nat}{buf:Str}{p:Nat}{I:zd}{St:zc}(h:buf.length≤p)(h2:buf.length≤sizeLine):(Xm w.2 aS aE buf p).qB pw (wf w b b2) (A5 w.2) ⟨11,St⟩ I I:=
 AL (w:=wf w b b2) (fun q=>Ry w b b2 aS aE buf p h h2 I) (by decide) (fun q=>⟨rfl,rfl,fun q=>rfl⟩) (fun q q=>rfl)
def cB(x y:Nat)(a b:zl):A8:=En (.call (.builtin "str.__add__") ⟨[.str ⟨⟨x::a⟩⟩ 0,.str ⟨⟨y::b⟩⟩ 0],[]⟩) fun u=>.ok (.ret (.str ⟨⟨x::a++y::b⟩⟩ u))
theorem Th{p:zv}{w:zt}{kt:KT}{x y:Nat}{a b:zl}(h:a.length+b.length+2≤sizeLine):(cB x y a b).Ok p w kt:=BG fun c hc=>by
 obtain ⟨t,u,rfl⟩:=WU hc
 exact RU x y a b t u h
def oS(P:zp)(fr aL aD aS aE:Nat)(aP aQ:Nat)(buf:Str)(p:Nat)(x:Nat)(xs:zl)(k:Nat):Spec:=⟨B8 fr,[fr,aL,aD,aS,aE],[Pj P aL false,Ac aD,Ad P aS aP aQ (cv 32) ⟨⟨[]⟩⟩,AR aE,AS P buf p],fun A=>.fin (.again (B8 fr)),fun A=>[Hf P aL false [39],Ac aD,Ad P aS aP aQ (cv 39) ⟨⟨[]⟩⟩,AR aE,AS P buf ((p+1:Nat):Int)],fun A=>[]⟩
variable{St:zc}(w b b2)
theorem Rj(fr aL aD aS aE:Nat)(aP aQ:Nat)(buf:Str)(p:Nat)(x:Nat)(xs:zl)(k:Nat)(h:buf.cps.toList[p]?=some 39)(h1:2≤buf.length)(h2:buf.length≤sizeLine)(h3:xs.length+2≤sizeLine)(I:zd):(oS w.2 fr aL aD aS aE aP aQ buf p x xs k).PI w b b2 11 St I:=As (Ag [TJ w.2 aS aE buf p 39]) 1 [] (hD 9 260 47481765278339460292204878765116611401467413894064641906551895001189706608735060017819477099678723012400213339638058516758223480747336342984327141687837139187487172382027246243202739352952195743421466954385905098541586243109501509999735999515555775) 6 [] 0 fun E0 ke=>.cons (C' h h1 h2) fun q q q=>.pO ke rfl
def h8(P:zp)(fr aL aD aS aE:Nat)(aP aQ:Nat)(buf:Str)(p:Nat)(x:Nat)(xs:zl)(k:Nat)(c:Nat):Spec:=⟨B8 fr,[fr,aL,aD,aS,aE],[Pj P aL false,Ac aD,Ad P aS aP aQ (cv 32) ⟨⟨[]⟩⟩,AR aE,AS P buf p],fun A=>.fin (.again (B8 fr)),fun A=>[Hf P aL false [c],Ac aD,Ad P aS aP aQ (cv 97) ⟨⟨[c]⟩⟩,AR aE,AS P buf ((p+1:Nat):Int)],fun A=>[]⟩
theorem Rg(fr aL aD aS aE:Nat)(aP aQ:Nat)(buf:Str)(p:Nat)(x:Nat)(xs:zl)(k:Nat)(c:Nat)(hc:c=97∨c=98∨c=99∨c=100)(h:buf.cps.toList[p]?=some c)(h1:2≤buf.length)(h2:buf.length≤sizeLine)(h3:xs.length+2≤sizeLine)(I:zd):(h8 w.2 fr aL aD aS aE aP aQ buf p x xs k c).PI w b b2 11 St I:=Ae (⟨c,[97,98,99,100],m4 hc⟩:Cs Nat) (fun z D=>h8 w.2 fr aL aD aS aE aP aQ buf p x xs k z) (fun z D l=>h8 w.2 fr aL aD aS aE aP aQ buf p x xs k z) (fun z D=>(Ag [TJ w.2 aS aE buf p z])) 1 (fun z=>[]) [] (hD 8 218 31978147420467414916975183909714404501960638775077092325990454776680201607297061253276824947375874481021953818556487773210696221290835723677667034948278788119963673781634723398152153327038174920721) 6 [] 0 [] fun E0 ke=>.cons (C' h h1 h2) fun q q q=>.pO ke rfl
def oR(P:zp)(fr aL aD aS aE:Nat)(aP aQ:Nat)(buf:Str)(p:Nat)(x:Nat)(xs:zl)(k:Nat):Spec:=⟨B8 fr,[fr,aL,aD,aS,aE],[Pj P aL false,Ac aD,Ad P aS aP aQ (cv 32) ⟨⟨[]⟩⟩,AR aE,AS P buf p],fun A=>.fin (.again (B8 fr)),fun A=>[Hf P aL false [61],Ac aD,Ad P aS aP aQ (cv 97) ⟨⟨[61]⟩⟩,AR aE,AS P buf ((p+1:Nat):Int)],fun A=>[]⟩
theorem Rf(fr aL aD aS aE:Nat)(aP aQ:Nat)(buf:Str)(p:Nat)(x:Nat)(xs:zl)(k:Nat)(h:buf.cps.toList[p]?=some 61)(h1:2≤buf.length)(h2:buf.length≤sizeLine)(h3:xs.length+2≤sizeLine)(I:zd):(oR w.2 fr aL aD aS aE aP aQ buf p x xs k).PI w b b2 11 St I:=As (Ag [TJ w.2 aS aE buf p 61]) 1 [] (hD 9 278 7126758242710077278507152479225816714489199550876394969694006479913640266637639728335799971270971598798532337043092158890053508960855292263572795494240764760891646570375727791999040440626013981384566078441323016506958503202991021054041020912391677793983430987915843) 6 [] 0 fun E0 ke=>.cons (C' h h1 h2) fun q q q=>.pO ke rfl
def i5(P:zp)(fr aL aD aS aE:Nat)(aP aQ:Nat)(buf:Str)(p:Nat)(x:Nat)(xs:zl)(k:Nat)(c:Nat):Spec:=⟨B8 fr,[fr,aL,aD,aS,aE],[Hf P aL false [k],Ac aD,Ad P aS aP aQ (cv 39) ⟨⟨[]⟩⟩,AR aE,AS P buf p],fun A=>.fin (.again (B8 fr)),fun A=>[Hf P aL true [c],Ac aD,Ad P aS aP aQ (cv 39) ⟨⟨[c]⟩⟩,AR aE,AS P buf ((p+1:Nat):Int)],fun A=>[]⟩
theorem Ri(fr aL aD aS aE:Nat)(aP aQ:Nat)(buf:Str)(p:Nat)(x:Nat)(xs:zl)(k:Nat)(c:Nat)(hc:c=34∨c=61∨c=97∨c=100)(h:buf.cps.toList[p]?=some c)(h1:2≤buf.length)(h2:buf.length≤sizeLine)(h3:xs.length+2≤sizeLine)(I:zd):(i5 w.2 fr aL aD aS aE aP aQ buf p x xs k c).PI w b b2 11 St I:=Ae (⟨c,[34,61,97,100],m4 hc⟩:Cs Nat) (fun z D=>i5 w.2 fr aL aD aS aE aP aQ buf p x xs k z) (fun z D l=>i5 w.2 fr aL aD aS aE aP aQ buf p x xs k z) (fun z D=>(Ag [TJ w.2 aS aE buf p z])) 1 (fun z=>[]) [] (hD 8 212 121986951524610194077054654384052811285875180012167602075088536910064549102847838727197390082887245365594861676060156948627896197431545949649995918008884755402386745565116322400709945755500561) 6 [] 0 [] fun E0 ke=>.cons (C' h h1 h2) fun q q q=>.pO ke rfl
def i4(P:zp)(fr aL aD aS aE:Nat)(aP aQ:Nat)(buf:Str)(p:Nat)(x:Nat)(xs:zl)(k:Nat)(s c:Nat):Spec:=⟨B8 fr,[fr,aL,aD,aS,aE],[Hf P aL true [k],Ac aD,Ad P aS aP aQ (cv s) ⟨⟨x::xs⟩⟩,AR aE,AS P buf p],fun A=>.fin (.again (B8 fr)),fun A=>[Hf P aL true [c],Ac aD,Ad P aS aP aQ (cv s) ⟨⟨x::xs++[c]⟩⟩,AR aE,AS P buf ((p+1:Nat):Int)],fun A=>[]⟩
theorem LK(fr aL aD aS aE:Nat)(aP aQ:Nat)(buf:Str)(p:Nat)(x:Nat)(xs:zl)(k:Nat)(s c:Nat)(rt:(s=39∧(c=97∨c=98∨c=99∨c=100∨c=61∨c=34∨c=32))∨(s=34∧c=39))(h:buf.cps.toList[p]?=some c)(h1:2≤buf.length)(h2:buf.length≤sizeLine)(h3:xs.length+2≤sizeLine)(I:zd):(i4 w.2 fr aL aD aS aE aP aQ buf p x xs k s c).PI w b b2 11 St I:=Ae (⟨(s,c),[(39,97),(39,98),(39,99),(39,100),(39,61),(39,34),(39,32),(34,39)],mC rt⟩:Cs (Nat×Nat)) (fun z D=>i4 w.2 fr aL aD aS aE aP aQ buf p x xs k z.1 z.2) (fun z D l=>i4 w.2 fr aL aD aS aE aP aQ buf p x xs k z.1 z.2) (fun z D=>(Ag [TJ w.2 aS aE buf p z.2,cB x z.2 xs []])) 2 (fun z=>[]) [] (hD 8 212 121986951524610194077054654384052811285875180012167602075088536910064549102847838727197390082887245365594861676060156948627896197431545949649995918008884755402386745565116322400709945755500561) 6 [17] 0 [] fun E0 ke=>.cons (C' h h1 h2) fun y y y=>.q (Th (by simpa using h3)) fun y y y=>.pO ke rfl
def i3(P:zp)(fr aL aD aS aE:Nat)(aP aQ:Nat)(buf:Str)(p:Nat)(x:Nat)(xs:zl)(k:Nat)(c:Nat):Spec:=⟨B8 fr,[fr,aL,aD,aS,aE],[Hf P aL true [k],Ac aD,Ad P aS aP aQ (cv c) ⟨⟨x::xs⟩⟩,AR aE,AS P buf p],fun A=>.fin (.again (B8 fr)),fun A=>[Hf P aL true [c],Ac aD,Ad P aS aP aQ (cv 97) ⟨⟨x::xs⟩⟩,AR aE,AS P buf ((p+1:Nat):Int)],fun A=>[]⟩
theorem LJ(fr aL aD aS aE:Nat)(aP aQ:Nat)(buf:Str)(p:Nat)(x:Nat)(xs:zl)(k:Nat)(c:Nat)(rt:c=39∨c=34)(h:buf.cps.toList[p]?=some c)(h1:2≤buf.length)(h2:buf.length≤sizeLine)(h3:xs.length+2≤sizeLine)(I:zd):(i3 w.2 fr aL aD aS aE aP aQ buf p x xs k c).PI w b b2 11 St I:=Ae (⟨c,[39,34],m2 rt⟩:Cs Nat) (fun z D=>i3 w.2 fr aL aD aS aE aP aQ buf p x xs k z) (fun z D l=>i3 w.2 fr aL aD aS aE aP aQ buf p x xs k z) (fun z D=>(Ag [TJ w.2 aS aE buf p z])) 1 (fun z=>[]) [] (hD 8 185 50452620642801776782201631717816965010832277932296351544631442380416626087360689491046466086489038971368468659619931018112565865511171013773909041794433403748459020305) 6 [] 0 [] fun E0 ke=>.cons (C' h h1 h2) fun q q q=>.pO ke rfl
def i0(P:zp)(fr aL aD aS aE:Nat)(aP aQ:Nat)(buf:Str)(p:Nat)(x:Nat)(xs:zl)(k:Nat)(c:Nat):Spec:=⟨B8 fr,[fr,aL,aD,aS,aE],[Hf P aL true [k],Ac aD,Ad P aS aP aQ (cv 97) ⟨⟨x::xs⟩⟩,AR aE,AS P buf p],fun A=>.fin (.again (B8 fr)),fun A=>[Hf P aL true [c],Ac aD,Ad P aS aP aQ (cv c) ⟨⟨x::xs⟩⟩,AR aE,AS P buf ((p+1:Nat):Int)],fun A=>[]⟩
theorem LI(fr aL aD aS aE:Nat)(aP aQ:Nat)(buf:Str)(p:Nat)(x:Nat)(xs:zl)(k:Nat)(c:Nat)(rt:c=39∨c=34)(h:buf.cps.toList[p]?=some c)(h1:2≤buf.length)(h2:buf.length≤sizeLine)(h3:xs.length+2≤sizeLine)(I:zd):(i0 w.2 fr aL aD aS aE aP aQ buf p x xs k c).PI w b b2 11 St I:=Ae (⟨c,[39,34],m2 rt⟩:Cs Nat) (fun z D=>i0 w.2 fr aL aD aS aE aP aQ buf p x xs k z) (fun z D l=>i0 w.2 fr aL aD aS aE aP aQ buf p x xs k z) (fun z D=>(Ag [TJ w.2 aS aE buf p z,fJ 6 0 [⟨⟨[97]⟩⟩,⟨⟨[99]⟩⟩] ⟨⟨[97]⟩⟩ true])) 2 (fun z=>[]) [] (hD 9 266 25233756821286001117149652975808650173819885676599168618875772820335244875252428638748055985235338834804085033537814370576806099077981899610987552129717315262526203420073274646733149753481820093664717311429731609265830709240265338243781440304689008514113) 6 [13] 0 [] fun E0 ke=>.cons (C' h h1 h2) fun y y y=>.q (KU rfl) fun y y y=>.pO ke rfl
def hH(P:zp)(fr aL aD aS aE:Nat)(aP aQ:Nat)(buf:Str)(p:Nat)(x:Nat)(xs:zl)(k:Nat)(g:Bool):Spec:=⟨B8 fr,[fr,aL,aD,aS,aE],[Hf P aL g [k],Ac aD,Ad P aS aP aQ (cv 97) ⟨⟨x::xs⟩⟩,AR aE,AS P buf p],fun A=>.fin (.done .next),fun A=>[Hf P aL g [32],Ac aD,Ad P aS aP aQ (cv 32) ⟨⟨x::xs⟩⟩,AR aE,AS P buf ((p+1:Nat):Int)],fun A=>[]⟩
theorem LH(fr aL aD aS aE:Nat)(aP aQ:Nat)(buf:Str)(p:Nat)(x:Nat)(xs:zl)(k:Nat)(g:Bool)(h:buf.cps.toList[p]?=some 32)(h1:2≤buf.length)(h2:buf.length≤sizeLine)(h3:xs.length+2≤sizeLine)(I:zd):(hH w.2 fr aL aD aS aE aP aQ buf p x xs k g).PI w b b2 11 St I:=Ae (Cs.bb g) (fun z D=>hH w.2 fr aL aD aS aE aP aQ buf p x xs k z) (fun z D l=>hH w.2 fr aL aD aS aE aP aQ buf p x xs k z) (fun z D=>(Ag [TJ w.2 aS aE buf p 32,fJ 6 0 [⟨⟨[97]⟩⟩,⟨⟨[99]⟩⟩] ⟨⟨[97]⟩⟩ true,OQ 32 [],OQ x xs])) 4 (fun z=>[]) [] (hD 9 237 4811794733919155669108193157203378586895150948216613992473463469389592430623517219134817447583853415291753221949678692419970358155945422229617710820297546439371193234983016413866302330112700199706479599743531485715582727885566) 6 [13,0,6] 0 [] fun E0 ke=>.cons (C' h h1 h2) fun y y y=>.q (KU rfl) fun y y y=>.q (JE (by decide)) fun y y y=>.q (JE (by have:=Gn; lia)) fun y y y=>.pO ke rfl
def h9(P:zp)(fr aL aD aS aE:Nat)(aP aQ:Nat)(buf:Str)(p:Nat)(x:Nat)(xs:zl)(k:Nat)(g:Bool):Spec:=⟨B8 fr,[fr,aL,aD,aS,aE],[Hf P aL g [k],Ac aD,Ad P aS aP aQ (cv 97) ⟨⟨x::xs⟩⟩,AR aE,AS P buf p],fun A=>.fin (.done .next),fun A=>[Hf P aL g [],Ac aD,Ad P aS aP aQ (.none) ⟨⟨x::xs⟩⟩,AR aE,AS P buf p],fun A=>[]⟩
theorem LG(fr aL aD aS aE:Nat)(aP aQ:Nat)(buf:Str)(p:Nat)(x:Nat)(xs:zl)(k:Nat)(g:Bool)(h:buf.length≤p)(h2:buf.length≤sizeLine)(I:zd):(h9 w.2 fr aL aD aS aE aP aQ buf p x xs k g).PI w b b2 11 St I:=Ae (Cs.bb g) (fun z D=>h9 w.2 fr aL aD aS aE aP aQ buf p x xs k z) (fun z D l=>h9 w.2 fr aL aD aS aE aP aQ buf p x xs k z) (fun z D=>(Ag [Xm w.2 aS aE buf p,fJ 6 0 [⟨⟨[97]⟩⟩,⟨⟨[99]⟩⟩] ⟨⟨[97]⟩⟩ true])) 2 (fun z=>[]) [] (hD 9 197 36245054917284451896026154169671001801631860572922420157294394082853260601757023340062822301633635635966706799958915481750020405332351973941869787545734050271923229703383234112239692865201) 6 [13] 0 [] fun E0 ke=>.cons (La h h2) fun y y y=>.q (KU rfl) fun y y y=>.pO ke rfl
def mY(P:zp)(fr aL aD aS aE:Nat)(aP aQ:Nat)(buf:Str)(p:Nat)(x:Nat)(xs:zl)(k:Nat):Spec:=⟨B8 fr,[fr,aL,aD,aS,aE],[Pj P aL false,Ac aD,Ad P aS aP aQ (.none) ⟨⟨[]⟩⟩,AR aE,AS P buf p],fun A=>.fin (.done .next),fun A=>[Hf P aL false [],Ac aD,Ad P aS aP aQ (.none) ⟨⟨[]⟩⟩,AR aE,AS P buf p],fun A=>[]⟩
theorem Rh(fr aL aD aS aE:Nat)(aP aQ:Nat)(buf:Str)(p:Nat)(x:Nat)(xs:zl)(k:Nat)(h:buf.length≤p)(h2:buf.length≤sizeLine)(I:zd):(mY w.2 fr aL aD aS aE aP aQ buf p x xs k).PI w b b2 11 St I:=As (Ag [Xm w.2 aS aE buf p]) 1 [] (hD 8 116 245287053959599900678608456444370006493319561338711828276366985982481735058844395856515450767508154417169) 6 [] 0 fun E0 ke=>.cons (La h h2) fun q q q=>.pO ke rfl
theorem R7{St:Tl}:∀ p p' pN,Al St p pN→Al St p' pN:=fun q q q h=>h
theorem Spec.pP.seq{S1 S2:Spec}{w:zt}{St:Tl}{I J O:zd}{c:Code}(h1:S1.pP w (Al St) I J)(hf:∀ A,S1.fin A=.fin (.again c))(hq:Ba c=true)(hc:eC c=S2.C)(ha:S2.ad=S1.ad)(hp:∀ A,S1.ch A=S2.pre)(hn:∀ A,S1.nw A=[])
  (h2:S2.pP w (Al St) J O):(Spec.mk S1.C S1.ad S1.pre S2.fin S2.ch S2.nw).pP w (Al St) I O:=by
 intro P hI
 refine DZ.again (sV:=fun c' L=>c'=c∧∃ P',J P'∧(∀ a∈P.map (·.1),a∈P'.map (·.1))∧L=S2.pq++P') R7 ((h1 P hI).pU (fun L h=>h) ?_) ?_
 ·rintro e L ⟨A,P',hJ,sub,he,hL⟩
  refine .inl ⟨c,by rw [he,hf],hq,rfl,P',hJ,sub,?_⟩
  rw [hL]
  unfold Spec.pV Spec.pq
  rw [hn,hp,ha]; simp
 ·intro c' cc s pc pN L ⟨ec,P',hJ,sub,hL⟩ hcc H hs
  subst ec
  obtain ⟨e,s',L',qF,pos',go,⟨A,P2,hO,sub2,he,sk⟩,H',F⟩:=h2 P' hJ cc s pc pN L hL (hcc.trans hc) H hs
  refine ⟨e,s',L',qF,pos',go,⟨A,P2,hO,fun a m=>sub2 a (sub a m),he,?_⟩,H',F⟩
  rw [sk]
  unfold Spec.pV
  rw [ha]
section
noncomputable def Bc:zl→Nat→zl→Nat→Option (zl×Nat×Bool)
 | [],st,tok,p=>if st=97 then some (tok,p,false) else none
 | c::r,st,tok,p=>
  if st=97 then (if c=32 then some (tok,p+1,true) else if c=39 then Bc r 39 tok (p+1) else if c=34 then Bc r 34 tok (p+1) else none)
  else if st=39 then (if c=39 then Bc r 97 tok (p+1) else if c=97∨c=98∨c=99∨c=100∨c=61∨c=34∨c=32 then Bc r 39 (tok++[c]) (p+1) else none)
  else if st=34 then (if c=34 then Bc r 97 tok (p+1) else if c=39 then Bc r 34 (tok++[39]) (p+1) else none)
  else none
theorem YW(st:Nat)(tok:zl)(p:Nat):Bc [] st tok p=if st=97 then some (tok,p,false) else none:=rfl
theorem Oy(c:Nat)(r:zl)(st:Nat)(tok:zl)(p:Nat):Bc (c::r) st tok p=if st=97 then (if c=32 then some (tok,p+1,true) else if c=39 then Bc r 39 tok (p+1) else if c=34 then Bc r 34 tok (p+1) else none)
  else if st=39 then (if c=39 then Bc r 97 tok (p+1) else if c=97∨c=98∨c=99∨c=100∨c=61∨c=34∨c=32 then Bc r 39 (tok++[c]) (p+1) else none)
  else if st=34 then (if c=34 then Bc r 97 tok (p+1) else if c=39 then Bc r 34 (tok++[39]) (p+1) else none)
  else none:=rfl
def UA(P:zp)(aL aD aS aE aP aQ:Nat)(buf:Str)(g:Bool)(z:zl×Nat×Bool):List Obj:=
 [Hf P aL g (if z.2.2 then [32] else []),Ac aD,Ad P aS aP aQ (if z.2.2 then cv 32 else .none) ⟨⟨z.1⟩⟩,AR aE,AS P buf (z.2.1:Nat)]
def lp(P:zp)(fr aL aD aS aE aP aQ:Nat)(buf:Str)(p st:Nat)(tok:zl)(k:Nat)(z:zl×Nat×Bool):Spec:=
 ⟨B8 fr,[fr,aL,aD,aS,aE],[Hf P aL true [k],Ac aD,Ad P aS aP aQ (cv st) ⟨⟨tok⟩⟩,AR aE,AS P buf p],fun q=>.fin (.done .next),fun q=>UA P aL aD aS aE aP aQ buf true z,fun q=>[]⟩
theorem Af(fr:Nat):Ba (B8 fr)=true:=by unfold Ba; rw [Aq]; rfl
set_option tactic.hygienic true in
theorem Ot{St:zc}(w:zt)(b b2:Bool)(fr aL aD aS aE aP aQ:Nat)(buf:Str)(h1:2≤buf.length)(h2:buf.length≤sizeLine)(I:zd)(z:zl×Nat×Bool) :
  ∀ (rest:zl) (p st x:Nat) (xs:zl) (k:Nat),buf.cps.toList.drop p=rest→Bc rest st (x::xs) p=some z→xs.length+rest.length+2≤sizeLine+1→
   (lp w.2 fr aL aD aS aE aP aQ buf p st (x::xs) k z).PI w b b2 11 St I
 | [],p,st,x,xs,k,hd,hz,hs=>by
  have hp:buf.length≤p:=by simpa [Str.length] using y'.mp hd
  rw [YW] at hz
  by_cases e:st=97
  ·subst e
   rw [wD rfl] at hz
   cases hz
   exact LG w b b2 fr aL aD aS aE aP aQ buf p x xs k true hp h2 I
  ·rw [w2 e] at hz; cases hz
 | c::rest,p,st,x,xs,k,hd,hz,hs=>by
  have hc:buf.cps.toList[p]?=some c:=by
   have:=vm (·[0]?) hd
   simpa [xu] using this
  have hd':buf.cps.toList.drop (p+1)=rest:=by
   rw [← yF,hd]; rfl
  have h3:xs.length+2≤sizeLine:=by
   have:=vm List.length hd
   simp only [vr] at hs
   rw [xc,vr] at this
   have hl:buf.cps.toList.length=buf.length:=by simp [Str.length]
   lia
  have qy:∀ l:zl,l.length≤xs.length+1→l.length+rest.length+2≤sizeLine+1:=fun l hl=>by simp only [vr] at hs; lia
  have ih:=Ot (St:=St) w b b2 fr aL aD aS aE aP aQ buf h1 h2 I z rest (p+1)
  rw [Oy] at hz
  by_cases e:st=97
  ·subst e
   rw [wD rfl] at hz
   by_cases c1:c=32
   ·subst c1; rw [wD rfl] at hz; cases hz
    exact LH w b b2 fr aL aD aS aE aP aQ buf p x xs k true hc h1 h2 h3 I
   ·rw [w2 c1] at hz
    by_cases c2:c=39
    ·subst c2; rw [wD rfl] at hz
     exact (LI w b b2 fr aL aD aS aE aP aQ buf p x xs k 39 (.inl rfl) hc h1 h2 h3 I).seq (S2:=lp w.2 fr aL aD aS aE aP aQ buf (p+1) 39 (x::xs) 39 z) (fun q=>rfl) (Af fr) rfl rfl (fun q=>rfl) (fun q=>rfl) (ih 39 x xs 39 hd' hz (qy xs (by lia)))
    ·rw [w2 c2] at hz
     by_cases c3:c=34
     ·subst c3; rw [wD rfl] at hz
      exact (LI w b b2 fr aL aD aS aE aP aQ buf p x xs k 34 (.inr rfl) hc h1 h2 h3 I).seq (S2:=lp w.2 fr aL aD aS aE aP aQ buf (p+1) 34 (x::xs) 34 z) (fun q=>rfl) (Af fr) rfl rfl (fun q=>rfl) (fun q=>rfl) (ih 34 x xs 34 hd' hz (qy xs (by lia)))
     ·rw [w2 c3] at hz; cases hz
  ·rw [w2 e] at hz
   by_cases e:st=39
   ·subst e
    rw [wD rfl] at hz
    by_cases c1:c=39
    ·subst c1; rw [wD rfl] at hz
     exact (LJ w b b2 fr aL aD aS aE aP aQ buf p x xs k 39 (.inl rfl) hc h1 h2 h3 I).seq (S2:=lp w.2 fr aL aD aS aE aP aQ buf (p+1) 97 (x::xs) 39 z) (fun q=>rfl) (Af fr) rfl rfl (fun q=>rfl) (fun q=>rfl) (ih 97 x xs 39 hd' hz (qy xs (by lia)))
    ·rw [w2 c1] at hz
     split at hz
     ·rename_i cc
      have go:=ih 39 x (xs++[c]) c hd' hz (qy _ (by simp))
      exact (LK w b b2 fr aL aD aS aE aP aQ buf p x xs k 39 c (.inl ⟨rfl,cc⟩) hc h1 h2 h3 I).seq (S2:=lp w.2 fr aL aD aS aE aP aQ buf (p+1) 39 (x::(xs++[c])) c z) (fun q=>rfl) (Af fr) rfl rfl (fun q=>rfl) (fun q=>rfl) go
     ·cases hz
   ·rw [w2 e] at hz
    by_cases e:st=34
    ·subst e
     rw [wD rfl] at hz
     by_cases c1:c=34
     ·subst c1; rw [wD rfl] at hz
      exact (LJ w b b2 fr aL aD aS aE aP aQ buf p x xs k 34 (.inr rfl) hc h1 h2 h3 I).seq (S2:=lp w.2 fr aL aD aS aE aP aQ buf (p+1) 97 (x::xs) 34 z) (fun q=>rfl) (Af fr) rfl rfl (fun q=>rfl) (fun q=>rfl) (ih 97 x xs 34 hd' hz (qy xs (by lia)))
     ·rw [w2 c1] at hz
      by_cases c2:c=39
      ·subst c2; rw [wD rfl] at hz
       exact (LK w b b2 fr aL aD aS aE aP aQ buf p x xs k 34 39 (.inr ⟨rfl,rfl⟩) hc h1 h2 h3 I).seq (S2:=lp w.2 fr aL aD aS aE aP aQ buf (p+1) 34 (x::(xs++[39])) 39 z) (fun q=>rfl) (Af fr) rfl rfl (fun q=>rfl) (fun q=>rfl) (ih 34 x (xs++[39]) 39 hd' (show Bc rest 34 (x::(xs++[39])) (p+1)=some z from hz) (qy _ (by simp)))
      ·rw [w2 c2] at hz; cases hz
    ·rw [w2 e] at hz; cases hz
def YX:zl→Nat→Option (zl×Nat×Bool)
 | b::r,p=>if b=34∨b=61∨b=97∨b=100 then Bc r 39 [b] p else none
 | [],_=>none
noncomputable def YV(a:Nat):zl→Nat→Option (zl×Nat×Bool)
 | [],p=>some ([a],p,false)
 | c::_,p=>if c=32 then some ([a],p+1,true) else none
def B6(rest:zl)(p:Nat):Option (zl×Nat×Bool):=match rest with
 | a::r=>if a=39 then YX r (p+2) else if a=61∨a=97∨a=98∨a=99∨a=100 then YV a r (p+1) else none
 | []=>none
noncomputable def gQ:zl→Bool
 | a::_=>Nat.beq a 39
 | []=>true
def nO(P:zp)(fr aL aD aS aE aP aQ:Nat)(buf:Str)(p:Nat)(g:Bool)(z:zl×Nat×Bool):Spec:=
 ⟨B8 fr,[fr,aL,aD,aS,aE],[Pj P aL false,Ac aD,Ad P aS aP aQ (cv 32) ⟨⟨[]⟩⟩,AR aE,AS P buf p],fun q=>.fin (.done .next),fun q=>UA P aL aD aS aE aP aQ buf g z,fun q=>[]⟩
def kT(P:zp)(fr aL aD aS aE aP aQ:Nat)(buf:Str)(p a:Nat)(z:zl×Nat×Bool):Spec:=
 ⟨B8 fr,[fr,aL,aD,aS,aE],[Hf P aL false [a],Ac aD,Ad P aS aP aQ (cv 97) ⟨⟨[a]⟩⟩,AR aE,AS P buf p],fun q=>.fin (.done .next),fun q=>UA P aL aD aS aE aP aQ buf false z,fun q=>[]⟩
def nP(P:zp)(fr aL aD aS aE aP aQ:Nat)(buf:Str)(p:Nat)(z:zl×Nat×Bool):Spec:=
 ⟨B8 fr,[fr,aL,aD,aS,aE],[Hf P aL false [39],Ac aD,Ad P aS aP aQ (cv 39) ⟨⟨[]⟩⟩,AR aE,AS P buf p],fun q=>.fin (.done .next),fun q=>UA P aL aD aS aE aP aQ buf true z,fun q=>[]⟩
theorem Ie{l:zl}{p c:Nat}{r:zl}(h:l.drop p=c::r):l[p]?=some c∧l.drop (p+1)=r∧r.length+p+1=l.length:=by
 refine ⟨by have:=vm (·[0]?) h; simpa [xu] using this,by rw [← yF,h]; rfl,?_⟩
 have:=vm List.length h
 rw [xc,vr] at this
 lia
section
variable{St:zc}{w:zt}{b b2:Bool}{fr aL aD aS aE aP aQ:Nat}{buf:Str}{z:zl×Nat×Bool}{I:zd}(h1:2≤buf.length)(h2:buf.length≤sizeLine)
include h1 h2
theorem U9{a:Nat}{r:zl}{p:Nat}(hd:buf.cps.toList.drop p=r)(hz:YV a r p=some z):(kT w.2 fr aL aD aS aE aP aQ buf p a z).PI w b b2 11 St I:=by
 cases r with
 | nil=>
  cases hz
  exact LG w b b2 fr aL aD aS aE aP aQ buf p a [] a false (by simpa [Str.length] using y'.mp hd) h2 I
 | cons c r=>
  have hz:(if c=32 then some ([a],p+1,true) else none)=some z:=hz
  by_cases e:c=32
  ·rw [wD e] at hz; cases hz; subst e
   exact LH w b b2 fr aL aD aS aE aP aQ buf p a [] a false (Ie hd).1 h1 h2 (vv h1 h2) I
  ·rw [w2 e] at hz; cases hz
theorem UB{r:zl}{p:Nat}(hd:buf.cps.toList.drop p=r)(hz:YX r (p+1)=some z):(nP w.2 fr aL aD aS aE aP aQ buf p z).PI w b b2 11 St I:=by
 cases r with
 | nil=>cases hz
 | cons c r=>
  have hz:(if c=34∨c=61∨c=97∨c=100 then Bc r 39 [c] (p+1) else none)=some z:=hz
  obtain ⟨hc,hd2,hl⟩:=Ie hd
  by_cases e:c=34∨c=61∨c=97∨c=100
  ·rw [wD e] at hz
   have l0:buf.cps.toList.length=buf.length:=by simp [Str.length]
   exact (Ri w b b2 fr aL aD aS aE aP aQ buf p 0 [] 39 c e hc h1 h2 (vv h1 h2) I).seq (S2:=lp w.2 fr aL aD aS aE aP aQ buf (p+1) 39 [c] c z) (fun q=>rfl) (Af fr) rfl rfl (fun q=>rfl) (fun q=>rfl) (Ot w b b2 fr aL aD aS aE aP aQ buf h1 h2 I z r (p+1) 39 c [] c hd2 hz (by rw [x9]; lia))
  ·rw [w2 e] at hz; cases hz
theorem U8{p:Nat}(hz:B6 (buf.cps.toList.drop p) p=some z):(nO w.2 fr aL aD aS aE aP aQ buf p (gQ (buf.cps.toList.drop p)) z).PI w b b2 11 St I:=by
 have s3:([]:zl).length+2≤sizeLine:=vv h1 h2
 generalize hd:buf.cps.toList.drop p=r at hz ⊢
 cases r with
 | nil=>cases hz
 | cons a r=>
  have hz:(if a=39 then YX r (p+2) else if a=61∨a=97∨a=98∨a=99∨a=100 then YV a r (p+1) else none)=some z:=hz
  obtain ⟨hc,hd2,_⟩:=Ie hd
  by_cases e:a=39
  ·subst e
   rw [wD rfl] at hz
   exact (Rj w b b2 fr aL aD aS aE aP aQ buf p 0 [] 0 hc h1 h2 s3 I).seq (S2:=nP w.2 fr aL aD aS aE aP aQ buf (p+1) z) (fun y=>rfl) (Af fr) rfl rfl (fun y=>rfl) (fun y=>rfl) (UB h1 h2 hd2 hz)
  ·rw [w2 e] at hz
   have eg:gQ (a::r)=false:=by
    show Nat.beq a 39=false
    cases q:Nat.beq a 39 with
    | false=>rfl
    | true=>exact absurd (wq q) e
   rw [eg]
   have two:=U9 (St:=St) (w:=w) (b:=b) (b2:=b2) (fr:=fr) (aL:=aL) (aD:=aD) (aS:=aS) (aE:=aE) (aP:=aP) (aQ:=aQ) (I:=I) h1 h2 (a:=a) hd2 (z:=z)
   by_cases e1:a=61
   ·subst e1
    exact (Rf w b b2 fr aL aD aS aE aP aQ buf p 0 [] 0 hc h1 h2 s3 I).seq (S2:=kT w.2 fr aL aD aS aE aP aQ buf (p+1) 61 z) (fun y=>rfl) (Af fr) rfl rfl (fun y=>rfl) (fun y=>rfl) (two (by simpa using hz))
   ·by_cases e2:a=97∨a=98∨a=99∨a=100
    ·rw [wD (.inr e2)] at hz
     exact (Rg w b b2 fr aL aD aS aE aP aQ buf p 0 [] 0 a e2 hc h1 h2 s3 I).seq (S2:=kT w.2 fr aL aD aS aE aP aQ buf (p+1) a z) (fun y=>rfl) (Af fr) rfl rfl (fun y=>rfl) (fun y=>rfl) (two hz)
    ·rw [w2 (fun h=>h.elim e1 e2)] at hz; cases hz
end
end
def bo(P:zp)(aL aD aS aE aP aQ:Nat)(buf:Str)(p:Nat)(T:zl)(p':Nat)(g e:Bool):A8:=BU [4,0,1,2,3] [] [] (fun x=>nO P (A4 x 4) aL aD aS aE aP aQ buf p g (T,p',e))
variable{w b b2}
theorem IA{aL aD aS aE aP aQ:Nat}{buf:Str}{p:Nat}{T:zl}{p':Nat}{g e:Bool}{I:zd}{St:zc}(h1:2≤buf.length)(h2:buf.length≤sizeLine)(hz:B6 (buf.cps.toList.drop p) p=some (T,p',e))(hg:gQ (buf.cps.toList.drop p)=g):(bo w.2 aL aD aS aE aP aQ buf p T p' g e).qB pw (wf w b b2) (A5 w.2) ⟨10,St⟩ I I:=
 AL (w:=wf w b b2) (fun x=>by rw [← hg]; exact U8 h1 h2 hz) (by decide) (fun q=>⟨rfl,rfl,fun q=>rfl⟩) (fun q q=>rfl)
def bk(P:zp)(aL aD aS aE aP aQ:Nat)(buf:Str)(p:Nat):A8:=BU [4,0,1,2,3] [] [] (fun x=>mY P (A4 x 4) aL aD aS aE aP aQ buf p 0 [] 0)
theorem TQ{aL aD aS aE aP aQ:Nat}{buf:Str}{p:Nat}{I:zd}{St:zc}(h:buf.length≤p)(h2:buf.length≤sizeLine):(bk w.2 aL aD aS aE aP aQ buf p).qB pw (wf w b b2) (A5 w.2) ⟨10,St⟩ I I:=
 AL (w:=wf w b b2) (fun x=>Rh w b b2 (A4 x 4) aL aD aS aE aP aQ buf p 0 [] 0 h h2 I) (by decide) (fun q=>⟨rfl,rfl,fun q=>rfl⟩) (fun q q=>rfl)
def gj(P:zp)(aL aD aS aE:Nat)(aP aQ:Nat)(buf:Str)(p:Nat)(x:Nat)(T:zl)(p':Nat):Spec:=⟨.call (.ref 852) ⟨[.ref aL],[]⟩,[aL,aD,aS,aE],[Ac aD,Ad P aS aP aQ (cv 32) ⟨⟨[]⟩⟩,AR aE,AS P buf p],fun A=>.fin (.done (.ret (.str ⟨⟨x::T⟩⟩ 0))),fun A=>[Ac aD,Ad P aS aP aQ (cv 32) ⟨⟨[]⟩⟩,AR aE,AS P buf p'],fun A=>[]⟩
variable{St:zc}(w b b2)
theorem R9(aL aD aS aE:Nat)(aP aQ:Nat)(buf:Str)(p:Nat)(x:Nat)(T:zl)(p':Nat)(h1:2≤buf.length)(h2:buf.length≤sizeLine)(hz:B6 (buf.cps.toList.drop p) p=some (x::T,p',true))(hg:gQ (buf.cps.toList.drop p)=true)(I:zd):(gj w.2 aL aD aS aE aP aQ buf p x T p').PI w b b2 10 St I:=As (Ag [bo w.2 aL aD aS aE aP aQ buf p (x::T) p' true true]) 1 [] (hD 7 68 2212819848699271232524370416996391171617949449665695818353) 0 [] 1 fun E0 ke=>.cons (IA h1 h2 hz hg) fun q q q=>.pO ke rfl
def gk(P:zp)(aL aD aS aE:Nat)(aP aQ:Nat)(buf:Str)(p:Nat)(x:Nat)(T:zl)(p':Nat):Spec:=⟨.call (.ref 852) ⟨[.ref aL],[]⟩,[aL,aD,aS,aE],[Ac aD,Ad P aS aP aQ (cv 32) ⟨⟨[]⟩⟩,AR aE,AS P buf p],fun A=>.fin (.done (.ret (.str ⟨⟨x::T⟩⟩ 0))),fun A=>[Ac aD,Ad P aS aP aQ (.none) ⟨⟨[]⟩⟩,AR aE,AS P buf p'],fun A=>[]⟩
theorem RC(aL aD aS aE:Nat)(aP aQ:Nat)(buf:Str)(p:Nat)(x:Nat)(T:zl)(p':Nat)(h1:2≤buf.length)(h2:buf.length≤sizeLine)(hz:B6 (buf.cps.toList.drop p) p=some (x::T,p',false))(hg:gQ (buf.cps.toList.drop p)=true)(I:zd):(gk w.2 aL aD aS aE aP aQ buf p x T p').PI w b b2 10 St I:=As (Ag [bo w.2 aL aD aS aE aP aQ buf p (x::T) p' true false]) 1 [] (hD 7 68 2212819848699271232524370416996391171617949449665695818353) 0 [] 1 fun E0 ke=>.cons (IA h1 h2 hz hg) fun q q q=>.pO ke rfl
def oB(P:zp)(aL aD aS aE:Nat)(aP aQ:Nat)(buf:Str)(p:Nat)(x:Nat)(T:zl)(p':Nat):Spec:=⟨.call (.ref 852) ⟨[.ref aL],[]⟩,[aL,aD,aS,aE],[Ac aD,Ad P aS aP aQ (cv 32) ⟨⟨[]⟩⟩,AR aE,AS P buf p],fun A=>.fin (.done (.ret (.str ⟨⟨x::T⟩⟩ 0))),fun A=>[Ac aD,Ad P aS aP aQ (cv 32) ⟨⟨[]⟩⟩,AR aE,AS P buf p'],fun A=>[]⟩
theorem R8(aL aD aS aE:Nat)(aP aQ:Nat)(buf:Str)(p:Nat)(x:Nat)(T:zl)(p':Nat)(h1:2≤buf.length)(h2:buf.length≤sizeLine)(hz:B6 (buf.cps.toList.drop p) p=some (x::T,p',true))(hg:gQ (buf.cps.toList.drop p)=false)(I:zd):(oB w.2 aL aD aS aE aP aQ buf p x T p').PI w b b2 10 St I:=As (Ag [bo w.2 aL aD aS aE aP aQ buf p (x::T) p' false true]) 1 [] (hD 7 69 15489738940896913164799423006320288857848924848927608657126) 0 [] 1 fun E0 ke=>.cons (IA h1 h2 hz hg) fun q q q=>.pO ke rfl
def oC(P:zp)(aL aD aS aE:Nat)(aP aQ:Nat)(buf:Str)(p:Nat)(x:Nat)(T:zl)(p':Nat):Spec:=⟨.call (.ref 852) ⟨[.ref aL],[]⟩,[aL,aD,aS,aE],[Ac aD,Ad P aS aP aQ (cv 32) ⟨⟨[]⟩⟩,AR aE,AS P buf p],fun A=>.fin (.done (.ret (.str ⟨⟨x::T⟩⟩ 0))),fun A=>[Ac aD,Ad P aS aP aQ (.none) ⟨⟨[]⟩⟩,AR aE,AS P buf p'],fun A=>[]⟩
theorem RB(aL aD aS aE:Nat)(aP aQ:Nat)(buf:Str)(p:Nat)(x:Nat)(T:zl)(p':Nat)(h1:2≤buf.length)(h2:buf.length≤sizeLine)(hz:B6 (buf.cps.toList.drop p) p=some (x::T,p',false))(hg:gQ (buf.cps.toList.drop p)=false)(I:zd):(oC w.2 aL aD aS aE aP aQ buf p x T p').PI w b b2 10 St I:=As (Ag [bo w.2 aL aD aS aE aP aQ buf p (x::T) p' false false]) 1 [] (hD 7 69 15489738940896913164799423006320288857848924848927608657126) 0 [] 1 fun E0 ke=>.cons (IA h1 h2 hz hg) fun q q q=>.pO ke rfl
def mP(P:zp)(aL aD aS aE:Nat)(aP aQ:Nat)(buf:Str)(p:Nat):Spec:=⟨.call (.ref 852) ⟨[.ref aL],[]⟩,[aL,aD,aS,aE],[Ac aD,Ad P aS aP aQ (.none) ⟨⟨[]⟩⟩,AR aE,AS P buf p],fun A=>.fin (.done (.ret .none)),fun A=>[Ac aD,Ad P aS aP aQ (.none) ⟨⟨[]⟩⟩,AR aE,AS P buf p],fun A=>[]⟩
theorem RA(aL aD aS aE:Nat)(aP aQ:Nat)(buf:Str)(p:Nat)(h:buf.length≤p)(h2:buf.length≤sizeLine)(I:zd):(mP w.2 aL aD aS aE aP aQ buf p).PI w b b2 10 St I:=As (Ag [bk w.2 aL aD aS aE aP aQ buf p]) 1 [] (hD 7 71 758997208103964861372202368008458559286783547207594727628414) 0 [] 1 fun E0 ke=>.cons (TQ h h2) fun q q q=>.pO ke rfl
theorem RD{St:zc}{w:zt}{b b2:Bool}{aL aD aS aE aP aQ:Nat}{buf:Str}{p x:Nat}{T:zl}{p':Nat}{I:zd}(h1:2≤buf.length)(h2:buf.length≤sizeLine)(hz:B6 (buf.cps.toList.drop p) p=some (x::T,p',true)):(gj w.2 aL aD aS aE aP aQ buf p x T p').PI w b b2 10 St I:=by
 cases hg:gQ (buf.cps.toList.drop p) with
 | true=>exact R9 w b b2 _ _ _ _ _ _ _ _ _ _ _ h1 h2 hz hg I
 | false=>exact R8 w b b2 _ _ _ _ _ _ _ _ _ _ _ h1 h2 hz hg I
theorem RE{St:zc}{w:zt}{b b2:Bool}{aL aD aS aE aP aQ:Nat}{buf:Str}{p x:Nat}{T:zl}{p':Nat}{I:zd}(h1:2≤buf.length)(h2:buf.length≤sizeLine)(hz:B6 (buf.cps.toList.drop p) p=some (x::T,p',false)):(gk w.2 aL aD aS aE aP aQ buf p x T p').PI w b b2 10 St I:=by
 cases hg:gQ (buf.cps.toList.drop p) with
 | true=>exact RC w b b2 _ _ _ _ _ _ _ _ _ _ _ h1 h2 hz hg I
 | false=>exact RB w b b2 _ _ _ _ _ _ _ _ _ _ _ h1 h2 hz hg I
noncomputable def BV:Obj:={ cls:=.type "collections.deque",data:=.fields #[.none,.int 0 0] }
def bO(P:zp)(aL aD aS aE aP aQ:Nat)(buf:Str)(p x:Nat)(T:zl)(p':Nat):A8:=BU [0,1,2,3] [] [] (fun x0=>gj P aL aD aS aE aP aQ buf p x T p')
variable{w b b2}
theorem Sz{aL aD aS aE aP aQ:Nat}{buf:Str}{p x:Nat}{T:zl}{p':Nat}{I:zd}{St:zc}(h1:2≤buf.length)(h2:buf.length≤sizeLine)(hz:B6 (buf.cps.toList.drop p) p=some (x::T,p',true)):(bO w.2 aL aD aS aE aP aQ buf p x T p').qB pw (wf w b b2) (A5 w.2) ⟨9,St⟩ I I:=
 AL (w:=wf w b b2) (fun x0=>RD h1 h2 hz) (by decide) (fun q=>⟨rfl,rfl,fun q=>rfl⟩) (fun q q=>rfl)
def bQ(P:zp)(aL aD aS aE aP aQ:Nat)(buf:Str)(p x:Nat)(T:zl)(p':Nat):A8:=BU [0,1,2,3] [] [] (fun x0=>gk P aL aD aS aE aP aQ buf p x T p')
theorem T5{aL aD aS aE aP aQ:Nat}{buf:Str}{p x:Nat}{T:zl}{p':Nat}{I:zd}{St:zc}(h1:2≤buf.length)(h2:buf.length≤sizeLine)(hz:B6 (buf.cps.toList.drop p) p=some (x::T,p',false)):(bQ w.2 aL aD aS aE aP aQ buf p x T p').qB pw (wf w b b2) (A5 w.2) ⟨9,St⟩ I I:=
 AL (w:=wf w b b2) (fun x0=>RE h1 h2 hz) (by decide) (fun q=>⟨rfl,rfl,fun q=>rfl⟩) (fun q q=>rfl)
def bP(P:zp)(aL aD aS aE aP aQ:Nat)(buf:Str)(p:Nat):A8:=BU [0,1,2,3] [] [] (fun x0=>mP P aL aD aS aE aP aQ buf p)
theorem T4{aL aD aS aE aP aQ:Nat}{buf:Str}{p:Nat}{I:zd}{St:zc}(h:buf.length≤p)(h2:buf.length≤sizeLine):(bP w.2 aL aD aS aE aP aQ buf p).qB pw (wf w b b2) (A5 w.2) ⟨9,St⟩ I I:=
 AL (w:=wf w b b2) (fun x0=>RA w b b2 aL aD aS aE aP aQ buf p h h2 I) (by decide) (fun q=>⟨rfl,rfl,fun q=>rfl⟩) (fun q q=>rfl)
def nX(P:zp)(aL aD aS aE aP aQ:Nat)(buf:Str)(p x:Nat)(T:zl)(p':Nat):Spec:=⟨.call (.ref 845) ⟨[.ref aL],[]⟩,[aL,aD,aS,aE,aP,aQ],[Ac aD,Ad P aS aP aQ (cv 32) ⟨⟨[]⟩⟩,AR aE,AS P buf p,BV,BV],fun A=>.fin (.done (.ret (.str ⟨⟨x::T⟩⟩ 0))),fun A=>[Ac aD,Ad P aS aP aQ (cv 32) ⟨⟨[]⟩⟩,AR aE,AS P buf p',BV,BV],fun A=>[]⟩
variable{St:zc}(w b b2)
theorem Ul(aL aD aS aE aP aQ:Nat)(buf:Str)(p x:Nat)(T:zl)(p':Nat)(h1:2≤buf.length)(h2:buf.length≤sizeLine)(hz:B6 (buf.cps.toList.drop p) p=some (x::T,p',true))(I:zd):(nX w.2 aL aD aS aE aP aQ buf p x T p').PI w b b2 9 St I:=As (Ag [bO w.2 aL aD aS aE aP aQ buf p x T p']) 1 [] (hD 9 81 157820438741826815815532490466635068462840771010497772265626259851640211077452) 3 [] 1 fun E0 ke=>.cons (Sz h1 h2 hz) fun q q q=>.pO ke rfl
def nZ(P:zp)(aL aD aS aE aP aQ:Nat)(buf:Str)(p x:Nat)(T:zl)(p':Nat):Spec:=⟨.call (.ref 845) ⟨[.ref aL],[]⟩,[aL,aD,aS,aE,aP,aQ],[Ac aD,Ad P aS aP aQ (cv 32) ⟨⟨[]⟩⟩,AR aE,AS P buf p,BV,BV],fun A=>.fin (.done (.ret (.str ⟨⟨x::T⟩⟩ 0))),fun A=>[Ac aD,Ad P aS aP aQ (.none) ⟨⟨[]⟩⟩,AR aE,AS P buf p',BV,BV],fun A=>[]⟩
theorem Un(aL aD aS aE aP aQ:Nat)(buf:Str)(p x:Nat)(T:zl)(p':Nat)(h1:2≤buf.length)(h2:buf.length≤sizeLine)(hz:B6 (buf.cps.toList.drop p) p=some (x::T,p',false))(I:zd):(nZ w.2 aL aD aS aE aP aQ buf p x T p').PI w b b2 9 St I:=As (Ag [bQ w.2 aL aD aS aE aP aQ buf p x T p']) 1 [] (hD 9 81 157820438741826815815532490466635068462840771010497772265626259851640211077452) 3 [] 1 fun E0 ke=>.cons (T5 h1 h2 hz) fun q q q=>.pO ke rfl
def nY(P:zp)(aL aD aS aE aP aQ:Nat)(buf:Str)(p:Nat):Spec:=⟨.call (.ref 845) ⟨[.ref aL],[]⟩,[aL,aD,aS,aE,aP,aQ],[Ac aD,Ad P aS aP aQ (.none) ⟨⟨[]⟩⟩,AR aE,AS P buf p,BV,BV],fun A=>.fin (.done (.ret .none)),fun A=>[Ac aD,Ad P aS aP aQ (.none) ⟨⟨[]⟩⟩,AR aE,AS P buf p,BV,BV],fun A=>[]⟩
theorem Um(aL aD aS aE aP aQ:Nat)(buf:Str)(p:Nat)(h:buf.length≤p)(h2:buf.length≤sizeLine)(I:zd):(nY w.2 aL aD aS aE aP aQ buf p).PI w b b2 9 St I:=As (Ag [bP w.2 aL aD aS aE aP aQ buf p]) 1 [] (hD 9 98 733705860415425067581143689720342354507049743098319311730546888160540810938548771808893236064) 3 [] 1 fun E0 ke=>.cons (T4 h h2) fun q q q=>.pO ke rfl
noncomputable def EW(o:Obj):FuncData:=match o.data with
 | .func f=>f
 | _=>{ name:=Str.empty,qualname:=Str.empty,params:=⟨[],[],none,[],[],none,[]⟩,body:=.stmts [],scope:=default,globals:=0,closure:=[],defaults:=.none,kwdefaults:=.none }
def Br(P:zp)(a:Nat)(o:zp→Obj)(fr:Nat):Env:=cw a (EW (o P)) ((EW (o P)).qualname.toString++".<locals>.") fr
noncomputable def mV(e:zq)(f:Option Nat):Sem Unit:=PySem.W.Fast.tw5670386056902412789 e f
noncomputable def dh(e:zq)(m:Sem Unit):Sem Fin:=PySem.W.R.bindR (PySem.W.R.bindR (PySem.W.R.bindR m (fun q=>mV e none)) (fun q=>.raise e)) (fun (fl:Flow)=>match fl with | .ret v=>PySem.W.Fast.tw6905046200447255374 v | _=>PySem.W.Fast.tw6905046200447255374 .none)
theorem Ko(e:zq):FN (dh e):=⟨fun q q q=>rfl,fun q q q q=>rfl,fun q q=>rfl,fun q=>rfl⟩
noncomputable def iJ:Pos:=⟨863,12,863,31⟩
noncomputable def Yn:List String:=["list.extend.loop","type.__call__","claim.caller"]
noncomputable def mu(P:zp):A8:=O7 (fun x=>dh (.ref (A4 x 8))) 8 (fun x=>Br P 881 OZ (A4 x 6)) (fun x=>A4 x 6) [6] (fun x=>Vk 0 (Br P 881 OZ (A4 x 6))) iJ Yn
theorem oL(P:zp)(fr:Nat):DH (Br P 881 OZ fr):=by
 have h:(Br P 881 OZ fr).scope.kind=.function:=by kernel_rfl
 exact ⟨by rw [h]; decide,by kernel_rfl⟩
theorem Xu{p:zv}{w:zt}{kt:KT}{P:zp}{n:Nat}{E:zi}{R:Lp}(hE:AW E R):(mu P).rz p w kt ⟨n,Ax E Yn⟩ (fun P=>P=R):=
 bf hE (fun q=>Ko _) (fun q=>rfl) (fun q=>oL _ _) (by decide) (by decide) (by decide) (by decide)
def bw(P:zp)(aL aD aS aE aP aQ:Nat)(buf:Str)(p x:Nat)(T:zl)(p':Nat):A8:=BU [0,1,2,3,4,5] [] [] (fun x0=>nX P aL aD aS aE aP aQ buf p x T p')
variable{w b b2}
theorem TY{aL aD aS aE aP aQ:Nat}{buf:Str}{p x:Nat}{T:zl}{p':Nat}{I:zd}{St:zc}(h1:2≤buf.length)(h2:buf.length≤sizeLine)(hz:B6 (buf.cps.toList.drop p) p=some (x::T,p',true)):(bw w.2 aL aD aS aE aP aQ buf p x T p').qB pw (wf w b b2) (A5 w.2) ⟨8,St⟩ I I:=
 AL (w:=wf w b b2) (fun x0=>Ul w b b2 aL aD aS aE aP aQ buf p x T p' h1 h2 hz I) (by decide) (fun q=>⟨rfl,rfl,fun q=>rfl⟩) (fun q q=>rfl)
def bz(P:zp)(aL aD aS aE aP aQ:Nat)(buf:Str)(p x:Nat)(T:zl)(p':Nat):A8:=BU [0,1,2,3,4,5] [] [] (fun x0=>nZ P aL aD aS aE aP aQ buf p x T p')
theorem Ta{aL aD aS aE aP aQ:Nat}{buf:Str}{p x:Nat}{T:zl}{p':Nat}{I:zd}{St:zc}(h1:2≤buf.length)(h2:buf.length≤sizeLine)(hz:B6 (buf.cps.toList.drop p) p=some (x::T,p',false)):(bz w.2 aL aD aS aE aP aQ buf p x T p').qB pw (wf w b b2) (A5 w.2) ⟨8,St⟩ I I:=
 AL (w:=wf w b b2) (fun x0=>Un w b b2 aL aD aS aE aP aQ buf p x T p' h1 h2 hz I) (by decide) (fun q=>⟨rfl,rfl,fun q=>rfl⟩) (fun q q=>rfl)
def bx(P:zp)(aL aD aS aE aP aQ:Nat)(buf:Str)(p:Nat):A8:=BU [0,1,2,3,4,5] [] [] (fun x0=>nY P aL aD aS aE aP aQ buf p)
theorem TZ{aL aD aS aE aP aQ:Nat}{buf:Str}{p:Nat}{I:zd}{St:zc}(h:buf.length≤p)(h2:buf.length≤sizeLine):(bx w.2 aL aD aS aE aP aQ buf p).qB pw (wf w b b2) (A5 w.2) ⟨8,St⟩ I I:=
 AL (w:=wf w b b2) (fun x0=>Um w b b2 aL aD aS aE aP aQ buf p h h2 I) (by decide) (fun q=>⟨rfl,rfl,fun q=>rfl⟩) (fun q q=>rfl)
def nI(P:zp)(aL aD aS aE aP aQ:Nat)(buf:Str)(p x:Nat)(T:zl)(p':Nat):Spec:=⟨.call (.ref 881) ⟨[.ref aL],[]⟩,[aL,aD,aS,aE,aP,aQ],[Ac aD,Ad P aS aP aQ (cv 32) ⟨⟨[]⟩⟩,AR aE,AS P buf p,BV,BV],fun A=>.fin (.done (.ret (.str ⟨⟨x::T⟩⟩ 0))),fun A=>[Ac aD,Ad P aS aP aQ (cv 32) ⟨⟨[]⟩⟩,AR aE,AS P buf p',BV,BV],fun A=>[]⟩
variable{St:zc}(w b b2)
theorem To(aL aD aS aE aP aQ:Nat)(buf:Str)(p x:Nat)(T:zl)(p':Nat)(h1:2≤buf.length)(h2:buf.length≤sizeLine)(hz:B6 (buf.cps.toList.drop p) p=some (x::T,p',true))(I:zd):(nI w.2 aL aD aS aE aP aQ buf p x T p').PI w b b2 8 St I:=As (Ag [bw w.2 aL aD aS aE aP aQ buf p x T p']) 1 [] (hD 9 37 162739445186260813997397888847425924) 0 [] 1 fun E0 ke=>.cons (TY h1 h2 hz) fun q q q=>.pO ke rfl
def nK(P:zp)(aL aD aS aE aP aQ:Nat)(buf:Str)(p x:Nat)(T:zl)(p':Nat):Spec:=⟨.call (.ref 881) ⟨[.ref aL],[]⟩,[aL,aD,aS,aE,aP,aQ],[Ac aD,Ad P aS aP aQ (cv 32) ⟨⟨[]⟩⟩,AR aE,AS P buf p,BV,BV],fun A=>.fin (.done (.ret (.str ⟨⟨x::T⟩⟩ 0))),fun A=>[Ac aD,Ad P aS aP aQ (.none) ⟨⟨[]⟩⟩,AR aE,AS P buf p',BV,BV],fun A=>[]⟩
theorem Tq(aL aD aS aE aP aQ:Nat)(buf:Str)(p x:Nat)(T:zl)(p':Nat)(h1:2≤buf.length)(h2:buf.length≤sizeLine)(hz:B6 (buf.cps.toList.drop p) p=some (x::T,p',false))(I:zd):(nK w.2 aL aD aS aE aP aQ buf p x T p').PI w b b2 8 St I:=As (Ag [bz w.2 aL aD aS aE aP aQ buf p x T p']) 1 [] (hD 9 37 162739445186260813997397888847425924) 0 [] 1 fun E0 ke=>.cons (Ta h1 h2 hz) fun q q q=>.pO ke rfl
def nJ(P:zp)(aL aD aS aE aP aQ:Nat)(buf:Str)(p:Nat):Spec:=⟨.call (.ref 881) ⟨[.ref aL],[]⟩,[aL,aD,aS,aE,aP,aQ],[Ac aD,Ad P aS aP aQ (.none) ⟨⟨[]⟩⟩,AR aE,AS P buf p,BV,BV],fun A=>.err (.ref (A 0)),fun A=>[Ac aD,Ad P aS aP aQ (.none) ⟨⟨[]⟩⟩,AR aE,AS P buf p,BV,BV],fun A=>[{ cls:=.type "StopIteration",data:=.fields #[.ref (A 1),.ref (A 2),.none,.none,.bool false,.none] },{ cls:=.type "tuple",data:=.seq #[] 0 },{ cls:=.type "traceback",data:=.fields #[.none,.ref (A 3),.none,.none,.none,.int 863 0,.int 863 0,.int 12 0,.int 31 0,sv "list.extend.loop\ntype.__call__\nclaim.caller",.bool false] },Bp (.dict #[kE P "self" (.ref aL),kE P "token" .none] 2)]⟩
theorem Tp(aL aD aS aE aP aQ:Nat)(buf:Str)(p:Nat)(h:buf.length≤p)(h2:buf.length≤sizeLine){E:zi}{R:Lp}(hE:AW E R):(nJ w.2 aL aD aS aE aP aQ buf p).PI w b b2 8 (Ax E Yn) (fun P=>P=R):=As (Ag [bx w.2 aL aD aS aE aP aQ buf p,mu w.2]) 2 [8,9,10,6] (hD 13 57 2861309586583805784663453534594031122302843750170290606912088055) 0 [] 1 fun E0 ke=>.cons (TZ h h2) fun q q q=>.note (Xu hE) fun q q q=>.pO ke rfl
end
section
open PySem PySem.W PySem.W.X PySem.Builtin.Str
section
variable{p:zv}{w:zt}{kt:KT}
theorem NY(x y z:Str)(t u v:Nat)(r:Str)(hu:u≠0)(hv:v≠0)(ue:u≠v)(uB:(y==z)=false)(hl:tooLong (x.length+(occurrences x y 0 x.length (x.length+1)).length*z.length)=false)
  (hr:(if ((occurrences x y 0 x.length (x.length+1)).isEmpty || (y.length==0&&z.length==0))=true then x else glued z (partsBetween x (occurrences x y 0 x.length (x.length+1)) y.length))=r) (hs:r.length≤sizeLine) :
  Bm p w (.call (.builtin "str.replace") ⟨[.str x t,.str y u,.str z v],[]⟩) (C6 r):=by
 refine Bf F.slot_str_replace (fun s=>yi s x t) F.entry_str_replace (F.args_str_replace_3 _ _ _) (gives_str_replace x y z t u v fun q=>⟨by simp [hu,hv],by simp [ue],uB,hl⟩) (fun s Q hq=>?_)
 cases hc:((occurrences x y 0 x.length (x.length+1)).isEmpty || (y.length==0&&z.length==0))
 ·rw [hc] at hr
  simp only [yI,yz] at hr ⊢
  rw [hr]
  exact ⟨hs,hq _ _ ⟨_,rfl⟩ B7⟩
 ·rw [hc] at hr
  simp only [zB] at hr ⊢
  rw [hr]
  exact hq _ _ ⟨t,rfl⟩ (BX.refl s)
noncomputable def KQ(x y z r:Str):A8:=⟨fun q=>.call (.builtin "str.replace") ⟨[.str x 0,.str y 0,.str z 0],[]⟩,[],fun q=>[],fun q=>none,fun q X=>Nat.blt 2 X.ti,fun u q=>.ok (.ret (.str r (u.n 0 2))),fun u X=>X.grown (u.n 0 0) (u.n 0 1),fun q q=>True,none,some fun X=>[X.t+(X.ti-2),X.t+(X.ti-1)],none,false⟩
theorem gq{t i u v:Nat}(h1:u=t+(i-2))(h2:v=t+(i-1))(h:2 < i):u≠0∧v≠0∧u≠v:=by lia
theorem TH{x y z r:Str}(uB:(y==z)=false)(hl:tooLong (x.length+(occurrences x y 0 x.length (x.length+1)).length*z.length)=false)
  (hr:(if ((occurrences x y 0 x.length (x.length+1)).isEmpty || (y.length==0&&z.length==0))=true then x else glued z (partsBetween x (occurrences x y 0 x.length (x.length+1)) y.length))=r) (hs:r.length≤sizeLine):(KQ x y z r).Ok p w kt:=by
 refine ⟨rfl,?_⟩
 intro c X s k g l cd pc rest hc _ qW D htk
 obtain ⟨ps,rfl,e⟩:=Ak hc
 cases ps with
 | nil=>cases e
 | cons a ps=>
  simp only [vu,wh] at e
  obtain ⟨b,c,rfl,e2,e3⟩:=EO e.2
  obtain ⟨t,rfl⟩:=AX e.1
  obtain ⟨u,rfl⟩:=AX e2
  obtain ⟨v,rfl⟩:=AX e3
  have h3:=htk _ rfl
  simp only [Fu,List.drop_one,List.tail_cons,vu,zD,Hq,wh,and_true] at h3
  have h4:2 < X.ti:=by have:=qW U0; exact w8 this
  obtain ⟨s',res,⟨tk,rfl⟩,G,go⟩:=NY (p:=p) (w:=w) x y z t u v r (gq h3.1 h3.2 h4).1 (gq h3.1 h3.2 h4).2.1 (gq h3.1 h3.2 h4).2.2 uB hl hr hs s k g l cd pc rest
  refine ⟨⟨fun q i=>if i=0 then s'.heap.objs.size else if i=1 then s'.toks else tk,fun q=>.plain,fun q=>#[]⟩,s',go,?_,?_,?_,trivial⟩
  ·exact D.grown G
  ·refine ⟨fun q q o h=>⟨o,h⟩,fun q q o h=>.inl ⟨o,h⟩,?_⟩
   show X.n+X.i≤s'.heap.objs.size+0
   rw [← D.size]; exact go.size
  ·exact ⟨G.life,fun b o hb q=>G.old b o hb⟩
end
end
section
open PySem PySem.W PySem.W.X
section
noncomputable def Eg(s r:zl):Spec:=⟨.call (.ref 911) ⟨[.str ⟨⟨s⟩⟩ 0],[]⟩,[],[],fun q=>.fin (.done (.ret (.str ⟨⟨r⟩⟩ 0))),fun q=>[],fun q=>[]⟩
def K9(s r:zl):List (zh→A8):=Ag [KQ ⟨⟨s⟩⟩ ⟨⟨[39]⟩⟩ ⟨⟨[39,34,39,34,39]⟩⟩ ⟨⟨r⟩⟩,CC [39] r (39::r),CC (39::r) [39] (39::(r++[39]))]
section
variable{St:zc}{w:zt}{b b2:Bool}{I:zd}
theorem LR{c:Nat}(h:c∈[61,97,98,99,100]):(Eg [c] [c]).PI w b b2 9 St I:=
 As [] 0 [] (hD 3 14 1594605) 1000000 [] 1 (fun E0 ke=>.pO ke rfl) (wU.mp (show [61,97,98,99,100].map (fun c=>Hn w b2 (fun q=>Eg [c] [c]) (fun q=>[]) 0 (fun q q=>[]) [] [] (hD 3 14 1594605) 1000000 [] 1)=[61,97,98,99,100].map (fun c=>Hm w b2 (fun q=>Eg [c] [c]) (fun q=>fun q=>Eg [c] [c]) (fun q=>[]) 0 (fun q q=>[]) [] [] (hD 3 14 1594605) 1000000 [] 1) by kernel_rfl) c h)
theorem SH{s r:zl}(look:Hn w b2 (fun z=>Eg s (39::(r++[39]))) (fun z=>K9 s r) 3 (fun z z=>[]) [] [] (hD 3 14 1594605) 3 [0,0] 1=Hm w b2 (fun z=>Eg s (39::(r++[39]))) (fun z=>fun z=>Eg s (39::(r++[39]))) (fun z=>K9 s r) 3 (fun z z=>[]) [] [] (hD 3 14 1594605) 3 [0,0] 1)(hr:∀ {p:zv} {w:zt} {kt:KT},(KQ ⟨⟨s⟩⟩ ⟨⟨[39]⟩⟩ ⟨⟨[39,34,39,34,39]⟩⟩ ⟨⟨r⟩⟩).Ok p w kt)(hl:r.length+2≤sizeLine):(Eg s (39::(r++[39]))).PI w b b2 9 St I:=
 As (K9 s r) 3 [] (hD 3 14 1594605) 3 [0,0] 1 (fun E0 ke=>.q hr fun z z z=>.q (Ao (by rw [wQ]; lia) rfl) fun z z z=>.q (Ao (by rw [vr,wQ]; lia) rfl) fun z z z=>.pO ke rfl) look
noncomputable def f7:zl:=[6,7,8,10,11,12,13,14,16,17,18,19,20]
noncomputable def iI:zl:=[3,6,9,10,11,12,13,14,16,18,20,36]
theorem iH{l r:zl}(h:l.length∈f7):Hn w b2 (fun q=>Eg (34::l) (39::(r++[39]))) (fun q=>K9 (34::l) r) 3 (fun q q=>[]) [] [] (hD 3 14 1594605) 3 [0,0] 1=Hm w b2 (fun q=>Eg (34::l) (39::(r++[39]))) (fun q=>fun q=>Eg (34::l) (39::(r++[39]))) (fun q=>K9 (34::l) r) 3 (fun q q=>[]) [] [] (hD 3 14 1594605) 3 [0,0] 1:=
 Ku f7 (⟨(),[()],.head _⟩:Cs Unit) (F:=fun l q=>Hn w b2 (fun q=>Eg (34::l) (39::(r++[39]))) (fun q=>K9 (34::l) r) 3 (fun q q=>[]) [] [] (hD 3 14 1594605) 3 [0,0] 1) (G:=fun l q=>Hm w b2 (fun q=>Eg (34::l) (39::(r++[39]))) (fun q=>fun q=>Eg (34::l) (39::(r++[39]))) (fun q=>K9 (34::l) r) 3 (fun q q=>[]) [] [] (hD 3 14 1594605) 3 [0,0] 1) (fun f=>by kernel_rfl) h
theorem iG{l r:zl}(h:l.length∈iI):Hn w b2 (fun q=>Eg (61::32::l) (39::(r++[39]))) (fun q=>K9 (61::32::l) r) 3 (fun q q=>[]) [] [] (hD 3 14 1594605) 3 [0,0] 1=Hm w b2 (fun q=>Eg (61::32::l) (39::(r++[39]))) (fun q=>fun q=>Eg (61::32::l) (39::(r++[39]))) (fun q=>K9 (61::32::l) r) 3 (fun q q=>[]) [] [] (hD 3 14 1594605) 3 [0,0] 1:=
 Ku iI (⟨(),[()],.head _⟩:Cs Unit) (F:=fun l q=>Hn w b2 (fun q=>Eg (61::32::l) (39::(r++[39]))) (fun q=>K9 (61::32::l) r) 3 (fun q q=>[]) [] [] (hD 3 14 1594605) 3 [0,0] 1) (G:=fun l q=>Hm w b2 (fun q=>Eg (61::32::l) (39::(r++[39]))) (fun q=>fun q=>Eg (61::32::l) (39::(r++[39]))) (fun q=>K9 (61::32::l) r) 3 (fun q q=>[]) [] [] (hD 3 14 1594605) 3 [0,0] 1) (fun f=>by kernel_rfl) h
end
end
theorem Gb{kt:KT}{s:zr}{L:Lp}{o:Obj}{tk:Nat}(H:BA kt s L)(hf:o.isFreed=false) :
  BA kt { s with heap:=s.heap.push o,toks:=tk } ((s.heap.objs.size,eO o)::L)∧Fr s { s with heap:=s.heap.push o,toks:=tk } L ((s.heap.objs.size,eO o)::L):=by
 refine ⟨⟨fun b ob h=>wc _ (H.top b ob h),fun q m=>?_,?_,fun q m=>?_⟩,?_,rfl,rfl,rfl,fun b ob h n=>wc _ h,fun q m=>?_⟩
 ·rcases wK.mp m with rfl | m
  ·exact ⟨o,xQ _ hf,rfl⟩
  ·obtain ⟨ob,h1,h2⟩:=H.own q m
   exact ⟨ob,wc _ h1,h2⟩
 ·rw [vu,wZ]
  refine ⟨fun m=>?_,H.nd⟩
  obtain ⟨q,hq,e⟩:=wC.mp m
  have:=H.lt hq
  rw [e] at this
  exact absurd this (Nat.lt_irrefl _)
 ·rcases wK.mp m with rfl | m
  ·cases hk:kt.get s.heap.objs.size with
   | none=>rfl
   | some z=>exact absurd (xm (H.top _ _ hk)) (Nat.lt_irrefl _)
  ·exact H.off q m
 ·cases s with | mk h=>cases h; rfl
 ·rcases wK.mp m with rfl | m
  ·exact .inr (vp _)
  ·exact .inl (vo m)
theorem Zr.perm{s s':zr}{L L' M:Lp}(F:Fr s s' L L')(p:L'.Perm M):Fr s s' L M:=⟨F.life,F.gens,F.drawn,F.os,F.old,fun q m=>F.new q (p.mem_iff.mpr m)⟩
noncomputable def aq(a b c:Int):Obj:={ cls:=.type "range",data:=.fields #[.int a 0,.int b 0,.int c 0] }
def i8(aR:Nat)(a b c n:Int):Spec:=⟨.call (.builtin "range.__iter__") ⟨[.ref aR],[]⟩,[aR],[aq a b c],fun A=>.fin (.done (.ret (.ref (A 0)))),fun q=>[aq a b c],fun q=>[Bv a n c]⟩
theorem Z7{o:Obj}{a b c:Int}(h:eO o=aq a b c):∃ t u v,o = { cls:=.type "range",dict:=none,data:=.fields #[.int a t,.int b u,.int c v],slots:=#[] }:=by
 obtain ⟨q,e⟩:=BY o
 rw [h] at e
 subst e
 exact ⟨_,_,_,rfl⟩
theorem Ru(w:zt)(aR:Nat)(a b c n:Int)(hn:Builtin.Range.rangeSize a b c=n)(qW:(Builtin.Range.rangeFitsLong a&&Builtin.Range.rangeFitsLong b&&Builtin.Range.rangeFitsLong c&&Builtin.Range.rangeFitsLong n&&(n==0 || if c > 0 then Builtin.Range.rangeFitsLong (b+(c-1)) else Builtin.Range.rangeFitsLong (b+(c+1))))=true)(I:zd):(i8 aR a b c n).pP w Eh I I:=by
 intro P hI
 refine Q8 fun as A s L hL ha H Q E hq=>?_
 subst hL
 obtain rfl:=D9 ha
 have H':BA (A5 w.2) s ((aR,aq a b c)::P):=H
 obtain ⟨o,ho,hO⟩:=H'.find
 obtain ⟨t,u,v,rfl⟩:=Z7 hO
 refine yR F.slot_range_iter ⟨_,ho,rfl⟩ F.entry_range_iter (F.args_range_iter_1 _) (AutoRange.range___iter___range_1 aR a b c t u v (by rw [hn,qW]; decide)) ⟨ho,?_⟩
 have U:=Gb (o:={ cls:=Value.type "range_iterator",data:=.fields #[rawInt a,rawInt n,rawInt c] }) (tk:=s.toks) H' rfl
 have pm:((s.heap.objs.size,eO { cls:=Value.type "range_iterator",data:=.fields #[rawInt a,rawInt n,rawInt c] })::(aR,aq a b c)::P).Perm ((i8 aR a b c n).pV (fun q=>s.heap.objs.size)++P):=List.Perm.swap _ _ _
 refine hq _ _ _ ⟨fun q=>s.heap.objs.size,P,hI,fun q m=>m,rfl,rfl⟩ (BA.perm ?_ pm) (Zr.perm ?_ pm)
 ·simp only [hn,qW,zB]
  exact U.1
 ·simp only [hn,qW,zB]
  exact U.2
def bZ(m:Nat)(a b c n:Int):A8:=Cm (fun q=>none) [m] [] [] (fun x=>i8 (A4 x m) a b c n)
theorem TG{St:Tl}{w:zt}{m:Nat}{a b c n:Int}{I:zd}(hn:Builtin.Range.rangeSize a b c=n)(qW:(Builtin.Range.rangeFitsLong a&&Builtin.Range.rangeFitsLong b&&Builtin.Range.rangeFitsLong c&&Builtin.Range.rangeFitsLong n&&(n==0 || if c > 0 then Builtin.Range.rangeFitsLong (b+(c-1)) else Builtin.Range.rangeFitsLong (b+(c+1))))=true):(bZ m a b c n).qB pw w (A5 w.2) St I I:=
 Ab (w:=w) (Sf:=fun q=>Eh) (fun x=>Ru w (A4 x m) a b c n hn qW I) CP (by simp) (fun q=>⟨rfl,rfl,fun q=>rfl⟩) (fun q q=>rfl)
end
section
open PySem PySem.W PySem.W.X PyProof.Rows
section
noncomputable def Cn(P:zp)(q:Str×zq):DictEntry:=⟨PyData.keyHash P q.1,.str q.1 0,q.2⟩
def A7(P:zp)(N:List (Str×zq))(n:Nat):zu:=.dict ⟨N.map (Cn P)⟩ n
noncomputable def A6(D:zu):Obj:={ cls:=.type "dict",data:=D }
noncomputable def A'(N:List (Str×zq))(x:Str):Option zq:=(N.find? (fun q=>q.1==x)).map (·.2)
def CN(e:DictEntry):DictEntry:=⟨e.hash,eV e.key,eV e.val⟩
theorem BQ{o:Obj}{P:zp}{N:List (Str×zq)}{n:Nat}(h:eO o=A6 (A7 P N n)):∃ es:Array DictEntry,o = { cls:=.type "dict",dict:=none,data:=.dict es n,slots:=#[] }∧es.toList.map CN=N.map (Cn P):=by
 obtain ⟨q,e⟩:=BY o
 rw [h] at e
 subst e
 exact ⟨_,rfl,vm (fun o:Obj=>match o.data with | .dict es _=>es.toList | _=>[]) h⟩
theorem JR(v:zq)(x:Str):(eV v).isStr x=v.isStr x:=by cases v<;>rfl
theorem BJ{P:zp}:∀ {l:List DictEntry} {N:List (Str×zq)},l.map CN=N.map (Cn P)→(l.all fun e=>isExactStrKey e.key)=true
 | [],_,_=>rfl
 | e::l,[],h=>by cases h
 | e::l,q::N,h=>by
  simp only [vu,wh] at h
  rw [List.all_cons,BJ h.2,Bool.and_true]
  have:=vm DictEntry.key h.1
  obtain ⟨t,ht⟩:=AX this
  rw [ht]; rfl
theorem Ew{P:zp}(x:Str):∀ {l:List DictEntry} {N:List (Str×zq)},l.map CN=N.map (Cn P)→((l.find? fun e=>e.key.isStr x).map (·.val)).map eV=A' N x
 | [],[],_=>rfl
 | [],_::_,h=>by cases h
 | e::l,[],h=>by cases h
 | e::l,q::N,h=>by
  simp only [vu,wh] at h
  have hk:eV e.key=.str q.1 0:=vm DictEntry.key h.1
  have hv:eV e.val=q.2:=vm DictEntry.val h.1
  have e1:e.key.isStr x=(q.1==x):=by rw [← JR,hk]; rfl
  have ih:=Ew x h.2
  unfold A' at ih ⊢
  rw [z7,z7,e1]
  cases hq:q.1==x with
  | true=>simp [hv]
  | false=>exact ih
theorem EX{P:zp}(x:Str):∀ {l:List DictEntry} {N:List (Str×zq)},l.map CN=N.map (Cn P)→(l.findIdx? fun e=>e.key.isStr x)=N.findIdx? (fun q=>q.1==x)
 | [],[],_=>rfl
 | [],_::_,h=>by cases h
 | e::l,[],h=>by cases h
 | e::l,q::N,h=>by
  simp only [vu,wh] at h
  have hk:eV e.key=.str q.1 0:=vm DictEntry.key h.1
  have e1:e.key.isStr x=(q.1==x):=by rw [← JR,hk]; rfl
  rw [xw,xw,e1,EX x h.2]
section
variable{prog:zv}{w:zt}{A:Around}{E:zq→zr→Prop}{s:zr}
theorem CH{d:Addr}{o:Obj}{es:Array DictEntry}{ep:Nat}{x:Str}{t:Tok}{Q:Option zq→zr→Prop}(ho:s.heap.get? d=some o)(hd:o.data=.dict es ep)(tO:(es.toList.all fun e=>isExactStrKey e.key)=true)
  (h:Q ((es.toList.find? fun e=>e.key.isStr x).map (·.val)) { s with toks:=s.toks+1 }):wpAny (model prog w) A (dictGet d (.str x t)) Q E s:=by
 unfold dictGet
 try with_reducible refine xn ?_
 refine vi (yx (vi (yW (s:={ s with toks:=s.toks+1 }) ho hd (by obtain ⟨l⟩:=es; simpa using tO) ?_)))
 have hf:(es.toList.find? fun e=>e.key.isStr x).map (·.val)=(es.findIdx? fun e=>e.key.isStr x).bind (fun i=>(es[i]?).map (·.val)):=by
  obtain ⟨l⟩:=es
  simp only [yN,List.getElem?_toArray]
  clear h tO hd ho
  induction l with
  | nil=>rfl
  | cons e l ih=>
   rw [z7,xw]
   cases e.key.isStr x with
   | true=>rfl
   | false=>
    dsimp only at ih ⊢
    rw [ih]
    cases List.findIdx? (fun e=>e.key.isStr x) l<;>rfl
 rw [hf] at h
 cases hi:es.findIdx? fun e=>e.key.isStr x with
 | none=>rw [hi] at h; exact vx h
 | some i=>rw [hi] at h; exact vi (yP (s:={ s with toks:=s.toks+1 }) ho hd (vx h))
end
theorem Fd{w:zt}{s:zr}{a:Nat}{O:Obj}{P:Lp}(H:BA (A5 w.2) s ((a,O)::P)):(a==sysModules)=false:=by
 have h:=H.off (a,O) (.head _)
 by_cases e:a=sysModules
 ·subst e
  have:((A5 w.2).get sysModules).isSome=true:=by kernel_rfl
  rw [h] at this; cases this
 ·simpa using e
noncomputable def C3(C:Code)(a:Nat)(O O':Obj)(r:zq):Spec:=⟨C,[a],[O],fun q=>.fin (.done (.ret r)),fun q=>[O'],fun q=>[]⟩
def Tg(C:Nat→Code)(m:Nat)(O O':Obj)(r:zq):A8:=Cm (fun q=>none) [m] [true] [] (fun x=>C3 (C (A4 x m)) (A4 x m) O O' r)
theorem Lh{St:Tl}{w:zt}{C:Nat→Code}{m:Nat}{O O':Obj}{r:zq}{I:zd}(h:∀ a,(C3 (C a) a O O' r).pP w Eh I I):(Tg C m O O' r).qB pw w (A5 w.2) St I I:=
 Ab (w:=w) (Sf:=fun q=>Eh) (fun x=>h (A4 x m)) CP (by simp) (fun q=>⟨rfl,rfl,fun q=>rfl⟩) (fun q q=>rfl)
def Vd(w:zt)(f:zq)(as:zf)(a:Nat)(O:Obj)(r:zq):Prop:=
 ∀ (vs:zf) (A:Around) (s:zr) (P:Lp) (o:Obj),vs.map eV=as→BA (A5 w.2) s ((a,O)::P)→s.heap.get? a=some o→eO o=O→∀ (Q E:zq→zr→Prop),(∀ v tk,eV v=r→Q v { s with toks:=tk })→wpAny (model pw w) A (call f vs) Q E s
def I8(f:zq)(as:Nat→zf)(m:Nat)(O:Obj)(r:zq):A8:=J7 (fun X=>.call f ⟨as (A4 X m),[]⟩) [m] (fun X=>[some (A4 X m,O)]) (fun u q=>.ok (.ret (dV u r)))
theorem M3{kt:KT}{s:zr}{X:SX}{m a:Nat}{o:Obj}(D:BR kt s X)(h:X.T.get m=some (a,o)):BA kt s [(a,eO o)]:=
 ⟨D.top,fun q hq=>by obtain rfl:=xX.mp hq; exact ⟨o,D.own _ _ _ h,rfl⟩,by simp,fun q hq=>by obtain rfl:=xX.mp hq; exact D.off _ _ _ h⟩
theorem CA{w:zt}{f:zq}{as:Nat→zf}{m:Nat}{O:Obj}{r:zq}(h:∀ a,Vd w f (as a) a O r):(I8 f as m O r).Ok pw w (A5 w.2):=CS fun c X hc hp=>by
 obtain ⟨ps,rfl,e⟩:=Ak hc
 obtain ⟨o,ho,ho2⟩:=Am (wB hp).1
 refine ED (Pre:=fun s=>BR (A5 w.2) s X) fun A s D Q E hq=>?_
 have H:=M3 D ho
 rw [ho2] at H
 exact h (A4 X m) ps A s [] o e H (D.own _ _ _ ho) ho2 Q E fun v tk hv=>hq v _ ⟨Hq v,by rw [← hv,EZ]⟩ B7
theorem Gl{w:zt}{f:zq}{as:Nat→zf}{a:Nat}{O O':Obj}{r:zq}{I:zd}
  (h:∀ (vs:zf) (A:Around) (s:zr) (P:Lp) (o:Obj),vs.map eV=as a→BA (A5 w.2) s ((a,O)::P)→s.heap.get? a=some o→eO o=O→∀ (Q E:zq→zr→Prop),(∀ v tk g o',eV v=r→g o=o'→eO o'=O'→o'.isFreed=false→Q v { s with heap:=s.heap.update a g,toks:=tk })→wpAny (model pw w) A (call f vs) Q E s) :
  (C3 (.call f ⟨as a,[]⟩) a O O' r).pP w XF I I:=by
 intro P hI
 refine MI fun vs A s L hL ha H Q E hq=>?_
 subst hL
 have H':BA (A5 w.2) s ((a,O)::P):=H
 obtain ⟨o,ho,hO⟩:=H'.find
 refine h vs A s P o ha H' ho hO Q E fun v tk g o' hv hg sZ hf=>?_
 rw [← hO] at H'
 have U:=Bd (f:=g) (tk:=tk) H' ho hg hf
 rw [sZ,hO] at U
 exact hq v _ _ ⟨fun q=>0,P,hI,fun q m=>m,by rw [hv]; rfl,rfl⟩ U.1 U.2
theorem MK{w:zt}{f:zq}{as:Nat→zf}{a:Nat}{O O':Obj}{r:zq}{I:zd}
  (h:∀ (vs:zf) (A:Around) (s:zr) (P:Lp) (o:Obj),vs.map eV=as a→BA (A5 w.2) s ((a,O)::P)→s.heap.get? a=some o→eO o=O→∀ (Q E:zq→zr→Prop),(∀ v tk g o',eV v=r→g o=o'→eO o'=O'→o'.isFreed=false→Q v { s with heap:=s.heap.update a g,toks:=tk })→wpAny (model pw w) A (call f vs) Q E s) :
  (C3 (.call f ⟨as a,[]⟩) a O O' r).pP w Eh I I:=(Gl h).uY
section
variable{w:zt}{D D':zu}{N:List (Str×zq)}{n:Nat}{x:Str}{r v:zq}{I:zd}
theorem Et{P:zp}{es:Array DictEntry}{x:Str}{N:List (Str×zq)}(he:es.toList.map CN=N.map (Cn P)){r:zq}(h:A' N x=some r):∃ v,(es.toList.find? fun e=>e.key.isStr x).map (·.val)=some v∧eV v=r:=by
 have:=Ew x he
 rw [h] at this
 cases q:(es.toList.find? fun e=>e.key.isStr x).map (·.val) with
 | none=>rw [q] at this; cases this
 | some v=>rw [q] at this; exact ⟨v,rfl,by simpa using this⟩
theorem Hg{P:zp}{es:Array DictEntry}{x:Str}{N:List (Str×zq)}(he:es.toList.map CN=N.map (Cn P))(h:A' N x=none):(es.toList.find? fun e=>e.key.isStr x).map (·.val)=none:=by
 have:=Ew x he
 rw [h] at this
 cases q:(es.toList.find? fun e=>e.key.isStr x).map (·.val) with
 | none=>rfl
 | some v=>rw [q] at this; cases this
theorem Dv{α β:Type}{f:α→β}{l:List α}{k:Nat}(h:l.length=k+1):(l.eraseIdx k).map f=(l.map f).take k:=by
 rw [List.eraseIdx_eq_take_drop_succ,List.drop_eq_nil_of_le (by lia),w9,yD]
theorem Q7(a:Nat)(hD:D=A7 w.2 N n)(hr:(A' N x).getD .none=r):Vd w (.builtin "dict.get") [.ref a,.str x 0] a (A6 D) r:=by
 subst hD
 intro vs A s P o ha H ho hO Q E hq
 obtain ⟨t,rfl⟩:=D8 ha
 obtain ⟨es,rfl,he⟩:=BQ hO
 refine wF F.slot_dict_get ⟨_,ho,rfl⟩ F.entry_dict_get ?_ (F.args_dict_get_2 _ _)
 show wpAny _ _ (dictGet a (.str x t)>>=_) _ _ s
 refine vi (CH ho rfl (BJ he) ?_)
 cases hl:A' N x with
 | some y=>
  obtain ⟨v,hv,ev⟩:=Et he hl
  rw [hv]
  rw [hl] at hr
  exact vx ⟨v,rfl,hq v _ (by rw [ev]; exact hr)⟩
 | none=>
  rw [Hg he hl]
  rw [hl] at hr
  show wpAny _ _ (Builtin.Dict.missed a (.str x t)>>=_) _ _ _
  exact vi (wpAny_missed_other (Fd H) (vx ⟨.none,rfl,hq _ _ (by rw [← hr]; rfl)⟩))
theorem N0(a:Nat)(hD:D=A7 w.2 N n)(hr:A' N x=some r):Vd w (.builtin "dict.__getitem__") [.ref a,.str x 0] a (A6 D) r:=by
 subst hD
 intro vs A s P o ha H ho hO Q E hq
 obtain ⟨t,rfl⟩:=D8 ha
 obtain ⟨es,rfl,he⟩:=BQ hO
 refine wF slot_dict_getitem ⟨_,ho,rfl⟩ entry_dict_getitem ?_ (args_dict_getitem _ _)
 show wpAny _ _ (dictGet a (.str x t)>>=_) _ _ s
 refine vi (CH ho rfl (BJ he) ?_)
 obtain ⟨v,hv,ev⟩:=Et he hr
 rw [hv]
 exact vx ⟨v,rfl,hq v _ ev⟩
theorem Q6{b:Bool}(a:Nat)(hD:D=A7 w.2 N n)(hr:(A' N x).isSome=b):Vd w (.builtin "dict.__contains__") [.ref a,.str x 0] a (A6 D) (.bool b):=by
 subst hD
 intro vs A s P o ha H ho hO Q E hq
 obtain ⟨t,rfl⟩:=D8 ha
 obtain ⟨es,rfl,he⟩:=BQ hO
 refine wF slot_dict_contains ⟨_,ho,rfl⟩ entry_dict_contains ?_ (args_dict_contains _ _)
 show wpAny _ _ (dictGet a (.str x t)>>=_) _ _ s
 refine vi (CH ho rfl (BJ he) ?_)
 cases hl:A' N x with
 | some y=>
  obtain ⟨v,hv,ev⟩:=Et he hl
  rw [hv]
  rw [hl] at hr
  exact vx ⟨_,rfl,hq _ _ (by rw [← hr]; rfl)⟩
 | none=>
  rw [Hg he hl]
  rw [hl] at hr
  show wpAny _ _ (Builtin.Dict.pendingKey? a (.str x t)>>=_) _ _ _
  exact vi (wpAny_pendingKey_other (Fd H) (vx ⟨_,rfl,hq _ _ (by rw [← hr]; rfl)⟩))
theorem H4{P:zp}{es:Array DictEntry}{x:Str}{N:List (Str×zq)}(he:es.toList.map CN=N.map (Cn P))(h:A' N x=none):(es.findIdx? fun e=>e.key.isStr x)=none:=by
 obtain ⟨l⟩:=es
 simp only [yN]
 have e1:=EX x (l:=l) he
 rw [e1,yc]
 intro q hq
 unfold A' at h
 rw [yp,zK] at h
 simpa using h q hq
theorem Q4(a:Nat)(hD:D=A7 w.2 N n)(hx:A' N x=none)(qU:D'=A7 w.2 (N++[(x,v)]) (n+1))(hs:N.length≤sizeLine):(C3 (.call (.builtin "dict.__setitem__") ⟨[.ref a,.str x 0,v],[]⟩) a (A6 D) (A6 D') .none).pP w Eh I I:=by
 subst hD qU
 refine MK (as:=fun a=>[.ref a,.str x 0,v]) fun vs A s P o ha H ho hO Q E hq=>?_
 cases vs with
 | nil=>cases ha
 | cons u vs=>
 simp only [vu,wh] at ha
 obtain ⟨e1,ha⟩:=ha
 obtain ⟨y,z,rfl,e2,e3⟩:=EO ha
 obtain rfl:=B3 e1
 obtain ⟨t,rfl⟩:=AX e2
 obtain ⟨es,rfl,he⟩:=BQ hO
 have hz:es.size≤sizeLine:=by
  have:=vm List.length he
  simp only [vh,yd] at this
  lia
 refine wF slot_dict_setitem ⟨_,ho,rfl⟩ entry_dict_setitem ?_ (args_dict_setitem _ _ _)
 show wpAny _ _ (Builtin.Dict.notOrdered "__setitem__" ⟨[.ref a,.str x t,z],[]⟩>>=_) _ _ s
 refine vi (y4 ⟨_,ho,rfl⟩ ?_)
 show wpAny _ _ (dictSet a (.str x t) z>>=_) _ _ s
 refine vi ?_
 unfold dictSet
 refine xn (vi (yx ?_))
 unfold dictSetHashed
 refine xn (vi (yW (s:={ s with toks:=s.toks+1 }) ho rfl (by have:=BJ he; obtain ⟨l⟩:=es; simpa using this) ?_))
 rw [H4 he hx]
 refine vi (wpAny_rule (wpAny_updateDictKeys (hz:=hz) (s:={ s with toks:=s.toks+1 }) ho rfl ?_))
 refine vx ⟨.none,rfl,hq .none (s.toks+1) _ _ rfl rfl ?_ rfl⟩
 show eO { cls:=.type "dict",dict:=none,data:=.dict (es.push ⟨hashStr w x,.str x t,z⟩) (n+1),slots:=#[] } = _
 have:(es.push ⟨hashStr w x,.str x t,z⟩).toList.map CN=(N++[(x,v)]).map (Cn w.2):=by
  rw [zP,vl,vl,he]
  simp only [vu,zD,CN,e3]
  rfl
 unfold A6 A7
 rw [← this]
 rfl
theorem N4(a:Nat)(hD:D=A7 w.2 (N++[(x,v)]) n)(hx:A' N x=none)(qU:D'=A7 w.2 N (n+1))(hs:N.length < sizeLine):(C3 (.call (.builtin "dict.__delitem__") ⟨[.ref a,.str x 0],[]⟩) a (A6 D) (A6 D') .none).pP w XF I I:=by
 subst hD qU
 refine Gl (as:=fun a=>[.ref a,.str x 0]) fun vs A s P o ha H ho hO Q E hq=>?_
 obtain ⟨t,rfl⟩:=D8 ha
 obtain ⟨es,rfl,he⟩:=BQ hO
 have hlen:es.size=N.length+1:=by
  have:=vm List.length he
  simpa using this
 refine wF F.slot_dict_delitem ⟨_,ho,rfl⟩ F.entry_dict_delitem ?_ (F.args_dict_delitem_2 _ _)
 unfold Builtin.«dict.__delitem__»
 refine vi ?_
 unfold Builtin.Dict.dictSlotArgs
 refine vi (y4 ⟨_,ho,rfl⟩ ?_)
 show wpAny _ _ (pure (Value.ref a,Value.str x t)) _ _ s
 refine vx ?_
 show wpAny _ _ (Builtin.Dict.takeOut a (.str x t)>>=_) _ _ s
 refine vi ?_
 unfold Builtin.Dict.takeOut
 refine xn (vi (yx ?_))
 refine vi (yW (s:={ s with toks:=s.toks+1 }) ho rfl (by have:=BJ he; obtain ⟨l⟩:=es; simpa using this) ?_)
 have hi:(es.findIdx? fun e=>e.key.isStr x)=some N.length:=by
  obtain ⟨l⟩:=es
  simp only [yN]
  have e1:=EX x (l:=l) he
  rw [e1,List.findIdx?_append]
  have:List.findIdx? (fun q:Str×zq=>q.1==x) N=none:=by
   rw [yc]
   intro q hq
   unfold A' at hx
   rw [yp,zK] at hx
   simpa using hx q hq
  rw [this]
  simp
 rw [hi]
 refine vi (yP (s:={ s with toks:=s.toks+1 }) ho rfl ?_)
 rw [xE (by lia:N.length < es.size)]
 refine vi (wpAny_updateDictKeysTo (s:={ s with toks:=s.toks+1 }) ho rfl (vx ?_) ?_)
 ·dsimp only
  refine vi (wpAny_letGo (vx ⟨.none,rfl,hq .none (s.toks+1) _ _ rfl rfl ?_ rfl⟩))
  show eO { cls:=.type "dict",dict:=none,data:=.dict (es.eraseIdxIfInBounds N.length) (n+1),slots:=#[] } = _
  have:(es.eraseIdxIfInBounds N.length).toList.map CN=N.map (Cn w.2):=by
   obtain ⟨l⟩:=es
   have he':l.map CN=(N++[(x,v)]).map (Cn w.2):=he
   have el:(Array.mk l).eraseIdxIfInBounds N.length=⟨l.eraseIdx N.length⟩:=by
    simp
   rw [el]
   show (l.eraseIdx N.length).map CN=_
   rw [Dv (by simpa using hlen),he',vl]
   simp
  unfold A6 A7
  rw [← this]
  rfl
 ·have:(es.eraseIdxIfInBounds N.length).size≤es.size:=by
   obtain ⟨l⟩:=es
   have:(l.eraseIdx N.length).length≤l.length:=List.length_eraseIdx_le ..
   simpa using this
  have h2:es.size≤sizeLine+1:=by lia
  exact vv this h2
end
end
section
def AN(vs:zj):zf:=vs.map (fun x=>.str x 0)
theorem Ai{o:Obj}{vs:zf}{n:Nat}(h:eO o=A0 (.seq ⟨vs⟩ n)):∃ xs:Array zq,o = { cls:=.type "list",dict:=none,data:=.seq xs n,slots:=#[] }∧xs.toList.map eV=vs:=IZ h
noncomputable def AG(D:zu):Obj:={ cls:=.type "tuple",data:=D }
theorem Cd{o:Obj}{vs:zf}{n:Nat}(h:eO o=AG (.seq ⟨vs⟩ n)):∃ xs:Array zq,o = { cls:=.type "tuple",dict:=none,data:=.seq xs n,slots:=#[] }∧xs.toList.map eV=vs:=by
 obtain ⟨q,e⟩:=BY o
 rw [h] at e
 subst e
 exact ⟨_,rfl,vm XG h⟩
theorem AY{xs:Array zq}{vs:zf}(h:xs.toList.map eV=vs):xs.size=vs.length:=by
 have:=vm List.length h
 simpa using this
theorem Fe{xs:Array zq}{vs:zf}(h:xs.toList.map eV=vs)(i:Nat):(xs[i]?).map eV=vs[i]?:=by
 obtain ⟨l⟩:=xs
 rw [← h]; simp
theorem Cx{xs:Array zq}{vs:zf}(h:xs.toList.map eV=vs){i:Nat}{v:zq}(hv:vs[i]?=some v):∃ y,xs[i]?=some y∧eV y=v:=by
 have:=Fe h i
 rw [hv] at this
 cases q:xs[i]? with
 | none=>rw [q] at this; cases this
 | some y=>rw [q] at this; exact ⟨y,rfl,by simpa using this⟩
theorem Iy{xs:Array zq}{vs:zf}(h:xs.toList.map eV=vs){i:Nat}(hv:vs[i]?=none):xs[i]?=none:=by
 have:=Fe h i
 rw [hv] at this
 cases q:xs[i]? with
 | none=>rfl
 | some y=>rw [q] at this; cases this
section
variable{w:zt}{D D':zu}{vs:zf}{n:Nat}{v:zq}{I:zd}
theorem Ml(a:Nat)(hD:D=.seq ⟨vs++[v]⟩ n)(hs:vs.length < 2 ^ 62):Vd w (.builtin "list.__getitem__") [.ref a,.int (-1) 0] a (A0 D) v:=by
 subst hD
 intro ps A s P o ha H ho hO Q E hq
 obtain ⟨u,y,rfl,e1,e2⟩:=EO ha
 obtain rfl:=B3 e1
 obtain ⟨t,rfl⟩:=E4 e2
 obtain ⟨xs,rfl,hx⟩:=Ai hO
 have hl:=AY hx
 simp only [vn,vr,x9] at hl
 obtain ⟨z,hz,ez⟩:=Cx hx (i:=vs.length) (v:=v) (by simp)
 refine wF slot_list_getitem ⟨_,ho,rfl⟩ zL ?_ (args_list_getitem _ _)
 show wpAny _ _ (Builtin.List.listSubscript? (.int (-1) t)>>=_) _ _ s
 refine vi (wpAny_listSubscript_int (fitsIndex_neg (by decide) (by decide)) ?_)
 have hidx:seqIndex? (-1) xs.size=some vs.length:=by
  rw [PySem.MeetsSeq.seqIndex_neg (by decide) (by lia)]
  congr 1; lia
 show wpAny _ _ ((Builtin.List.listItems (.ref a)>>=fun xs=>pure ((seqIndex? (Int.negSucc 0) xs.size).bind fun i=>xs[i]?.map (i,·)))>>=_) _ _ s
 refine vi (vi ?_)
 show wpAny _ _ (seqItems? (.ref a)>>=_) _ _ s
 refine vi (yX ho rfl (vx (vx ?_)))
 rw [show (Int.negSucc 0)=-1 from rfl,hidx]
 simp only [Option.bind_some,hz,zX]
 exact vx ⟨z,rfl,hq z s.toks ez⟩
theorem Mk(a:Nat)(hD:D=.seq ⟨vs++[v]⟩ n)(qU:D'=.seq ⟨vs⟩ (n+1))(hs:vs.length < sizeLine):(C3 (.call (.builtin "list.pop") ⟨[.ref a],[]⟩) a (A0 D) (A0 D') v).pP w XF I I:=by
 subst hD qU
 refine Gl (as:=fun a=>[.ref a]) fun ps A s P o ha H ho hO Q E hq=>?_
 obtain rfl:=D9 ha
 obtain ⟨xs,rfl,hx⟩:=Ai hO
 have hl:=AY hx
 simp only [vn,vr,x9] at hl
 obtain ⟨z,hz,ez⟩:=Cx hx (i:=vs.length) (v:=v) (by simp)
 refine yR F.slot_list_pop ⟨_,ho,rfl⟩ F.entry_list_pop (F.args_list_pop_1 _) (PySem.MeetsSeq.list_pop_last a xs n z (by rw [hl]; exact hz) (by lia)) ⟨ho,?_⟩
 have sz:(xs.eraseIdxIfInBounds (xs.size-1)).size=xs.size-1:=by
  obtain ⟨l⟩:=xs
  have hl':l.length=vs.length+1:=hl
  simp only [List.eraseIdxIfInBounds_toArray,List.size_toArray,hl',Nat.add_sub_cancel]
  rw [List.length_eraseIdx_of_lt (by lia),hl',Nat.add_sub_cancel]
 have ne:((xs.eraseIdxIfInBounds (xs.size-1)).size==xs.size)=false:=by rw [sz]; simp; lia
 refine hq z s.toks _ { cls:=.type "list",dict:=none,data:=.seq (xs.eraseIdxIfInBounds (xs.size-1)) (n+1),slots:=#[] } ez (by simp only [Obj.mapSeq,ne]; rfl) ?_ rfl
 have:(xs.eraseIdxIfInBounds (xs.size-1)).toList.map eV=vs:=by
  obtain ⟨l⟩:=xs
  have hx':l.map eV=vs++[v]:=hx
  have hl':l.length=vs.length+1:=hl
  have el:(Array.mk l).eraseIdxIfInBounds ((Array.mk l).size-1)=⟨l.eraseIdx vs.length⟩:=by simp [hl']
  rw [el]
  show (l.eraseIdx vs.length).map eV=_
  rw [Dv hl',hx']
  simp
 rw [← this]; rfl
theorem P9(a:Nat){r:Int}(hD:D=.seq ⟨vs⟩ n)(hr:(vs.length:Int)=r)(hs:vs.length < 2 ^ 62):Vd w (.builtin "len") [.ref a] a (A0 D) (.int r 0):=by
 subst hD hr
 intro ps A s P o ha H ho hO Q E hq
 obtain rfl:=D9 ha
 obtain ⟨xs,rfl,hx⟩:=Ai hO
 have hl:=AY hx
 exact Calls.call_len_list ⟨_,ho,rfl,n,rfl⟩ (by lia) (hq _ _ (by rw [hl]; rfl))
end
theorem Eb{w:zt}{Sh:Pos→ze→Prop}{C:Code}{Pre:zd}{pQ:End→Lp→Prop}(rP:∀ pc pN,Sh pc pN→Eh pc pN)
  (h:∀ (c:Code) (A:Around) (s:zr) (L:Lp),Pre L→eC c=C→BA (A5 w.2) s L→A.handled=none→A.in1.handled=none→∀ (Q E:zq→zr→Prop),(∀ v s' L',pQ (.fin (.done (.ret (eV v)))) L'→BA (A5 w.2) s' L'→Fr s s' L L'→Q v s')→(∀ e s' L',pQ (.err e) L'→BA (A5 w.2) s' L'→Fr s s' L L'→E e s')→wpAny (model pw w) A (runValue c) Q E s):DZ w Sh C Pre pQ:=by
 intro c s pc pN L hp hc H hs
 obtain ⟨hq,k,g,l,cd,rest,rfl⟩:=rP _ _ hs
 have hh:=(Nx (Fh hq).2).1
 exact CQ (h c (QD cd rest) s L hp hc H hh hh (fun v s'=>∃ L',pQ (.fin (.done (.ret (eV v)))) L'∧BA (A5 w.2) s' L'∧Fr s s' L L') (fun e s'=>∃ L',pQ (.err e) L'∧BA (A5 w.2) s' L'∧Fr s s' L L') (fun v s' L' a b c=>⟨L',a,b,c⟩) (fun v s' L' a b c=>⟨L',a,b,c⟩)) (fun v s' _ _ ⟨L',a,b,c⟩ go=>⟨.fin (.done (.ret v)),s',L',_,_,go,a,b,c⟩) (fun v s' _ _ ⟨L',a,b,c⟩ go=>⟨.err v,s',L',_,_,go,a,b,c⟩)
section
variable{w:zt}{D D':zu}{vs:zf}{n:Nat}{v:zq}{I:zd}
def I5(m:Nat)(D:zu)(r:Int):A8:=J7 (fun X=>.builtin "len" ⟨[.ref (A4 X m)],[]⟩) [m] (fun X=>[some (A4 X m,A0 D)]) (fun u q=>.ok (.ret (.int r u)))
theorem Eo{m:Nat}{r:Int}(hD:D=.seq ⟨vs⟩ n)(hr:(vs.length:Int)=r)(hs:vs.length < 2 ^ 62):(I5 m D r).Ok pw w (A5 w.2):=CS fun c X hc hp=>by
 subst hD hr
 obtain ⟨ps,rfl,e⟩:=MA hc
 obtain rfl:=D9 e
 obtain ⟨o,ho,ho2⟩:=Am (wB hp).1
 obtain ⟨xs,rfl,hx⟩:=Ai ho2
 have hl:=AY hx
 refine Ek (Pre:=fun s=>BR (A5 w.2) s X) fun A s D Q E hq=>?_
 have hg:=D.own _ _ _ ho
 refine zI (z6 entry_len ?_)
 rw [yU plain_len _]
 exact wpAny_mono (wpAny_len_body_list (Q:=Q) ⟨_,hg,rfl,n,rfl⟩ (by lia) (hq (.int xs.size (s.toks+1)) _ ⟨s.toks+1,by rw [hl]⟩ B7))
   (fun fin s' h'=>by obtain ⟨r,rfl,hq⟩:=h'; exact hq) fun q q e=>e
end
end
end
section
open PySem PySem.W PySem.W.X
noncomputable def lR{α:Type}(v:zq):Sem α→Sem α
 | .call _ _ _ _ k=>k (.ok (.ret v))
 | t=>t
noncomputable def lT{α:Type}(o:Obj):Sem α→Sem α
 | .load _ _ k=>match k o with
  | .load _ _ k2=>k2 o
  | t=>t
 | t=>t
noncomputable def fQ(sep:Str)(items:zf):Sem Fin:=lT (A0 (.seq ⟨items⟩ 0)) (PySem.W.Fast.tw15301495375477561915 ⟨[.str sep 0,.ref 0],[]⟩)
noncomputable def fR(sep:Str)(a:Nat):Sem Fin:=PySem.W.R.bindR (lR (.ref a) (PySem.W.Fast.tw16476300251587348589 .none)) (fQ sep)
noncomputable def cf(L:Str):Sem Fin:=.fresh fun t=>.pure (.done (.ret (.str L t)))
theorem Yd(sep:Str)(items:zf):fQ sep items=joinTail sep items:=by
 unfold fQ
 rw [← PySem.W.Fast.te15301495375477561915]
 rfl
theorem Ua{sep:Str}{l:List (Str×Tok)}(h2:2≤l.length)(h:Builtin.Str.tooLong ((l.map (·.1)).toArray.foldl (· + ·.length+sep.length) 0)=false)(hs:(Builtin.Str.glued sep (l.map (·.1))).length≤sizeLine):joinTail sep (strValues l)=cf (Builtin.Str.glued sep (l.map (·.1))):=by
 have e:joinRest sep (strValues l)=cf (Builtin.Str.glued sep (l.map (·.1))):=by
  unfold joinRest
  rw [join_loop]
  show (if Builtin.Str.tooLong ((#[]++(l.map fun (p:Str×Tok)=>p.1).toArray).foldl (fun (n:Nat) (s:Str)=>n+s.length+sep.length) 0)=true then _ else retStr (Builtin.Str.glued sep (#[]++(l.map fun (p:Str×Tok)=>p.1).toArray).toList))=_
  rw [Array.empty_append,h,w2 wX]
  show retStr (Builtin.Str.glued sep (l.map (·.1)))=_
  unfold retStr mkStr
  rw [w2 (xK.mpr hs)]
  rfl
 match l,h2,e with
 | p::q::r,_,e=>exact e
theorem Lv:∀ (vs:zf) (Qs:zj),vs.map eV=Qs.map (fun x=>.str x 0)→∃ l:List (Str×Tok),vs=strValues l∧l.map (·.1)=Qs
 | [],[],_=>⟨[],rfl,rfl⟩
 | v::vs,Q::Qs,h=>by
  simp only [vu,wh] at h
  obtain ⟨t,rfl⟩:=AX h.1
  obtain ⟨l,rfl,e⟩:=Lv vs Qs h.2
  exact ⟨(Q,t)::l,rfl,by rw [vu,e]⟩
 | [],_::_,h=>by cases h
 | _::_,[],h=>by cases h
noncomputable def n5(sep:Str)(Qs:zj)(n m:Nat)(L:Str):A8 where
 C:=fun z=>.builtin "" {}
 tr:=[m]
 pre:=fun x=>[some (A4 x m,A0 (.seq ⟨Qs.map (fun q=>.str q 0)⟩ n))]
 vs:=fun z=>none
 ok:=fun z z=>true
 res:=fun z z=>.ok .next
 upd:=fun z x=>x
 nt:=some ⟨fun x=>fR sep (A4 x m),fun z=>cf L,none⟩
theorem Xz{St:Tl}{I:zd}{p:zv}{w:zt}{kt:KT}{sep:Str}{Qs:zj}{n m:Nat}{L:Str}(h2:2≤Qs.length)(h:Builtin.Str.tooLong (Qs.toArray.foldl (· + ·.length+sep.length) 0)=false)(hL:Builtin.Str.glued sep Qs=L)(hs:L.length≤sizeLine):(n5 sep Qs n m L).rz p w kt St I:=by
 refine ⟨_,rfl,?_⟩
 intro x s cd ps pN tl P h1 h4 h5 h6 hp D hI hP
 have hp':eP (x.T.get m)=some (A4 x m,A0 (.seq ⟨Qs.map (fun q=>.str q 0)⟩ n)):=(wB hp).1
 cases q:x.T.get m with
 | none=>rw [q] at hp'; cases hp'
 | some z=>
  obtain ⟨a,o⟩:=z
  rw [q] at hp'
  simp only [eP,wu,xd] at hp'
  obtain ⟨ha,ho⟩:=hp'
  obtain ⟨xs,rfl,hx⟩:=Ai ho
  have hg:=D.own m a _ q
  obtain ⟨l,hl,rfl⟩:=Lv _ _ hx
  refine ⟨U0,s,?_,D,BS.refl _,hP,⟨rfl,fun y y h y y=>h⟩,trivial⟩
  show Go p w s ⟨fR sep (A4 x m),cd,ps,pN++tl⟩ s ⟨cf L,cd,ps,pN++tl⟩
  rw [← ha]
  have e0:∃ (pt:Option zq) (k:Obj→Sem Fin),fR sep a=.load a pt k∧k { cls:=.type "list",dict:=none,data:=.seq xs n,slots:=#[] } = fQ sep xs.toList:=by
   unfold fR
   rw [← PySem.W.Fast.te16476300251587348589]
   exact ⟨_,_,rfl,rfl⟩
  obtain ⟨pt,k,e1,e2⟩:=e0
  rw [e1]
  refine .head ((EL rfl (by intros; intro e; cases e) (by intros; intro e; cases e)).trans ?_) (s₁:=s) (t₁:=⟨cf L,cd,ps,pN++tl⟩) .refl
  simp only [step,hg]
  rw [e2,Yd,hl,Ua (by simpa using h2) h (by rw [hL]; exact hs),hL]
theorem QH{kt:KT}{s:zr}{x:SX}(D:BR kt s x){i j:Nat}(hi:(x.T.get i).isSome=true)(hj:(x.T.get j).isSome=true)(h:i≠j):A4 x i≠A4 x j:=by
 obtain ⟨⟨a,o⟩,e⟩:=wM.mp hi
 obtain ⟨⟨a',o'⟩,e'⟩:=wM.mp hj
 rw [Bs e,Bs e']
 exact fun q=>h (D.apart _ _ _ _ _ e (q ▸ e'))
noncomputable abbrev lO(t:zq)(s:String):Bool:=@BEq.beq zq (@instBEqOfDecidableEq zq PySem.W.Fast.tw7966671052430208091) t (.type s)
noncomputable def Y'(c:Bool)(self it result:zq):Sem Fin:=
 bT (PySem.W.Fast.tw14684505520029207082 it) fun t=>
  if ((c.or (lO t PySem.W.SL.s9222952809800978799x4)).or (lO t PySem.W.SL.s2766695959194262286x5))=true then
   bT (PySem.W.Fast.tw10557518346328741659 it) fun xs=>bT (PySem.W.Fast.tw10557518346328741659 self) fun tF=>
    have jp:Unit→Sem Fin:=fun q=>bT (PySem.W.Fast.tw2060155186595164805 self fun x=>@HAppend.hAppend (Array zq) (Array zq) (Array zq) (@instHAppendOfAppend (Array zq) (@PySem.W.Fast.tw494991955013373658 zq)) x xs) fun q=>PySem.W.Fast.tw6905046200447255374 result
    if (!tF.isEmpty&&Builtin.List.listTooLong (tF.size+xs.size))=true then bT (unsupported "list.extend:memory") fun r=>jp r else jp ()
  else
   bT (PySem.W.Fast.tw8711993805878244202 it) fun iter=>bT (PySem.W.Fast.tw17359229931016689406 [iter] (PySem.W.Fast.tw15112759502256325868 it)) fun room=>
    have jp:Unit→Sem Fin:=fun q=>PySem.W.Fast.tw12377390311714414960 (Code.builtin PySem.W.SL.s9316426964554523096x16 { pos:=[self,iter,result] })
    if (room || PySem.W.R.anyR PySem.W.Fast.tw16271295295120926622 fun x=>lO t x)=true then bT (rule "list.extend.makes-room") fun q=>bT (PySem.W.Fast.tw922294955767894045 self) fun r=>jp r else jp ()
theorem M5(self it result:zq):PySem.W.Fast.tw8938917530802602619 self it result=Y' (Builtin.List.listSameRef self it) self it result:=rfl
noncomputable def c8:A8:=Xe [0,1] (fun x=>PySem.W.Fast.tw8938917530802602619 (.ref (A4 x 0)) (.ref (A4 x 1)) .none) (fun x=>Y' false (.ref (A4 x 0)) (.ref (A4 x 1)) .none)
theorem Td{St:Tl}{I:zd}{p:zv}{w:zt}{kt:KT}:c8.rz p w kt St I:=LV fun x s D hk=>by
 have ne:=QH D (i:=0) (j:=1) (hk 0 (by decide)) (hk 1 (by decide)) (by decide)
 rw [M5]
 have:Builtin.List.listSameRef (.ref (A4 x 0)) (.ref (A4 x 1))=false:=by
  show (A4 x 0==A4 x 1)=false
  simpa using ne
 rw [this]
noncomputable def Dt(nl m:Nat):A8:=Xe [nl,m] (fun x=>PySem.W.Fast.tw8938917530802602619 (.ref (A4 x nl)) (.ref (A4 x m)) (.ref (A4 x nl))) (fun x=>Y' false (.ref (A4 x nl)) (.ref (A4 x m)) (.ref (A4 x nl)))
theorem BP{St:Tl}{I:zd}{p:zv}{w:zt}{kt:KT}{nl m:Nat}(h:nl≠m):(Dt nl m).rz p w kt St I:=LV fun x s D hk=>by
 have ne:=QH D (i:=nl) (j:=m) (hk nl (by simp)) (hk m (by simp)) h
 rw [M5]
 have:Builtin.List.listSameRef (.ref (A4 x nl)) (.ref (A4 x m))=false:=by
  show (A4 x nl==A4 x m)=false
  simpa using ne
 rw [this]
noncomputable def YR(ws:List (zl))(n:Nat):Obj:={ cls:=.type "list",data:=.seq ⟨ws.map (fun t=>.str ⟨⟨t⟩⟩ 0)⟩ n }
def Xs(P:zp)(aL aD aS aE aP aQ:Nat)(buf:Str)(p x:Nat)(T:zl)(p':Nat):A8:=BU [1,2,3,4,5,6] [] [] (fun x0=>nI P aL aD aS aE aP aQ buf p x T p')
variable{w:zt}{b b2:Bool}
theorem Lb{aL aD aS aE aP aQ:Nat}{buf:Str}{p x:Nat}{T:zl}{p':Nat}{I:zd}{St:zc}(h1:2≤buf.length)(h2:buf.length≤sizeLine)(hz:B6 (buf.cps.toList.drop p) p=some (x::T,p',true)):(Xs w.2 aL aD aS aE aP aQ buf p x T p').qB pw (wf w b b2) (A5 w.2) ⟨7,St⟩ I I:=
 AL (w:=wf w b b2) (fun x0=>To w b b2 aL aD aS aE aP aQ buf p x T p' h1 h2 hz I) (by decide) (fun q=>⟨rfl,rfl,fun q=>rfl⟩) (fun q q=>rfl)
def bc(P:zp)(aL aD aS aE aP aQ:Nat)(buf:Str)(p x:Nat)(T:zl)(p':Nat):A8:=BU [1,2,3,4,5,6] [] [] (fun x0=>nK P aL aD aS aE aP aQ buf p x T p')
theorem TM{aL aD aS aE aP aQ:Nat}{buf:Str}{p x:Nat}{T:zl}{p':Nat}{I:zd}{St:zc}(h1:2≤buf.length)(h2:buf.length≤sizeLine)(hz:B6 (buf.cps.toList.drop p) p=some (x::T,p',false)):(bc w.2 aL aD aS aE aP aQ buf p x T p').qB pw (wf w b b2) (A5 w.2) ⟨7,St⟩ I I:=
 AL (w:=wf w b b2) (fun x0=>Tq w b b2 aL aD aS aE aP aQ buf p x T p' h1 h2 hz I) (by decide) (fun q=>⟨rfl,rfl,fun q=>rfl⟩) (fun q q=>rfl)
def ba(P:zp)(aL aD aS aE aP aQ:Nat)(buf:Str)(p:Nat):A8:=Cm (fun q=>some [QY "list.extend.loop"]) [1,2,3,4,5,6] [] [] (fun x0=>nJ P aL aD aS aE aP aQ buf p)
theorem TL{aL aD aS aE aP aQ:Nat}{buf:Str}{p:Nat}{E:zi}{R:Lp}(hE:AW E R)(h:buf.length≤p)(h2:buf.length≤sizeLine):(ba w.2 aL aD aS aE aP aQ buf p).qB pw (wf w b b2) (A5 w.2) ⟨7,Ax E ["type.__call__","claim.caller"]⟩ (fun P=>P=R) (fun P=>P=R):=
 Ab (w:=wf w b b2) (fun x0=>Tp w b b2 aL aD aS aE aP aQ buf p h h2 hE) (BK (V:=fun q=>[QY "list.extend.loop"]) (by rfl) fun q q c=>c.app (V:=[QY "list.extend.loop"]) (E':=[]) (qe:=["list.extend.loop"]) rfl rfl) (by decide) (fun q=>⟨rfl,rfl,fun q=>rfl⟩) (fun q q=>rfl)
def xl(P:zp)(aW aL aD aS aE aP aQ:Nat)(buf:Str)(x1 x2 x3:Nat)(T1 T2 T3:zl)(p1 p2 p3:Nat):Spec:=⟨.call (.builtin "list.__init__") ⟨[.ref aW,.ref aL],[]⟩,[aW,aL,aD,aS,aE,aP,aQ],[YR [] 0,Ac aD,Ad P aS aP aQ (cv 32) ⟨⟨[]⟩⟩,AR aE,AS P buf 0,BV,BV],fun A=>.fin (.done (.ret .none)),fun A=>[YR [x1::T1,x2::T2,x3::T3] 5,Ac aD,Ad P aS aP aQ (.none) ⟨⟨[]⟩⟩,AR aE,AS P buf p3,BV,BV],fun A=>[]⟩
theorem Wk(w:zt)(b b2:Bool)(aW aL aD aS aE aP aQ:Nat)(buf:Str)(x1 x2 x3:Nat)(T1 T2 T3:zl)(p1 p2 p3:Nat)(h1:2≤buf.length)(h2:buf.length≤sizeLine)(tH:B6 (buf.cps.toList.drop 0) 0=some (x1::T1,p1,true))(qz:B6 (buf.cps.toList.drop p1) p1=some (x2::T2,p2,true))(tG:B6 (buf.cps.toList.drop p2) p2=some (x3::T3,p3,false))(hk:buf.length≤p3){E:zi}{R:Lp}(hE:AW E R):(xl w.2 aW aL aD aS aE aP aQ buf x1 x2 x3 T1 T2 T3 p1 p2 p3).PI w b b2 7 (Ax E ["type.__call__","claim.caller"]) (fun P=>P=R):=As (Ag [c8,Xs w.2 aL aD aS aE aP aQ buf 0 x1 T1 p1,Xs w.2 aL aD aS aE aP aQ buf p1 x2 T2 p2,bc w.2 aL aD aS aE aP aQ buf p2 x3 T3 p3,ba w.2 aL aD aS aE aP aQ buf p3]) 5 [] (hD 11 68 53401449350952738287716867322990709722430802691072622550740881634732103) 1 [0,0,0] 20 fun E0 ke=>.note Td fun q q q=>.cons (Lb h1 h2 tH) fun q q q=>.cons (Lb h1 h2 qz) fun q q q=>.cons (TM h1 h2 tG) fun q q q=>.cons (TL hE hk h2) fun q q q=>.pO ke rfl
section
noncomputable def gF(n:Nat):zk:=⟨List.replicate n .finished⟩
noncomputable abbrev eK:=(Nat→List Stmt×Env×Pos)×Args×Pos
def fV(k:Nat)(d:eK):List (Code×Pos):=(List.range k).map (fun i=>(.func (d.1 i).1 (d.1 i).2.1,(d.1 i).2.2))++[(.builtin "claim.caller" d.2.1,d.2.2)]
def RI(n k:Nat)(d:eK):zk×List (Code×Pos):=(gF n,fV k d)
def Gx(k:Nat)(V:List Vw):Prop:=∃ es:zi,es.length=k∧V=es.map C0++[QY "claim.caller"]
theorem Ww{c:Code}{e:Env}(h:vw c=C0 e):∃ b,c=.func b e:=by
 cases c with
 | func b e'=>cases h; exact ⟨b,rfl⟩
 | _=>cases vm (·.2.2.2) h
theorem Zy{c:Code}{id:String}(h:vw c=QY id):∃ a,c=.builtin id a:=by
 cases c with
 | builtin i a=>cases h; exact ⟨a,rfl⟩
 | _=>cases vm (·.2.2.1) h
theorem Ki{k:Nat}:∀ {es:zi} {tl:ze},es.length=k→QR tl=es.map C0++[QY "claim.caller"]→∃ d,tl.map Frame.where_=fV k d:=by
 induction k with
 | zero=>
  intro es tl hl hv
  obtain rfl:=List.eq_nil_of_length_eq_zero hl
  match tl,hv with
  | [f],hv=>
   obtain ⟨a,e⟩:=Zy (wB hv).1
   exact ⟨(fun q=>([],default,default),a,f.where_.2),by show [f.where_]=[(Code.builtin _ _,_)]; rw [← e]⟩
  | _::_::_,hv=>cases (wB hv).2
 | succ k ih=>
  intro es tl hl hv
  cases es with
  | nil=>cases hl
  | cons e es=>
   cases tl with
   | nil=>cases hv
   | cons f tl=>
    obtain ⟨b,eb⟩:=Ww (wB hv).1
    obtain ⟨d,ed⟩:=ih (zV hl) (wB hv).2
    refine ⟨(fun i=>Nat.casesOn (motive:=fun q=>List Stmt×Env×Pos) i (b,e,f.where_.2) d.1,d.2),?_⟩
    unfold fV
    rw [List.range_succ_eq_map,vu,vu,wz]
    show f.where_::tl.map Frame.where_=(Code.func b e,f.where_.2)::fV k d
    rw [ed,← eb]
noncomputable def Kp:Option Nat→Obj
 | none=>{ cls:=.none,data:=.fields #[] }
 | some a=>{ cls:=.none,data:=.fields #[.int 874 0,.int 20 0,.ref a] }
def jl(e:Nat)(s1 s2:zl):Obj:=A0 (.seq #[.str ⟨⟨[61]⟩⟩ 0,.str ⟨⟨s1⟩⟩ 0,.str ⟨⟨s2⟩⟩ 0] e)
def VN(a1 a2 z:Nat):Obj:={ cls:=.type "code",data:=.fields #[sv "<genexpr>",sv "join.<locals>.<genexpr>",sv "/claim/cut.py",.int 874 0,.int 1 0,.int 0 0,.int 0 0,.int 51 0,.ref a1,.bool true,.int 318 0,.ref a2,.none,.none,.none,.none,.int z 0,.int 874 0,sv "/claim/cut.py"] }
noncomputable def ku(aL:Nat):Code:=.call (.ref 903) ⟨[.ref aL],[]⟩
def WJ(aL e:Nat)(s1 s2 L:zl)(z:Nat×Nat×Nat):Spec:=⟨ku aL,[aL,898],[jl e s1 s2,Kp none],fun q=>.fin (.done (.ret (.str ⟨⟨L⟩⟩ 0))),fun A=>[jl e s1 s2,Kp (some (A 0))],fun q=>[VN z.1 z.2.1 z.2.2]⟩
def WI(aL e aC:Nat)(s1 s2 L:zl):Spec:=⟨ku aL,[aL,898],[jl e s1 s2,Kp (some aC)],fun q=>.fin (.done (.ret (.str ⟨⟨L⟩⟩ 0))),fun q=>[jl e s1 s2,Kp (some aC)],fun q=>[]⟩
def TK(s r:zl):A8:=BU [] [] [] (fun q=>Eg s r)
def NG(s r:zl):Prop:=∀ {St:zc} {w:zt} {b b2:Bool} {I:zd},(Eg s r).PI w b b2 9 St I
theorem I9{s r:zl}{I:zd}{St:zc}(h:NG s r):(TK s r).qB pw (wf w b b2) (A5 w.2) ⟨8,St⟩ I I:=
 AL (w:=wf w b b2) (fun q=>h) (by decide) (fun q=>⟨rfl,rfl,fun q=>rfl⟩) (fun q q=>rfl)
noncomputable def Ye(m g:Nat)(s1 s2 r1 r2 L:zl):List (zh→A8):=Ag [Dt m g,TK [61] [61],TK s1 r1,TK s2 r2,n5 ⟨⟨[32]⟩⟩ [⟨⟨[61]⟩⟩,⟨⟨r1⟩⟩,⟨⟨r2⟩⟩] 5 m ⟨⟨L⟩⟩]
def Yh(b:Bool):zl:=bif b then hD 16 108 11037245137749254957084946195306450832829006189644701589721248155803599775586492297318625225836173831695575089539025034738190594864 else hD 16 112 723336897347535172867519033855603561780281749644555163383971719138744714892836359548263399831629365230945837201804632023732218185724720
def Yg(b:Bool):zl:=bif b then hD 13 105 913575738637109299436105611002110517294755803513502827157764786434456501147259900578996963194419407118612176500734090 else hD 13 109 26092636671214478701194612355831278484455520504149154246452920065354512129284888446435081625778300368429365335223711005530
noncomputable def Zi(b:Bool):Nat:=bif b then 7 else 8
noncomputable def cg(l:List (Nat×Nat)):List ((Nat×Nat)×Bool×Bool):=l.flatMap fun a=>([false,true].flatMap fun b=>[false,true].map (Prod.mk b)).map (Prod.mk a)
theorem Lw{l:List (Nat×Nat)}{z:Nat×Nat}(h:z∈l)(b b2:Bool):(z,b,b2)∈cg l:=yw.mpr ⟨z,h,vo (by cases b<;>cases b2<;>decide)⟩
noncomputable def kv:List (Nat×Nat):=[(1,2),(1,3),(1,4),(2,2),(2,3),(2,4)]
noncomputable def ky:List (Nat×Nat):=[(0,2),(0,3),(0,4)]
section
variable{w:zt}{aL e aC:Nat}{s1 s2 r1 r2 L:zl}
theorem PJ:(cg kv).map (fun z=>Vg (RI z.1.1 z.1.2) w z.2.1 z.2.2 (fun q=>WI aL e aC s1 s2 L) (fun q=>Ye 6 5 s1 s2 r1 r2 L) 5 (fun q q=>[]) [] [] (Yg z.2.2) (Zi z.2.2) [2,2] 1)=(cg kv).map fun z=>Vf (fun q=>gF (z.1.1+1)) (RI z.1.1 z.1.2) w z.2.1 z.2.2 (fun q=>WI aL e aC s1 s2 L) (fun q q q q=>WI aL e aC s1 s2 L) (fun q=>Ye 6 5 s1 s2 r1 r2 L) 5 (fun q q=>[]) [] [] (Yg z.2.2) (Zi z.2.2) [2,2] 1:=by kernel_rfl
theorem PK:(cg ky).map (fun z=>Vg (RI z.1.1 z.1.2) w z.2.1 z.2.2 (fun q=>WJ aL e s1 s2 L (0,0,0)) (fun q=>Ye 9 8 s1 s2 r1 r2 L) 5 (fun q q=>[]) [6] [] (Yh z.2.2) (Zi z.2.2) [2,2] 1)=(cg ky).map fun z=>Vf (fun q=>gF (z.1.1+1)) (RI z.1.1 z.1.2) w z.2.1 z.2.2 (fun q=>WJ aL e s1 s2 L (0,0,0)) (fun n t q q=>WJ aL e s1 s2 L (n+2,n+3,t+5)) (fun q=>Ye 9 8 s1 s2 r1 r2 L) 5 (fun q q=>[]) [6] [] (Yh z.2.2) (Zi z.2.2) [2,2] 1:=by kernel_rfl
theorem cp(r1 r2:zl):Builtin.Str.glued ⟨⟨[32]⟩⟩ [⟨⟨[61]⟩⟩,⟨⟨r1⟩⟩,⟨⟨r2⟩⟩]=⟨⟨61::32::(r1++32::r2)⟩⟩:=by
 simp [Builtin.Str.glued]
theorem cR{r1 r2:zl}(h:r1.length+r2.length+8≤sizeLine):Builtin.Str.tooLong (([⟨⟨[61]⟩⟩,⟨⟨r1⟩⟩,⟨⟨r2⟩⟩]:zj).toArray.foldl (· + ·.length+(⟨⟨[32]⟩⟩:Str).length) 0)=false:=by
 have e1:Str.length ⟨⟨[32]⟩⟩=1:=rfl
 have e2:Str.length ⟨⟨[61]⟩⟩=1:=rfl
 have e3:∀ l:zl,Str.length ⟨⟨l⟩⟩=l.length:=fun l=>rfl
 unfold Builtin.Str.tooLong
 simp [e1,e2,e3]
 lia
variable{b b2:Bool}{I:zd}{n k:Nat}(h1:NG s1 r1)(h2:NG s2 r2)(hs:r1.length+r2.length+8≤sizeLine)
include h1 h2 hs
theorem WH{E0:zh→Lp→Prop}{m g:Nat}(hm:m≠g)(he:∀ u0 u1 u2 u3 u4,∀ P,I P→E0 [u4,u3,u2,u1,u0] P):Ck E0 pw (wf w b b2) (A5 w.2) ⟨8,Gx k⟩ I (Ye m g s1 s2 r1 r2 (61::32::(r1++32::r2))) []:=
 .note (BP hm) fun q q q=>.cons (I9 (LR (by decide))) fun q q q=>.cons (I9 h1) fun q q q=>.cons (I9 h2) fun q q q=>.note (Xz (yM 2 1) (cR hs) (cp r1 r2) (by show (r1++32::r2).length+2≤sizeLine; rw [vn,vr]; lia)) fun q q q=>.nil fun P hP=>he _ _ _ _ _ P hP
theorem UY(hz:(n,k)∈kv):Spec.qh (fun g=>g=gF n) (fun q=>gF (n+1)) (fun _:Unit=>WI aL e aC s1 s2 (61::32::(r1++32::r2))) (fun q q P'=>True∧I P') (WI aL e aC s1 s2 (61::32::(r1++32::r2))) (wf w b b2) (Al ⟨8,Gx k⟩) I:=
 MW (tf:=RI n k) (fun pN g ht hg=>by obtain ⟨es,l,e⟩:=ht.st; obtain ⟨d,ed⟩:=Ki l e; exact ⟨d,by rw [hg,ed]; rfl⟩) (fun _:Unit=>WI aL e aC s1 s2 (61::32::(r1++32::r2))) (fun q q=>True) (fun q=>WI aL e aC s1 s2 (61::32::(r1++32::r2))) (fun q q q q=>WI aL e aC s1 s2 (61::32::(r1++32::r2))) (fun q=>Ye 6 5 s1 s2 r1 r2 (61::32::(r1++32::r2))) 5 (fun q q=>[]) [] [] (Yg b2) (Zi b2) [2,2] 1 [] (K0:=fun q=>I) (fun q q q ke=>WH h1 h2 hs (by decide) fun q q q q q P hP=>ke _ _ ⟨(),rfl,hP,fun q q=>trivial⟩) (wU.mp PJ _ (Lw hz b b2))
theorem UZ(hz:(n,k)∈ky):Spec.qh (fun g=>g=gF n) (fun q=>gF (n+1)) (fun z:Nat×Nat×Nat=>WJ aL e s1 s2 (61::32::(r1++32::r2)) z) (fun q q P'=>True∧I P') (WJ aL e s1 s2 (61::32::(r1++32::r2)) (0,0,0)) (wf w b b2) (Al ⟨8,Gx k⟩) I:=
 MW (tf:=RI n k) (fun pN g ht hg=>by obtain ⟨es,l,e⟩:=ht.st; obtain ⟨d,ed⟩:=Ki l e; exact ⟨d,by rw [hg,ed]; rfl⟩) (fun z:Nat×Nat×Nat=>WJ aL e s1 s2 (61::32::(r1++32::r2)) z) (fun q q=>True) (fun q=>WJ aL e s1 s2 (61::32::(r1++32::r2)) (0,0,0)) (fun n t q q=>WJ aL e s1 s2 (61::32::(r1++32::r2)) (n+2,n+3,t+5)) (fun q=>Ye 9 8 s1 s2 r1 r2 (61::32::(r1++32::r2))) 5 (fun q q=>[]) [6] [] (Yh b2) (Zi b2) [2,2] 1 [] (K0:=fun q=>I) (fun n t q ke=>WH h1 h2 hs (by decide) fun q q q q q P hP=>ke _ _ ⟨(n+2,n+3,t+5),rfl,hP,fun q q=>trivial⟩) (wU.mp PK _ (Lw hz b b2))
end
end
section
theorem Fb.of{gi:zk→Prop}{go:zk→zk}{w:zt}{Sh:Pos→ze→Prop}{C:Code}{Pre:zd}{pQ:End→Lp→Prop}(h:DZ w Sh C Pre pQ)(k:∀ g,gi g→go g=g):Fb gi go w Sh C Pre pQ:=by
 intro c s pc pN L a b d e hg
 obtain ⟨e,s',L',qF,pos',g,po,H,F⟩:=h c s pc pN L a b d e
 exact ⟨e,s',L',qF,pos',g,po,H,F.life,F.gens.trans (k _ hg).symm,F.drawn,F.os,F.old,F.new⟩
theorem Fb.wk{gi:zk→Prop}{go:zk→zk}{w:zt}{Sh:Pos→ze→Prop}{C:Code}{Pre q8:zd}{pQ ph:End→Lp→Prop}(h:Fb gi go w Sh C Pre pQ)(h1:∀ L,q8 L→∃ L0,Pre L0∧L.Perm L0)(h2:∀ e L,pQ e L→∃ L' N,L.Perm (L'++N)∧ph e L'):Fb gi go w Sh C q8 ph:=by
 intro c s pc pN L hp hc H hs hg
 obtain ⟨L0,hp,p⟩:=h1 L hp
 obtain ⟨e,s',L1,qF,pos',g,po,H',F⟩:=h c s pc pN L0 hp hc (H.perm p) hs hg
 obtain ⟨L',N,q,po⟩:=h2 _ _ po
 refine ⟨e,s',L',qF,pos',g,po,(H'.perm q).left,F.life,F.gens,F.drawn,F.os,fun b o e n=>F.old b o e fun m=>n ((p.map _).mem_iff.mpr m),fun x m=>?_⟩
 exact (F.new x (q.mem_iff.mpr (vq _ m))).imp (fun a=>(p.map _).mem_iff.mpr a) id
noncomputable def JD:Nat→zu→Prop
 | 0,D=>D=.fields #[]
 | _+1,D=>∃ a:Nat,D=.fields #[.int 874 0,.int 20 0,.ref a]
noncomputable def Io(D:zu):Obj:={ cls:=.none,data:=D }
def Zh(aL e:Nat)(s1 s2 L:zl)(D D':zu):Spec:=⟨ku aL,[aL,898],[jl e s1 s2,Io D],fun q=>.fin (.done (.ret (.str ⟨⟨L⟩⟩ 0))),fun q=>[jl e s1 s2,Io D'],fun q=>[]⟩
theorem UX{I:zd}{n k aL e:Nat}{s1 s2 r1 r2:zl}{D:zu}(h1:NG s1 r1)(h2:NG s2 r2)(hs:r1.length+r2.length+8≤sizeLine)(hn:n≤2)(hk:2≤k∧k≤4)(hD:JD n D):Spec.qh (fun g=>g=gF n) (fun q=>gF (n+1)) (fun D':zu=>Zh aL e s1 s2 (61::32::(r1++32::r2)) D D') (fun D' q P'=>JD (n+1) D'∧I P') (Zh aL e s1 s2 (61::32::(r1++32::r2)) D D) (wf w b b2) (Al ⟨8,Gx k⟩) I:=by
 have hk':k=2∨k=3∨k=4:=by lia
 intro P hI
 cases n with
 | zero=>
  obtain rfl:D=.fields #[]:=hD
  refine (UZ h1 h2 hs (n:=0) (k:=k) (by rcases hk' with rfl | rfl | rfl<;>decide) P hI).wk (fun L h=>⟨L,h,.refl _⟩) ?_
  rintro e' L ⟨z,A,P',⟨_,hI'⟩,sub,he,rfl⟩
  refine ⟨(Zh aL e s1 s2 (61::32::(r1++32::r2)) (.fields #[]) (Kp (some (A 0))).data).pV A++P',[(A 0,VN z.1 z.2.1 z.2.2)],?_,⟨_,A,P',⟨⟨A 0,rfl⟩,hI'⟩,sub,he,rfl⟩⟩
  show ([(aL,jl e s1 s2),(898,Kp (some (A 0)))]++[(A 0,VN z.1 z.2.1 z.2.2)]++P').Perm (([(aL,jl e s1 s2),(898,Kp (some (A 0)))]++[]++P')++[(A 0,VN z.1 z.2.1 z.2.2)])
  rw [w9,vj,vj]
  exact vy _ wJ
 | succ n=>
  obtain ⟨a,rfl⟩:=hD
  have hn':n=0∨n=1:=by lia
  refine (UY (aC:=a) h1 h2 hs (n:=n+1) (k:=k) (by rcases hn' with rfl | rfl<;>rcases hk' with rfl | rfl | rfl<;>decide) P hI).wk (fun L h=>⟨L,h,.refl _⟩) ?_
  rintro e' L ⟨_,A,P',⟨_,hI'⟩,sub,he,rfl⟩
  exact ⟨_,[],by rw [w9]; exact .refl _,⟨_,A,P',⟨⟨a,rfl⟩,hI'⟩,sub,he,rfl⟩⟩
inductive PA where
 | leaf (s:zl)
 | node (a:Nat) (t:Bool) (l r:PA)
noncomputable def PA.val:PA→zq
 | .leaf s=>.str ⟨⟨s⟩⟩ 0
 | .node a _ _ _=>.ref a
noncomputable def HA(t:Int)(x y:zq):Obj:={ cls:=.type "tuple",data:=.seq #[.int t 0,x,y] 0 }
def PA.lp:PA→Lp
 | .leaf _=>[]
 | .node a t l r=>(a,HA (bif t then 1 else 0) l.val r.val)::(l.lp++r.lp)
noncomputable def F7:zl→zl
 | []=>[]
 | c::l=>if c=39 then 39::34::39::34::39::F7 l else c::F7 l
noncomputable def Aa:zl→zl
 | []=>[]
 | c::l=>if c=34 then 34::34::Aa l else c::Aa l
def An:zl→zl
 | [c]=>[c]
 | s=>39::(F7 s++[39])
def Qn(a b:zl):zl:=61::32::(An a++32::An b)
def Qm(a b:zl):zl:=34::(Aa a++34::32::34::(Aa b++[34]))
def PA.wt:PA→zl
 | .leaf s=>s
 | .node _ t l r=>bif t then Qm l.wt r.wt else Qn l.wt r.wt
noncomputable def PA.lines:PA→Nat
 | .leaf _=>0
 | .node _ t l r=>l.lines+r.lines+bif t then 0 else 1
noncomputable def PA.qa:PA→Nat
 | .leaf _=>0
 | .node _ _ l r=>max l.qa r.qa+1
def QJ(s r:zl):Prop:=∀ {p:zv} {w:zt} {kt:KT},(KQ ⟨⟨s⟩⟩ ⟨⟨[34]⟩⟩ ⟨⟨[34,34]⟩⟩ ⟨⟨r⟩⟩).Ok p w kt
def PA.ok:PA→Prop
 | .leaf _=>True
 | .node _ t l r=>l.ok∧r.ok∧match t with
  | false=>NG l.wt (An l.wt)∧NG r.wt (An r.wt)∧(An l.wt).length+(An r.wt).length+8≤sizeLine
  | true=>QJ l.wt (Aa l.wt)∧QJ r.wt (Aa r.wt)∧(Aa l.wt).length+(Aa r.wt).length+8≤sizeLine
noncomputable def mM(v:zq):Code:=.call (.ref 930) ⟨[v],[]⟩
def wS(v:zq)(s:zl)(D:zu):Spec:=⟨mM v,[898],[Io D],fun q=>.fin (.done (.ret (.str ⟨⟨s⟩⟩ 0))),fun q=>[Io D],fun q=>[]⟩
def WC(v:zq)(lp:Lp)(s:zl)(m r n:Nat):Prop:=∀ {w:zt} {b b2:Bool} {D:zu} {R:Lp},JD n D→(∃ R0,R.Perm (lp++R0))→Spec.qh (fun g=>g=gF n) (fun q=>gF (n+m)) (fun D':zu=>wS v s D') (fun D' q P'=>JD (n+m) D'∧P'=R) (wS v s D) (wf w b b2) (Al ⟨r,Gx r⟩) (fun P=>P=R)
theorem NJ(w:zt)(b2:Bool)(s:zl):Hn w b2 (fun D=>wS (.str ⟨⟨s⟩⟩ 0) s (gD D 0)) (fun q=>[]) 0 (fun q q=>[]) [] [true] (hD 4 9 133160) 1000000 [] 1=Hm w b2 (fun D=>wS (.str ⟨⟨s⟩⟩ 0) s (gD D 0)) (fun D q=>wS (.str ⟨⟨s⟩⟩ 0) s (gD D 0)) (fun q=>[]) 0 (fun q q=>[]) [] [true] (hD 4 9 133160) 1000000 [] 1:=by kernel_rfl
theorem Qr{s:zl}{r n:Nat}(hr:r≤4):WC (.str ⟨⟨s⟩⟩ 0) [] s 0 r n:=by
 intro w b b2 D R hJ hR P hP
 have z:(wS (.str ⟨⟨s⟩⟩ 0) s D).PI w b b2 r (Gx r) (fun P=>P=R):=
  Bu (fun D=>wS (.str ⟨⟨s⟩⟩ 0) s (gD D 0)) (fun D q=>wS (.str ⟨⟨s⟩⟩ 0) s (gD D 0)) (fun q=>[]) 0 [] [true] (hD 4 9 133160) 1000000 [] 1 [D] (fun E0 ke=>.pO ke rfl) (NJ w b2 s) (hT:=wR.mpr (by lia))
 refine Fb.of ((z P hP).pU (fun q h=>h) ?_) (fun g e=>e.symm)
 rintro e L ⟨A,P',hO,sub,he,hL⟩
 exact ⟨D,A,P',⟨hJ,hO⟩,sub,he,hL⟩
noncomputable def vk(k:Bool)(s:zl)(a:Nat):zq:=bif k then .str ⟨⟨s⟩⟩ 0 else .ref a
noncomputable def PA.vs:PA→Bool×zl×Nat
 | .leaf s=>(true,s,0)
 | .node a _ _ _=>(false,[],a)
theorem PA.q7(p:PA):p.val=vk p.vs.1 p.vs.2.1 p.vs.2.2:=by cases p<;>rfl
def V0(P:zp)(x:SX):Env:=Br P 930 cC (A4 x 2)
noncomputable def bL(P:zp)(v:zq)(s:zl)(m n:Nat)(D:zu):A8:=J5 (some (gF n)) (fun q=>gF (n+m)) (fun x=>some [C0 (V0 P x)]) [1] [true] [] (fun q=>wS v s D) fun u q=>JD (n+m) (eD (u.d 0))
theorem Gx.up{k:Nat}{V:List Vw}{e:Env}(h:Gx k V):Gx (k+1) ([C0 e]++V):=by
 obtain ⟨es,l,rfl⟩:=h
 exact ⟨e::es,vm (· + 1) l,rfl⟩
theorem I4{v:zq}{lp R:Lp}{s:zl}{m r n:Nat}{D:zu}(h:WC v lp s m (r+1) n)(hJ:JD n D)(hR:∃ R0,R.Perm (lp++R0)):(bL w.2 v s m n D).qB pw (wf w b b2) (A5 w.2) ⟨r,Gx r⟩ (fun P=>P=R) (fun P=>P=R):=
 (EF (w:=wf w b b2) (gi:=fun g=>g=gF n) (fun q k=>k _ rfl) (tr:=[1]) (fl:=[true]) (fn:=[]) (gd:=fun u q=>JD (n+m) (eD (u.d 0))) (S:=fun q=>wS v s D) (F0:=fun q D'=>wS v s D') (O:=fun q D' q P'=>JD (n+m) D'∧P'=R) (fun u x z P a q c=>by rw [show eD (u.d 0)=z from a.1]; exact c.1) (fun q=>h hJ hR) (fun q q=>⟨rfl,rfl⟩) (fun q q q q q=>rfl) (fun q q q=>rfl) (fun q q q q q=>rfl) (BK (St:=⟨r,Gx r⟩) (Sf:=fun q=>Gx (r+1)) (V:=fun x=>[C0 (V0 w.2 x)]) (wR.mpr (vp _)) fun q q c=>Gx.up c) (by decide) (fun q=>⟨rfl,rfl,fun q q=>rfl⟩) (fun q q=>rfl)).mono (fun q h=>h) fun q q q q h=>h.elim fun q z=>z.2.2.2
noncomputable def n6(P:zp)(s1 s2 L:zl)(n:Nat)(D:zu):A8:=J5 (some (gF n)) (fun q=>gF (n+1)) (fun x=>some [C0 (V0 P x)]) [3,1] [false,true] [] (fun x=>Zh (A4 x 3) 0 s1 s2 L D D) fun u q=>JD (n+1) (eD (u.d 2))
theorem Y0{s1 s2 r1 r2:zl}{r n:Nat}{D:zu}{I:zd}(h1:NG s1 r1)(h2:NG s2 r2)(hs:r1.length+r2.length+8≤sizeLine)(hn:n≤2)(hk:1≤r∧r≤3)(hJ:JD n D):(n6 w.2 s1 s2 (61::32::(r1++32::r2)) n D).qB pw (wf w b b2) (A5 w.2) ⟨r,Gx r⟩ I I:=
 (EF (w:=wf w b b2) (gi:=fun g=>g=gF n) (fun q k=>k _ rfl) (tr:=[3,1]) (fl:=[false,true]) (fn:=[]) (gd:=fun u q=>JD (n+1) (eD (u.d 2))) (S:=fun x=>Zh (A4 x 3) 0 s1 s2 (61::32::(r1++32::r2)) D D) (F0:=fun x D'=>Zh (A4 x 3) 0 s1 s2 (61::32::(r1++32::r2)) D D') (O:=fun q D' q P'=>JD (n+1) D'∧I P') (fun u x z P a q c=>by rw [show eD (u.d 2)=z from a.1]; exact c.1) (fun q=>UX h1 h2 hs hn ⟨by lia,by lia⟩ hJ) (fun q q=>⟨rfl,rfl⟩) (fun q q q q q=>rfl) (fun q q q=>rfl) (fun q q q q q=>rfl) (BK (St:=⟨r,Gx r⟩) (Sf:=fun q=>Gx (r+1)) (V:=fun x=>[C0 (V0 w.2 x)]) (wR.mpr (by lia)) fun q q c=>Gx.up c) (by decide) (fun q=>⟨rfl,rfl,fun q q=>rfl⟩) (fun q q=>rfl)).mono (fun q h=>h) fun q q q q h=>h.elim fun q z=>z.2.2.2
theorem NZ{p:zv}{w:zt}(x y:Nat)(a b:zl)(t u:Nat)(h:a.length+b.length+2≤sizeLine)(s:zr)(k:Result→Sem Fin)(g:Bool)(l:zf)(cd:Code)(pc:Pos)(rest:ze):Go p w s ⟨denote table (.call (.builtin "str.__add__") ⟨[.str ⟨⟨x::a⟩⟩ t,.str ⟨⟨y::b⟩⟩ u],[]⟩),.call (.builtin "str.__add__") ⟨[.str ⟨⟨x::a⟩⟩ t,.str ⟨⟨y::b⟩⟩ u],[]⟩,pc,.ret k none g l cd pc []::rest⟩ { s with toks:=s.toks+1 } ⟨k (.ok (.ret (.str ⟨⟨x::a++y::b⟩⟩ s.toks))),cd,pc,rest⟩:=by
 have h1:qg (.call (.builtin "str.__add__") ⟨[.str ⟨⟨x::a⟩⟩ t,.str ⟨⟨y::b⟩⟩ u],[]⟩)=.pure (.again (.builtin "str.__add__" ⟨[.str ⟨⟨x::a⟩⟩ t,.str ⟨⟨y::b⟩⟩ u],[]⟩)):=by kernel_rfl
 have h2:qg (.builtin "str.__add__" ⟨[.str ⟨⟨x::a⟩⟩ t,.str ⟨⟨y::b⟩⟩ u],[]⟩)=retStr (⟨⟨x::a⟩⟩++⟨⟨y::b⟩⟩):=(FI (b:=Builtin.«str.__add__») (by kernel_rfl) _).trans (by kernel_rfl)
 have e:(⟨⟨x::a⟩⟩++⟨⟨y::b⟩⟩:Str)=⟨⟨x::a++y::b⟩⟩:=by
  show Str.mk (_++_)=_
  simp
 have:¬ (⟨⟨x::a++y::b⟩⟩:Str).length > sizeLine:=by
  show ¬ (x::a++y::b).length > sizeLine
  simp only [vn,vr]
  lia
 rw [e] at h2
 unfold retStr mkStr at h2
 rw [w2 this] at h2
 rw [Be,h1]
 refine .head (Bj (by rw [← Aq]; kernel_rfl)) ?_
 rw [Be,h2]
 exact .head (step_fresh ..) B'
noncomputable def W9(x y:Nat)(a b:zl):A8:=⟨fun q=>.call (.builtin "str.__add__") ⟨[.str ⟨⟨x::a⟩⟩ 0,.str ⟨⟨y::b⟩⟩ 0],[]⟩,[],fun q=>[],fun q=>none,fun q q=>true,fun q X=>.ok (.ret (.str ⟨⟨x::a++y::b⟩⟩ (X.t+X.ti))),fun q X=>⟨X.T,X.m,X.n,X.i,X.gens,X.drawn,X.t,X.ti+1,X.os⟩,fun q q=>True,none,none,none,false⟩
theorem OX{p:zv}{w:zt}{kt:KT}{x y:Nat}{a b:zl}(h:a.length+b.length+2≤sizeLine):(W9 x y a b).Ok p w kt:=by
 refine ⟨rfl,?_⟩
 intro c X s k g l cd pc rest hc _ _ D _
 obtain ⟨t,u,rfl⟩:=WU hc
 have z:=NZ (p:=p) (w:=w) x y a b t u h s k g l cd pc rest
 rw [D.toks] at z
 exact ⟨U0,_,z,⟨D.size,D.own,D.apart,D.low,D.top,D.off,D.gens,D.drawn,rfl,D.os⟩,.same rfl (vp _),⟨rfl,fun q q h q=>h⟩,trivial⟩
def wN(a:Nat)(t:Int)(x y:zq)(s:zl)(D D':zu):Spec:=⟨mM (.ref a),[a,898],[HA t x y,Io D],fun q=>.fin (.done (.ret (.str ⟨⟨s⟩⟩ 0))),fun q=>[HA t x y,Io D'],fun q=>[]⟩
def ZY(n:Nat)(d:List (Code×Pos)):zk×List (Code×Pos):=(gF n,d)
noncomputable def gO(P:zp)(x y:zq)(s1 s2 L:zl)(m1 m2 n:Nat)(D:zg):List (zh→A8):=[fun q=>bL P x s1 m1 n (gD D 0),fun l=>bL P y s2 m2 (n+m1) (ud l 0 0),fun l=>n6 P s1 s2 L (n+m1+m2) (ud l 0 0)]
noncomputable def gN(P:zp)(x y:zq)(s1 s2 r1 r2:zl)(m1 m2 n:Nat)(D:zg):List (zh→A8):=[fun q=>bL P x s1 m1 n (gD D 0),fun l=>bL P y s2 m2 (n+m1) (ud l 0 0),fun q=>KQ ⟨⟨s1⟩⟩ ⟨⟨[34]⟩⟩ ⟨⟨[34,34]⟩⟩ ⟨⟨r1⟩⟩,fun q=>CC [34] r1 (34::r1),fun q=>W9 34 34 r1 [32,34],fun q=>KQ ⟨⟨s2⟩⟩ ⟨⟨[34]⟩⟩ ⟨⟨[34,34]⟩⟩ ⟨⟨r2⟩⟩,fun q=>CC (34::(r1++[34,32,34])) r2 (34::(r1++34::32::34::r2)),fun q=>CC (34::(r1++34::32::34::r2)) [34] (34::(r1++34::32::34::(r2++[34])))]
noncomputable def b3:List (Bool×Bool×Bool):=[false,true].flatMap fun a=>([false,true].flatMap fun b=>[false,true].map (Prod.mk b)).map (Prod.mk a)
theorem QC(a b c:Bool):(a,b,c)∈b3:=by cases a<;>cases b<;>cases c<;>decide
section
variable{w:zt}{b2:Bool}{a n m1 m2 al ar:Nat}{sl sr s1 s2 r1 r2 L:zl}
theorem NI:b3.map (fun z=>Vg (ZY n) w z.2.2 b2 (fun D=>wN a 0 (vk z.1 sl al) (vk z.2.1 sr ar) L (gD D 0) (gD D 0)) (gO w.2 (vk z.1 sl al) (vk z.2.1 sr ar) s1 s2 L m1 m2 n) 3 (fun q q=>[]) [] [false,true] (hD 5 45 4104102036220050454414367587590) 4 [1,2] 1)=b3.map fun z=>Vf (fun q=>gF (n+m1+m2+1)) (ZY n) w z.2.2 b2 (fun D=>wN a 0 (vk z.1 sl al) (vk z.2.1 sr ar) L (gD D 0) (gD D 0)) (fun q q D l=>wN a 0 (vk z.1 sl al) (vk z.2.1 sr ar) L (gD D 0) (ud l 0 2)) (gO w.2 (vk z.1 sl al) (vk z.2.1 sr ar) s1 s2 L m1 m2 n) 3 (fun q q=>[]) [] [false,true] (hD 5 45 4104102036220050454414367587590) 4 [1,2] 1:=by kernel_rfl
theorem NH:b3.map (fun z=>Vg (ZY n) w z.2.2 b2 (fun D=>wN a 1 (vk z.1 sl al) (vk z.2.1 sr ar) (34::(r1++34::32::34::(r2++[34]))) (gD D 0) (gD D 0)) (gN w.2 (vk z.1 sl al) (vk z.2.1 sr ar) s1 s2 r1 r2 m1 m2 n) 8 (fun q q=>[]) [] [false,true] (hD 5 43 829921109837508797920226962590) 4 [1,2,0,0,0,0,0] 1)=b3.map fun z=>Vf (fun q=>gF (n+m1+m2)) (ZY n) w z.2.2 b2 (fun D=>wN a 1 (vk z.1 sl al) (vk z.2.1 sr ar) (34::(r1++34::32::34::(r2++[34]))) (gD D 0) (gD D 0)) (fun q q D l=>wN a 1 (vk z.1 sl al) (vk z.2.1 sr ar) (34::(r1++34::32::34::(r2++[34]))) (gD D 0) (ud l 6 0)) (gN w.2 (vk z.1 sl al) (vk z.2.1 sr ar) s1 s2 r1 r2 m1 m2 n) 8 (fun q q=>[]) [] [false,true] (hD 5 43 829921109837508797920226962590) 4 [1,2,0,0,0,0,0] 1:=by kernel_rfl
variable{r:Nat}{rq sN R0:Lp}{k1 k2:Bool}
theorem NN{t:Int}{x y:zq}{s:zl}{w:zt}{b b2:Bool}{D:zu}{R:Lp}{m:Nat}(h:Spec.qh (fun g=>g=gF n) (fun q=>gF (n+m)) (fun D':zu=>wN a t x y s D D') (fun D' q P'=>JD (n+m) D'∧P'=rq++(sN++R0)) (wN a t x y s D D) (wf w b b2) (Al ⟨r,Gx r⟩) (fun P=>P=rq++(sN++R0)))(hR:R.Perm ((a,HA t x y)::(rq++sN)++R0)):Spec.qh (fun g=>g=gF n) (fun q=>gF (n+m)) (fun D':zu=>wS (.ref a) s D') (fun D' q P'=>JD (n+m) D'∧P'=R) (wS (.ref a) s D) (wf w b b2) (Al ⟨r,Gx r⟩) (fun P=>P=R):=by
 rintro P rfl
 have pm:∀ X:Obj,((898,X)::P).Perm ([(a,HA t x y),(898,X)]++(rq++(sN++R0))):=fun X=>(hR.cons _).trans (by rw [yE,vj]; exact .swap ..)
 refine (h _ rfl).wk (fun L hL=>⟨_,rfl,by rw [hL]; exact pm _⟩) ?_
 rintro e L ⟨D',A,P',⟨hJ,rfl⟩,sub,he,rfl⟩
 exact ⟨(wS (.ref a) s D').pV A++P,[],by rw [w9]; exact (pm (Io D')).symm,⟨D',A,P,⟨hJ,rfl⟩,fun q m=>m,he,rfl⟩⟩
theorem Qq(h1:WC (vk k1 sl al) rq s1 m1 (r+1) n)(h2:WC (vk k2 sr ar) sN s2 m2 (r+1) (n+m1))(q1:NG s1 (An s1))(q2:NG s2 (An s2))(hs:(An s1).length+(An s2).length+8≤sizeLine)(hr:1≤r∧r≤3)(hn:n+m1+m2≤2):WC (.ref a) ((a,HA 0 (vk k1 sl al) (vk k2 sr ar))::(rq++sN)) (Qn s1 s2) (m1+m2+1) r n:=by
 rintro w b b2 D R hJ ⟨R0,hR⟩
 refine NN ?_ hR
 rw [← xe,← xe]
 exact MW (tf:=ZY n) (fun pN g q hg=>⟨pN.map Frame.where_,by rw [hg]; rfl⟩) (fun D':zu=>wN a 0 (vk k1 sl al) (vk k2 sr ar) (Qn s1 s2) D D') (fun D' q=>JD (n+m1+m2+1) D') (fun D=>wN a 0 (vk k1 sl al) (vk k2 sr ar) (Qn s1 s2) (gD D 0) (gD D 0)) (fun q q D l=>wN a 0 (vk k1 sl al) (vk k2 sr ar) (Qn s1 s2) (gD D 0) (ud l 0 2)) (gO w.2 (vk k1 sl al) (vk k2 sr ar) s1 s2 (Qn s1 s2) m1 m2 n) 3 (fun q q=>[]) [] [false,true] (hD 5 45 4104102036220050454414367587590) 4 [1,2] 1 [D] (K0:=fun q P'=>P'=rq++(sN++R0))
  (fun q q q ke=>.cons (I4 h1 hJ ⟨_,.refl _⟩) fun u0 q g0=>.cons (I4 h2 g0 ⟨rq++R0,by rw [← vj,← vj]; exact wJ.append_right _⟩) fun u1 q g1=>.cons (Y0 q1 q2 hs hn hr g1) fun u2 q g2=>.nil fun P hP=>ke _ _ ⟨_,rfl,hP,fun q q=>g2⟩)
  (wU.mp NI _ (QC k1 k2 b)) (hT:=wR.mpr (by lia))
theorem Qp(h1:WC (vk k1 sl al) rq s1 m1 (r+1) n)(h2:WC (vk k2 sr ar) sN s2 m2 (r+1) (n+m1))(q1:QJ s1 (Aa s1))(q2:QJ s2 (Aa s2))(hs:(Aa s1).length+(Aa s2).length+8≤sizeLine)(hr:1≤r∧r≤3):WC (.ref a) ((a,HA 1 (vk k1 sl al) (vk k2 sr ar))::(rq++sN)) (Qm s1 s2) (m1+m2) r n:=by
 rintro w b b2 D R hJ ⟨R0,hR⟩
 refine NN ?_ hR
 rw [← xe]
 exact MW (tf:=ZY n) (fun pN g z hg=>⟨pN.map Frame.where_,by rw [hg]; rfl⟩) (fun D':zu=>wN a 1 (vk k1 sl al) (vk k2 sr ar) (Qm s1 s2) D D') (fun D' z=>JD (n+m1+m2) D') (fun D=>wN a 1 (vk k1 sl al) (vk k2 sr ar) (Qm s1 s2) (gD D 0) (gD D 0)) (fun z z D l=>wN a 1 (vk k1 sl al) (vk k2 sr ar) (Qm s1 s2) (gD D 0) (ud l 6 0)) (gN w.2 (vk k1 sl al) (vk k2 sr ar) s1 s2 (Aa s1) (Aa s2) m1 m2 n) 8 (fun z z=>[]) [] [false,true] (hD 5 43 829921109837508797920226962590) 4 [1,2,0,0,0,0,0] 1 [D] (K0:=fun z P'=>P'=rq++(sN++R0))
  (fun z z z ke=>.cons (I4 h1 hJ ⟨_,.refl _⟩) fun u0 z g0=>.cons (I4 h2 g0 ⟨rq++R0,by rw [← vj,← vj]; exact wJ.append_right _⟩) fun u1 z g1=>.q q1 fun z z z=>.q (Ao (by rw [wQ]; lia) rfl) fun z z z=>.q (OX (by show _+2+2≤_; lia)) fun z z z=>.q q2 fun z z z=>.q (Ao (by simp only [vr,vn,x9]; lia) (by simp)) fun z z z=>.q (Ao (by simp only [vr,vn,x9]; lia) (by simp)) fun z z z=>.nil fun P hP=>ke _ _ ⟨_,rfl,hP,fun z z=>g1⟩)
  (wU.mp NH _ (QC k1 k2 b)) (hT:=wR.mpr (by lia))
end
theorem Jq:∀ (p:PA) (r n:Nat),p.ok→1≤r→p.qa+r≤4→n+p.lines≤3→WC p.val p.lp p.wt p.lines r n
 | .leaf s,r,n,_,_,h,_=>Qr (vv (wx (zW r).symm) h)
 | .node a t p q,r,n,h0,h1,h2,h3=>by
  have o1:p.ok:=h0.1
  have o2:q.ok:=h0.2.1
  have o3:=h0.2.2
  clear h0
  have hh:max p.qa q.qa+1+r≤4:=h2
  have hl:n+(p.lines+q.lines+bif t then 0 else 1)≤3:=h3
  have i1:WC p.val p.lp p.wt p.lines (r+1) n:=Jq p (r+1) n o1 (by lia) (by lia) (by lia)
  have i2:WC q.val q.lp q.wt q.lines (r+1) (n+p.lines):=Jq q (r+1) (n+p.lines) o2 (by lia) (by lia) (by lia)
  rw [PA.q7] at i1 i2
  cases t with
  | false=>
   have:WC _ _ _ _ r n:=Qq (a:=a) i1 i2 o3.1 o3.2.1 o3.2.2 ⟨h1,by lia⟩ (by simp only [cond_false] at hl; lia)
   rw [← PA.q7,← PA.q7] at this
   exact this
  | true=>
   have:WC _ _ _ _ r n:=Qp (a:=a) i1 i2 o3.1 o3.2.1 o3.2.2 ⟨h1,by lia⟩
   rw [← PA.q7,← PA.q7] at this
   exact this
end
def pI(P:zp)(s:Str)(aL:Nat):zu:=.dict #[kE P "s" (.str s 0),kE P "comments" (.bool false),kE P "posix" (.bool true),kE P "lex" (.ref aL)] 4
theorem gy(P:zp)(fr:Nat):DH (Br P 896 KX fr):=by
 have h:(Br P 896 KX fr).scope.kind=.function:=by kernel_rfl
 exact ⟨by rw [h]; decide,by kernel_rfl⟩
def mb(P:zp)(s:Str)(x1 x2 x3:Nat)(T1 T2 T3:zl)(p1 p2 p3:Nat):A8:=Cm (fun x=>some [QY "type.__call__",C0 (Br P 896 KX (A4 x 0))]) [13,2,1,8,7,11,12,0] [] [] (fun x=>(xl P (A4 x 13) (A4 x 2) (A4 x 1) (A4 x 8) (A4 x 7) (A4 x 11) (A4 x 12) s x1 x2 x3 T1 T2 T3 p1 p2 p3).own (A4 x 0) (pI P s (A4 x 2)))
theorem Xf{s:Str}{x1 x2 x3:Nat}{T1 T2 T3:zl}{p1 p2 p3:Nat}{E:zi}{R:Lp}(hE:AW E R)(h1:2≤s.length)(h2:s.length≤sizeLine)(tH:B6 s.cps.toList 0=some (x1::T1,p1,true))(qz:B6 (s.cps.toList.drop p1) p1=some (x2::T2,p2,true))(tG:B6 (s.cps.toList.drop p2) p2=some (x3::T3,p3,false))(hk:s.length≤p3):(mb w.2 s x1 x2 x3 T1 T2 T3 p1 p2 p3).qB pw (wf w b b2) (A5 w.2) ⟨6,Ax E zw⟩ (fun P=>P=R) (fun P=>P=R):=
 Ab (w:=wf w b b2) (fun x=>Spec.rV (fun R' sm=>Wk w b b2 _ _ _ _ _ _ _ s x1 x2 x3 T1 T2 T3 p1 p2 p3 h1 h2 tH qz tG hk sm) hE (gy w.2 (A4 x 0)) rfl rfl (fun q=>rfl)) (BK (V:=fun x=>[QY "type.__call__",C0 (Br w.2 896 KX (A4 x 0))]) (by rfl) fun x q c=>c.app (V:=[QY "type.__call__",C0 (Br w.2 896 KX (A4 x 0))]) (E':=[Br w.2 896 KX (A4 x 0)]) (qe:=["type.__call__"]) rfl rfl) (by decide) (fun q=>⟨rfl,rfl,fun q=>rfl⟩) (fun q q=>rfl)
def sp(P:zp)(s:Str)(x1 x2 x3:Nat)(T1 T2 T3:zl)(p1 p2 p3:Nat):Spec:=⟨.call (.ref 896) ⟨[.str s 0],[]⟩,[],[],fun A=>.fin (.done (.ret (.ref (A 0)))),fun A=>[],fun A=>[YR [x1::T1,x2::T2,x3::T3] 5]⟩
variable{St:zc}(w b b2)
theorem XC(s:Str)(x1 x2 x3:Nat)(T1 T2 T3:zl)(p1 p2 p3:Nat)(h1:2≤s.length)(h2:s.length≤sizeLine)(tH:B6 s.cps.toList 0=some (x1::T1,p1,true))(qz:B6 (s.cps.toList.drop p1) p1=some (x2::T2,p2,true))(tG:B6 (s.cps.toList.drop p2) p2=some (x3::T3,p3,false))(hk:s.length≤p3){E:zi}{R:Lp}(hE:AW E R):(sp w.2 s x1 x2 x3 T1 T2 T3 p1 p2 p3).PI w b b2 6 (Ax E zw) (fun P=>P=R):=As (Ag [mb w.2 s x1 x2 x3 T1 T2 T3 p1 p2 p3]) 1 [13] (hD 16 791 26752068321848180405504591592665774651733019926408169178558599562341606291282383952066680388563260713369182189637579674007379060171235750081441039985974712865083307753403825175624757518288557663635701520790633826932493550193467810870695428027145917936667329707801453035088652345721478573194084004503586705995745020118622472312449275548272251935122410920203688358086543091066951444535180395652553451073951855635525299494737500589570316232841966275605081844343880362818433305716424165038650181645905695053916217151676955096177890672996688461363486222869081373128983369546861493532971513627296736878780486482531200975636395509570852507940720130331909565616069766254573847600864006350672360979742959101832133595615942451362939740708599170930910569343582110980510559100882510540834185190865433387816060328772273335023384668394637931881820516906393731767126174848449120508787984145016232959695851233965391778693205166718492463881331660168544500451530513649920) 58 [] 1 fun E0 ke=>.cons (Xf hE h1 h2 tH qz tG hk) fun q q q=>.pO ke rfl
def BI(P:zp)(fr:Nat):Code:=mN ((CM (EW (jb P))).getD 5 (.Pass default)) (Br P 76 jb fr)
def Mq(P:zp)(r d:zl)(i:Nat):Obj:=fU [kE P "resp" (.str ⟨⟨r⟩⟩ 0),kE P "dirname" (.str ⟨⟨d⟩⟩ 0),kE P "i" (.int i 0),kE P "n" (.int r.length 0)] 4
def ET(P:zp)(r d:zl)(i c:Nat):Obj:=fU [kE P "resp" (.str ⟨⟨r⟩⟩ 0),kE P "dirname" (.str ⟨⟨d⟩⟩ 0),kE P "i" (.int i 0),kE P "n" (.int r.length 0),kE P "c" (.str ⟨⟨[c]⟩⟩ 0)] 5
def ot(P:zp)(fr:Nat)(tx dn:zl)(i c e k:Nat):Spec:=⟨BI P fr,[fr],[Mq P tx dn i],fun A=>.fin (.again (BI P fr)),fun A=>[ET P tx (dn++[c]) (i+1) c],fun A=>[]⟩
theorem Sp(fr:Nat)(tx dn:zl)(i c e k:Nat)(h:tx[i]?=some c)(hc:c≠34)(hs:tx.length≤sizeLine)(hd:dn.length+1≤sizeLine)(hi:i < tx.length)(I:zd):(ot w.2 fr tx dn i c e k).PI w b b2 12 St I:=As (Ag [KS i tx.length true,EK tx i c,IE ⟨⟨[c]⟩⟩ ⟨⟨[34]⟩⟩ false,CC dn [c] (dn++[c])]) 4 [] (hD 3 14 2391484) 0 [0,1,0] 0 fun E0 ke=>.q (BN (wj (by lia))) fun z z z=>.q (B5 h hs) fun z z z=>.q (CB (by simpa using hc)) fun z z z=>.q (Ao (by simpa using hd) rfl) fun z z z=>.pO ke rfl
def om(P:zp)(fr:Nat)(tx dn:zl)(i c e k:Nat):Spec:=⟨BI P fr,[fr],[Mq P tx dn i],fun A=>.fin (.again (BI P fr)),fun A=>[ET P tx (dn++[34]) (i+1+1) 34],fun A=>[]⟩
theorem Sn(fr:Nat)(tx dn:zl)(i c e k:Nat)(h:tx[i]?=some 34)(h':tx[i+1]?=some 34)(hs:tx.length≤sizeLine)(hd:dn.length+1≤sizeLine)(hi:i+1 < tx.length)(I:zd):(om w.2 fr tx dn i c e k).PI w b b2 12 St I:=As (Ag [KS i tx.length true,EK tx i 34,IE ⟨⟨[34]⟩⟩ ⟨⟨[34]⟩⟩ true,Le ((i+1:Nat):Int) tx.length false,EK tx (i+1) 34,ON ⟨⟨[34]⟩⟩ ⟨⟨[34]⟩⟩ false,CC dn [34] (dn++[34])]) 7 [] (hD 3 21 5230176601) 0 [0,1,0,0,0,1] 0 fun E0 ke=>.q (BN (wj (by lia))) fun z z z=>.q (B5 h hs) fun z z z=>.q (CB rfl) fun z z z=>.q (Bb (wg (by lia))) fun z z z=>.q (B5 h' hs) fun z z z=>.q (Fm rfl) fun z z z=>.q (Ao (by simpa using hd) rfl) fun z z z=>.pO ke rfl
def oh(P:zp)(fr:Nat)(tx dn:zl)(i c e k:Nat):Spec:=⟨BI P fr,[fr],[Mq P tx dn i],fun A=>.fin (.done .next),fun A=>[ET P tx dn (i+1) 34],fun A=>[]⟩
theorem Sl(fr:Nat)(tx dn:zl)(i c e k:Nat)(h:tx[i]?=some 34)(hs:tx.length≤sizeLine)(hi:i+1=tx.length)(I:zd):(oh w.2 fr tx dn i c e k).PI w b b2 12 St I:=As (Ag [KS i tx.length true,EK tx i 34,IE ⟨⟨[34]⟩⟩ ⟨⟨[34]⟩⟩ true,Le ((i+1:Nat):Int) tx.length true]) 4 [] (hD 3 12 265720) 0 [0,1,0] 0 fun E0 ke=>.q (BN (wj (by lia))) fun z z z=>.q (B5 h hs) fun z z z=>.q (CB rfl) fun z z z=>.q (Bb (wj (by lia))) fun z z z=>.pO ke rfl
def od(P:zp)(fr:Nat)(tx dn:zl)(i c e k:Nat):Spec:=⟨BI P fr,[fr],[Mq P tx dn i],fun A=>.fin (.done .next),fun A=>[ET P tx dn (i+1) 34],fun A=>[]⟩
theorem Sj(fr:Nat)(tx dn:zl)(i c e k:Nat)(h:tx[i]?=some 34)(h':tx[i+1]?=some e)(he:e≠34)(hs:tx.length≤sizeLine)(hi:i+1 < tx.length)(I:zd):(od w.2 fr tx dn i c e k).PI w b b2 12 St I:=As (Ag [KS i tx.length true,EK tx i 34,IE ⟨⟨[34]⟩⟩ ⟨⟨[34]⟩⟩ true,Le ((i+1:Nat):Int) tx.length false,EK tx (i+1) e,ON ⟨⟨[e]⟩⟩ ⟨⟨[34]⟩⟩ true]) 6 [] (hD 3 14 2391484) 0 [0,1,0,0,0] 0 fun E0 ke=>.q (BN (wj (by lia))) fun z z z=>.q (B5 h hs) fun z z z=>.q (CB rfl) fun z z z=>.q (Bb (wg (by lia))) fun z z z=>.q (B5 h' hs) fun z z z=>.q (Fm (by simpa using he)) fun z z z=>.pO ke rfl
def oq(P:zp)(fr:Nat)(tx dn:zl)(i c e k:Nat):Spec:=⟨BI P fr,[fr],[ET P tx dn i k],fun A=>.fin (.again (BI P fr)),fun A=>[ET P tx (dn++[c]) (i+1) c],fun A=>[]⟩
theorem So(fr:Nat)(tx dn:zl)(i c e k:Nat)(h:tx[i]?=some c)(hc:c≠34)(hs:tx.length≤sizeLine)(hd:dn.length+1≤sizeLine)(hi:i < tx.length)(I:zd):(oq w.2 fr tx dn i c e k).PI w b b2 12 St I:=As (Ag [KS i tx.length true,EK tx i c,IE ⟨⟨[c]⟩⟩ ⟨⟨[34]⟩⟩ false,CC dn [c] (dn++[c])]) 4 [] (hD 3 14 2391484) 0 [0,1,0] 0 fun E0 ke=>.q (BN (wj (by lia))) fun z z z=>.q (B5 h hs) fun z z z=>.q (CB (by simpa using hc)) fun z z z=>.q (Ao (by simpa using hd) rfl) fun z z z=>.pO ke rfl
def oj(P:zp)(fr:Nat)(tx dn:zl)(i c e k:Nat):Spec:=⟨BI P fr,[fr],[ET P tx dn i k],fun A=>.fin (.again (BI P fr)),fun A=>[ET P tx (dn++[34]) (i+1+1) 34],fun A=>[]⟩
theorem Sm(fr:Nat)(tx dn:zl)(i c e k:Nat)(h:tx[i]?=some 34)(h':tx[i+1]?=some 34)(hs:tx.length≤sizeLine)(hd:dn.length+1≤sizeLine)(hi:i+1 < tx.length)(I:zd):(oj w.2 fr tx dn i c e k).PI w b b2 12 St I:=As (Ag [KS i tx.length true,EK tx i 34,IE ⟨⟨[34]⟩⟩ ⟨⟨[34]⟩⟩ true,Le ((i+1:Nat):Int) tx.length false,EK tx (i+1) 34,ON ⟨⟨[34]⟩⟩ ⟨⟨[34]⟩⟩ false,CC dn [34] (dn++[34])]) 7 [] (hD 3 21 5230176601) 0 [0,1,0,0,0,1] 0 fun E0 ke=>.q (BN (wj (by lia))) fun z z z=>.q (B5 h hs) fun z z z=>.q (CB rfl) fun z z z=>.q (Bb (wg (by lia))) fun z z z=>.q (B5 h' hs) fun z z z=>.q (Fm rfl) fun z z z=>.q (Ao (by simpa using hd) rfl) fun z z z=>.pO ke rfl
def og(P:zp)(fr:Nat)(tx dn:zl)(i c e k:Nat):Spec:=⟨BI P fr,[fr],[ET P tx dn i k],fun A=>.fin (.done .next),fun A=>[ET P tx dn (i+1) 34],fun A=>[]⟩
theorem Sk(fr:Nat)(tx dn:zl)(i c e k:Nat)(h:tx[i]?=some 34)(hs:tx.length≤sizeLine)(hi:i+1=tx.length)(I:zd):(og w.2 fr tx dn i c e k).PI w b b2 12 St I:=As (Ag [KS i tx.length true,EK tx i 34,IE ⟨⟨[34]⟩⟩ ⟨⟨[34]⟩⟩ true,Le ((i+1:Nat):Int) tx.length true]) 4 [] (hD 3 12 265720) 0 [0,1,0] 0 fun E0 ke=>.q (BN (wj (by lia))) fun z z z=>.q (B5 h hs) fun z z z=>.q (CB rfl) fun z z z=>.q (Bb (wj (by lia))) fun z z z=>.pO ke rfl
def oc(P:zp)(fr:Nat)(tx dn:zl)(i c e k:Nat):Spec:=⟨BI P fr,[fr],[ET P tx dn i k],fun A=>.fin (.done .next),fun A=>[ET P tx dn (i+1) 34],fun A=>[]⟩
theorem Si(fr:Nat)(tx dn:zl)(i c e k:Nat)(h:tx[i]?=some 34)(h':tx[i+1]?=some e)(he:e≠34)(hs:tx.length≤sizeLine)(hi:i+1 < tx.length)(I:zd):(oc w.2 fr tx dn i c e k).PI w b b2 12 St I:=As (Ag [KS i tx.length true,EK tx i 34,IE ⟨⟨[34]⟩⟩ ⟨⟨[34]⟩⟩ true,Le ((i+1:Nat):Int) tx.length false,EK tx (i+1) e,ON ⟨⟨[e]⟩⟩ ⟨⟨[34]⟩⟩ true]) 6 [] (hD 3 14 2391484) 0 [0,1,0,0,0] 0 fun E0 ke=>.q (BN (wj (by lia))) fun z z z=>.q (B5 h hs) fun z z z=>.q (CB rfl) fun z z z=>.q (Bb (wg (by lia))) fun z z z=>.q (B5 h' hs) fun z z z=>.q (Fm (by simpa using he)) fun z z z=>.pO ke rfl
def oZ(P:zp)(fr:Nat)(tx dn:zl)(i c e k:Nat):Spec:=⟨BI P fr,[fr],[ET P tx dn i k],fun A=>.fin (.done .next),fun A=>[ET P tx dn i k],fun A=>[]⟩
theorem Sg(fr:Nat)(tx dn:zl)(i c e k:Nat)(hi:tx.length≤i)(I:zd):(oZ w.2 fr tx dn i c e k).PI w b b2 12 St I:=As (Ag [KS i tx.length false]) 1 [] [1,1] 0 [] 0 fun E0 ke=>.q (BN (wg (by lia))) fun z z z=>.pO ke rfl
noncomputable def FR:zl→zl→Nat→Nat→zl×Nat×Nat
 | [],dn,i,k=>(dn,i,k)
 | [c],dn,i,k=>if c=34 then (dn,i+1,34) else (dn++[c],i+1,c)
 | c::c2::r,dn,i,k=>if c=34 then (if c2=34 then FR r (dn++[34]) (i+2) 34 else (dn,i+1,34)) else FR (c2::r) (dn++[c]) (i+1) c
theorem J2(c:Nat)(r dn:zl)(i k:Nat)(h:c≠34):FR (c::r) dn i k=FR r (dn++[c]) (i+1) c:=by
 cases r with
 | nil=>show (if c=34 then _ else _)=_; rw [w2 h]; rfl
 | cons c2 r=>show (if c=34 then _ else _)=_; rw [w2 h]
def YS(P:zp)(fr:Nat)(tx:zl)(pre:Obj)(z:zl×Nat×Nat):Spec:=⟨BI P fr,[fr],[pre],fun q=>.fin (.done .next),fun q=>[ET P tx z.1 z.2.1 z.2.2],fun q=>[]⟩
theorem C9(P:zp)(fr:Nat):Ba (BI P fr)=true:=by unfold Ba; rw [Aq]; rfl
theorem IP{St:zc}(w:zt)(b b2:Bool)(fr:Nat)(tx:zl)(hs:tx.length≤sizeLine)(I:zd):∀ (m:Nat) (rest dn:zl) (i k:Nat),rest.length≤m→tx.drop i=rest→i≤tx.length→dn.length+rest.length≤sizeLine→
  (YS w.2 fr tx (ET w.2 tx dn i k) (FR rest dn i k)).PI w b b2 12 St I∧(rest≠[]→(YS w.2 fr tx (Mq w.2 tx dn i) (FR rest dn i k)).PI w b b2 12 St I)
 | m,[],dn,i,k,_,hd,hi,_=>by
  have:tx.length≤i:=y'.mp hd
  exact ⟨Sg w b b2 fr tx dn i 0 0 k this I,fun h=>absurd rfl h⟩
 | 0,c::r,dn,i,k,h,_,_,_=>by simp at h
 | m+1,c::r,dn,i,k,hm,hd,hi,hz=>by
  have hc:tx[i]?=some c:=by
   have:=vm (·[0]?) hd
   simpa [xu] using this
  have lt:i < tx.length:=(wA.mp hc).1
  have hd1:tx.drop (i+1)=r:=by rw [← yF,hd]; rfl
  have lr:=vm List.length hd1
  rw [xc] at lr
  simp only [vr] at hm hz
  have z1:([]:zl).length+0=0:=rfl
  by_cases e:c=34
  ·subst e
   cases r with
   | nil=>
    have hl:i+1=tx.length:=by simp only [x9] at lr; lia
    have ez:FR [34] dn i k=(dn,i+1,34):=rfl
    rw [ez]
    exact ⟨Sk w b b2 fr tx dn i 0 0 k hc hs hl I,fun q=>Sl w b b2 fr tx dn i 0 0 k hc hs hl I⟩
   | cons c2 r2=>
    have hc2:tx[i+1]?=some c2:=by
     have:=vm (·[0]?) hd1
     simpa [xu] using this
    have lt2:i+1 < tx.length:=(wA.mp hc2).1
    simp only [vr] at hm hz lr
    by_cases e2:c2=34
    ·subst e2
     have hd2:tx.drop (i+2)=r2:=by rw [show i+2=(i+1)+1 from rfl,← yF,hd1]; rfl
     have ez:FR (34::34::r2) dn i k=FR r2 (dn++[34]) (i+2) 34:=rfl
     rw [ez]
     have ih:=(IP (St:=St) w b b2 fr tx hs I m r2 (dn++[34]) (i+2) 34 (by lia) hd2 (by lia) (by simp only [vn,vr,x9]; lia)).1
     exact ⟨(Sm w b b2 fr tx dn i 0 0 k hc hc2 hs (by lia) lt2 I).seq (S2:=YS w.2 fr tx (ET w.2 tx (dn++[34]) (i+2) 34) (FR r2 (dn++[34]) (i+2) 34)) (fun q=>rfl) (C9 _ fr) rfl rfl (fun q=>rfl) (fun q=>rfl) ih,
      fun q=>(Sn w b b2 fr tx dn i 0 0 k hc hc2 hs (by lia) lt2 I).seq (S2:=YS w.2 fr tx (ET w.2 tx (dn++[34]) (i+2) 34) (FR r2 (dn++[34]) (i+2) 34)) (fun q=>rfl) (C9 _ fr) rfl rfl (fun q=>rfl) (fun q=>rfl) ih⟩
    ·have ez:FR (34::c2::r2) dn i k=(dn,i+1,34):=by
      show (if c2=34 then _ else _)=_
      rw [w2 e2]
     rw [ez]
     exact ⟨Si w b b2 fr tx dn i 0 c2 k hc hc2 e2 hs lt2 I,fun q=>Sj w b b2 fr tx dn i 0 c2 k hc hc2 e2 hs lt2 I⟩
  ·have ez:FR (c::r) dn i k=FR r (dn++[c]) (i+1) c:=J2 c r dn i k e
   rw [ez]
   have ih:=(IP (St:=St) w b b2 fr tx hs I m r (dn++[c]) (i+1) c (by lia) hd1 (by lia) (by simp only [vn,vr,x9]; lia)).1
   exact ⟨(So w b b2 fr tx dn i c 0 k hc e hs (by lia) lt I).seq (S2:=YS w.2 fr tx (ET w.2 tx (dn++[c]) (i+1) c) (FR r (dn++[c]) (i+1) c)) (fun q=>rfl) (C9 _ fr) rfl rfl (fun q=>rfl) (fun q=>rfl) ih,
    fun q=>(Sp w b b2 fr tx dn i c 0 k hc e hs (by lia) lt I).seq (S2:=YS w.2 fr tx (ET w.2 tx (dn++[c]) (i+1) c) (FR r (dn++[c]) (i+1) c)) (fun q=>rfl) (C9 _ fr) rfl rfl (fun q=>rfl) (fun q=>rfl) ih⟩
noncomputable abbrev Dq(wd:zl):zl:=50::53::55::32::34::wd
def mq(P:zp)(wd:zl)(z:zl×Nat×Nat):A8:=BU [0] [] [] (fun x=>YS P (A4 x 0) (Dq wd) (Mq P (Dq wd) [] 5) z)
theorem Xq{w:zt}{b b2:Bool}{wd:zl}{z:zl×Nat×Nat}{I:zd}{St:zc}(hs:wd.length+5≤sizeLine)(hw:wd≠[])(hz:FR wd [] 5 0=z):(mq w.2 wd z).qB pw (wf w b b2) (A5 w.2) ⟨11,St⟩ I I:=
 AL (w:=wf w b b2) (fun x=>by rw [← hz]; exact (IP w b b2 (A4 x 0) (Dq wd) (by simpa using hs) I wd.length wd [] 5 0 (vp _) rfl (by simp) (by simp only [x9]; lia)).2 hw) (by decide) (fun q=>⟨rfl,rfl,fun q=>rfl⟩) (fun q q=>rfl)
def pf(P:zp)(wd:zl)(z1:zl)(z2 z3:Nat):Spec:=⟨.call (.ref 76) ⟨[.str ⟨⟨Dq wd⟩⟩ 0],[]⟩,[],[],fun A=>.fin (.done (.ret (.str ⟨⟨z1⟩⟩ 0))),fun A=>[],fun A=>[]⟩
theorem Xc(wd:zl)(z1:zl)(z2 z3:Nat)(hs:wd.length+5≤sizeLine)(hw:wd≠[])(hz:FR wd [] 5 0=(z1,z2,z3))(I:zd):(pf w.2 wd z1 z2 z3).PI w b b2 11 St I:=As (Ag [JH ⟨⟨Dq wd⟩⟩ 1 3 [50,53,55],W8 ⟨⟨Dq wd⟩⟩ 2 3 5 [32,34],Md ⟨⟨Dq wd⟩⟩,mq w.2 wd (z1,z2,z3)]) 4 [] (hD 3 15 7095720) 0 [1,1,0] 1 fun E0 ke=>.q (EJ (by show 3 < wd.length+5; lia) (by show wd.length+5≤sizeLine; exact hs) rfl) fun z z z=>.q (OV (by lia) (by show 5≤wd.length+5; lia) (by show wd.length+5≤sizeLine; exact hs) (by show 5-3 < wd.length+5; lia) rfl) fun z z z=>.q (EH (by show wd.length+5 < 2 ^ 62; have:=Gn; lia)) fun z z z=>.cons (Xq hs hw hz) fun z z z=>.pO ke rfl
noncomputable def au:Stmt→Expr
 | .Return (some e) _=>e
 | _=>default
noncomputable def lu:Expr→Expr
 | .Call _ (a::_) _ _=>a
 | e=>e
noncomputable def Nm:Expr→Scope
 | .ListComp _ _ sc _=>sc
 | _=>default
noncomputable def G9(sc:Scope):Scope:={ sc with names:=sc.names.map fun q=>match q.2 with | .free=>(q.1,.cell) | k=>(q.1,k) }
def kY(P:zp):Expr:=lu (au ((CM (EW (cD P))).getD 0 (.Pass default)))
def d3(P:zp)(aK aC fr:Nat):Env:={ scope:=G9 (Nm (kY P)),locals:=aK,globals:=3,cells:=[(Str.ofString "text",aC)],qual:=Str.ofString "_law_turned.<locals>.",func:=none,code:=.ref 915,frame:=some fr,builtins:=0 }
def ER(P:zp)(aI aA aK aC fr:Nat):Code:=.compLoop (kY P) 0 (.ref aI) (.ref aA) (d3 P aK aC fr)
def Jy(P:zp)(aI aA aK aC fr:Nat):Code:=.compStart (kY P) 0 (.ref aI) (.ref aA) (d3 P aK aC fr)
noncomputable def F3(tx:zl)(tc:Nat):Obj:={ cls:=.type "cell",data:=.cell (some (.str ⟨⟨tx⟩⟩ tc)) }
noncomputable def BE(es:List DictEntry)(n:Nat):Obj:={ cls:=.type "dict",data:=.dict ⟨es⟩ n }
def kI(P:zp)(s:String):Option Int→Obj
 | none=>BE [] 0
 | some x=>BE [kE P s (.int x 0)] 1
noncomputable def Ic(l:zl):zf:=l.map (fun c=>.str ⟨⟨[c]⟩⟩ 0)
def gc(P:zp)(aI aA aK aC:Nat)(fr:Nat)(tx:zl)(tc:Nat)(i j:Int)(DA:zu):Spec:=⟨Jy P aI aA aK aC fr,[aI,aA,aK,aC],[Bv i j (-1),A0 DA,BE [] 0,F3 tx tc],fun A=>.fin (.again (ER P aI aA aK aC fr)),fun A=>[Bv i j (-1),A0 DA,BE [] 0,F3 tx tc],fun A=>[]⟩
theorem R4(aI aA aK aC:Nat)(fr:Nat)(tx:zl)(tc:Nat)(i j:Int)(DA:zu)(I:zd):(gc w.2 aI aA aK aC fr tx tc i j DA).PI w b b2 12 St I:=G8 (fun D=>gc w.2 aI aA aK aC fr tx tc i j (gD D 0)) (fun D l=>gc w.2 aI aA aK aC fr tx tc i j (gD D 0)) (fun D=>(Ag [])) 0 [] [false,true,false,false] (fun b2=>bif b2 then [] else [1,1,1,1]) (fun q=>1000000) (fun q=>[]) 0 [DA] fun E0 ke=>.pO ke rfl
def gZ(P:zp)(aI aA aK aC:Nat)(o:Option Int)(fr:Nat)(tx:zl)(tc k c:Nat)(DA qC:zu):Spec:=⟨ER P aI aA aK aC fr,[aI,aA,aK,aC],[Bv k ((k+1:Nat):Int) (-1),A0 DA,kI P "k" o,F3 tx tc],fun A=>.fin (.again (ER P aI aA aK aC fr)),fun A=>[Bv ((k:Int)+(-1)) (((k+1:Nat):Int)-1) (-1),A0 qC,kI P "k" (some k),F3 tx tc],fun A=>[]⟩
theorem R2(aI aA aK aC:Nat)(o:Option Int)(fr:Nat)(tx:zl)(tc k c:Nat)(DA qC:zu)(h:tx[k]?=some c)(hs:tx.length≤sizeLine)(acc:zl)(e:Nat)(hA:DA=.seq ⟨Ic acc⟩ e)(sI:qC=.seq ⟨Ic acc++[.str ⟨⟨[c]⟩⟩ 0]⟩ (e+1))(hl:acc.length≤sizeLine)(I:zd):(gZ w.2 aI aA aK aC o fr tx tc k c DA qC).PI w b b2 12 St I:=Ae (Cs.oo o 0) (fun z D=>gZ w.2 aI aA aK aC z fr tx tc k c (gD D 0) qC) (fun z D l=>gZ w.2 aI aA aK aC z fr tx tc k c (gD D 0) (ud l 0 0)) (fun z D=>(Ag [EK tx k c,Dn 1 (gD D 0) qC (.str ⟨⟨[c]⟩⟩ 0)])) 2 (fun z=>[]) [false,true,false,false] (hD 6 13 8195182387) 1 [0] 0 [DA] fun E0 ke=>.q (B5 h hs) fun y y y=>.cons (Av hA sI (by simpa [Ic] using hl)) fun u1 y g1=>.pO ke (@id (eD (u1.d 0)=qC) (g1.1.1) ▸ rfl)
def gb(P:zp)(aI aA aK aC:Nat)(fr:Nat)(tx:zl)(tc:Nat)(i k0:Int)(DA:zu):Spec:=⟨ER P aI aA aK aC fr,[aI,aA,aK,aC],[Bv i 0 (-1),A0 DA,kI P "k" (some k0),F3 tx tc],fun A=>.fin (.done .next),fun A=>[Bv i 0 (-1),A0 DA,kI P "k" (some k0),F3 tx tc],fun A=>[]⟩
theorem R3(aI aA aK aC:Nat)(fr:Nat)(tx:zl)(tc:Nat)(i k0:Int)(DA:zu)(I:zd):(gb w.2 aI aA aK aC fr tx tc i k0 DA).PI w b b2 12 St I:=Bu (fun D=>gb w.2 aI aA aK aC fr tx tc i k0 (gD D 0)) (fun D l=>gb w.2 aI aA aK aC fr tx tc i k0 (gD D 0)) (fun D=>(Ag [])) 0 [] [false,true,false,false] [1,1,1,1,1,6] 1000000 [] 0 [DA] fun E0 ke=>.pO ke rfl
end
section
open PySem PySem.W PySem.W.X PySem.Builtin.Str
def Zg(C:Code)(P:zp)(aI aA aK aC:Nat)(tx:zl)(tc:Nat)(pre:List Obj)(D:zu):Spec:=
 ⟨C,[aI,aA,aK,aC],pre,fun q=>.fin (.done .next),fun q=>[Bv (-1) 0 (-1),A0 D,kI P "k" (some 0),F3 tx tc],fun q=>[]⟩
theorem Cz(P:zp)(aI aA aK aC fr:Nat):Ba (ER P aI aA aK aC fr)=true:=by unfold Ba; rw [Aq]; rfl
variable{St:zc}(w:zt)(b b2:Bool)
theorem Mh(aI aA aK aC fr:Nat)(tx:zl)(tc:Nat)(hs:tx.length≤sizeLine)(I:zd)(k:Nat):∀ (acc:zl) (e:Nat) (o:Option Int),k+1≤tx.length→acc.length+(k+1)≤sizeLine→
  (Zg (ER w.2 aI aA aK aC fr) w.2 aI aA aK aC tx tc [Bv k ((k+1:Nat):Int) (-1),A0 (.seq ⟨Ic acc⟩ e),kI w.2 "k" o,F3 tx tc] (.seq ⟨Ic (acc++(tx.take (k+1)).reverse)⟩ (e+k+1))).PI w b b2 12 St I:=by
 have T:=fun k (hk:k+1≤tx.length) acc e o (hl:acc.length+(k+1)≤sizeLine)=>R2 (St:=St) w b b2 aI aA aK aC o fr tx tc k tx[k] (.seq ⟨Ic acc⟩ e) (.seq ⟨Ic (acc++[tx[k]])⟩ (e+1)) (w0 hk) hs acc e rfl (by simp [Ic]) (by lia) I
 have tk:∀ k (hk:k+1≤tx.length) (acc:zl),acc++(tx.take (k+1)).reverse=acc++[tx[k]]++(tx.take k).reverse:=fun k hk acc=>by
  rw [y9,w0 hk]; simp
 induction k with
 | zero=>
  intro acc e o hk hl
  rw [tk 0 hk,List.take_zero,List.reverse_nil,w9]
  exact (T 0 hk acc e o hl).seq (S2:=Zg (ER w.2 aI aA aK aC fr) w.2 aI aA aK aC tx tc [Bv (-1) 0 (-1),A0 (.seq ⟨Ic (acc++[tx[0]])⟩ (e+1)),kI w.2 "k" (some 0),F3 tx tc] (.seq ⟨Ic (acc++[tx[0]])⟩ (e+0+1))) (fun q=>rfl) (Cz ..) rfl rfl (fun q=>rfl) (fun q=>rfl) (R3 w b b2 aI aA aK aC fr tx tc (-1) 0 _ I)
 | succ j ih=>
  intro acc e o hk hl
  have ih:=ih (acc++[tx[j+1]]) (e+1) (some ((j+1:Nat):Int)) (by lia) (by rw [vn,wQ]; lia)
  rw [tk (j+1) hk,show e+(j+1)+1=e+1+j+1 by lia]
  refine (T (j+1) hk acc e o hl).seq (S2:=Zg (ER w.2 aI aA aK aC fr) w.2 aI aA aK aC tx tc [Bv j ((j+1:Nat):Int) (-1),A0 (.seq ⟨Ic (acc++[tx[j+1]])⟩ (e+1)),kI w.2 "k" (some ((j+1:Nat):Int)),F3 tx tc] _) (fun q=>rfl) (Cz ..) rfl rfl (fun q=>?_) (fun q=>rfl) ih
  show [Bv _ _ _,_,_,_]=[Bv _ _ _,_,_,_]
  rw [show ((j+1:Nat):Int)+(-1)=(j:Int) by lia,show ((j+1+1:Nat):Int)-1=((j+1:Nat):Int) by lia]
theorem N5(aI aA aK aC fr:Nat)(tx:zl)(tc:Nat)(hs:tx.length≤sizeLine)(h0:tx≠[])(I:zd) :
  (Zg (Jy w.2 aI aA aK aC fr) w.2 aI aA aK aC tx tc [Bv ((tx.length:Int)-1) tx.length (-1),A0 (.seq #[] 0),BE [] 0,F3 tx tc] (.seq ⟨Ic tx.reverse⟩ tx.length)).PI w b b2 12 St I:=by
 obtain ⟨k,hk⟩:∃ k,tx.length=k+1:=⟨tx.length-1,by have:=zA.mpr h0; lia⟩
 have L:=Mh (St:=St) w b b2 aI aA aK aC fr tx tc hs I k [] 0 none (by lia) (by rw [x9]; lia)
 rw [show []++(tx.take (k+1)).reverse=tx.reverse by rw [← hk,yG]; rfl,show 0+k+1=tx.length by lia] at L
 rw [show ((tx.length:Int)-1)=(k:Int) by lia,show (tx.length:Int)=((k+1:Nat):Int) by lia]
 exact (R4 w b b2 aI aA aK aC fr tx tc k ((k+1:Nat):Int) (.seq ⟨Ic []⟩ 0) I).seq (S2:=Zg (ER w.2 aI aA aK aC fr) w.2 aI aA aK aC tx tc [Bv k ((k+1:Nat):Int) (-1),A0 (.seq ⟨Ic []⟩ 0),BE [] 0,F3 tx tc] (.seq ⟨Ic tx.reverse⟩ tx.length)) (fun q=>rfl) (Cz ..) rfl rfl (fun q=>rfl) (fun q=>rfl) L
end
section
open PySem PySem.W PySem.W.X
def Kr(X:SX)(m:Nat):Nat:=match X.T.get m with
 | some (_,o)=>match o.data with
  | .cell (some v)=>Hq v
  | _=>0
 | none=>0
def cA(P:zp)(tx:zl)(DL:zu):A8:=Cm (fun q=>none) [3,4,5,1] [false,true,false,false] [] (fun X=>Zg (Jy P (A4 X 3) (A4 X 4) (A4 X 5) (A4 X 1) (A4 X 0)) P (A4 X 3) (A4 X 4) (A4 X 5) (A4 X 1) tx (Kr X 1) [Bv ((tx.length:Int)-1) tx.length (-1),A0 (.seq #[] 0),BE [] 0,F3 tx (Kr X 1)] DL)
theorem Tf{w:zt}{b b2:Bool}{tx:zl}{DL:zu}{I:zd}{St:zc}(hs:tx.length≤sizeLine)(h0:tx≠[])(hL:DL=.seq ⟨Ic tx.reverse⟩ tx.length):(cA w.2 tx DL).qB pw (wf w b b2) (A5 w.2) ⟨11,St⟩ I I:=
 Ab (w:=wf w b b2) (fun X=>by rw [hL]; exact N5 w b b2 (A4 X 3) (A4 X 4) (A4 X 5) (A4 X 1) (A4 X 0) tx (Kr X 1) hs h0 I) (CO (by rfl)) (by decide) (fun q=>⟨rfl,rfl,fun q=>rfl⟩) (fun q q=>rfl)
theorem Pf(l:zl):Builtin.Str.glued ⟨⟨[]⟩⟩ (l.map (fun c=>(⟨⟨[c]⟩⟩:Str)))=⟨⟨l⟩⟩:=by
 have key:∀ (l acc:zl),(l.map (fun c=>(⟨⟨[c]⟩⟩:Str))).foldl (fun acc p=>acc++(#[]:Array Nat)++p.cps) (⟨acc⟩:Array Nat)=⟨acc++l⟩:=by
  intro l
  induction l with
  | nil=>intro acc; simp
  | cons c l ih=>
   intro acc
   simp only [vu,yh]
   have:((⟨acc⟩:Array Nat)++(#[]:Array Nat)++(⟨[c]⟩:Array Nat))=⟨acc++[c]⟩:=by simp
   rw [this,ih]; simp
 cases l with
 | nil=>rfl
 | cons c l=>
  have:=key l [c]
  unfold Builtin.Str.glued
  show Str.mk _=_
  congr 1
theorem Ow(l:zl)(h:l.length≤sizeLine):Builtin.Str.tooLong ((l.map (fun c=>(⟨⟨[c]⟩⟩:Str))).toArray.foldl (· + ·.length+(⟨⟨[]⟩⟩:Str).length) 0)=false:=by
 have key:∀ (l:zl) (a:Nat),(l.map (fun c=>(⟨⟨[c]⟩⟩:Str))).foldl (· + ·.length+(⟨⟨[]⟩⟩:Str).length) a=a+l.length:=by
  intro l
  induction l with
  | nil=>intro a; rfl
  | cons c l ih=>
   intro a
   simp only [vu,yh,vr]
   rw [ih]
   show a+1+0+l.length=_
   lia
 unfold Builtin.Str.tooLong
 rw [List.foldl_toArray,key]
 simpa using h
theorem VO(l:zl):Ic l=(l.map (fun c=>(⟨⟨[c]⟩⟩:Str))).map (fun y=>.str y 0):=by simp [Ic]
theorem Rt(m:Nat):Builtin.Range.rangeSize (((m+1:Nat):Int)-1) (-1) (-1)=((m+1:Nat):Int):=by
 unfold Builtin.Range.rangeSize
 rw [w2 (by lia),wD (by lia),show (-(-1):Int)=1 from rfl,Int.ediv_one]
 lia
theorem XQ(m:Nat)(h:m+1≤sizeLine):(Builtin.Range.rangeFitsLong (((m+1:Nat):Int)-1)&&Builtin.Range.rangeFitsLong (-1)&&Builtin.Range.rangeFitsLong (-1)&&Builtin.Range.rangeFitsLong ((m+1:Nat):Int)&&(((m+1:Nat):Int)==0 || if (-1:Int) > 0 then Builtin.Range.rangeFitsLong (-1+(-1-1)) else Builtin.Range.rangeFitsLong (-1+(-1+1))))=true:=by
 have:=Gn
 unfold Builtin.Range.rangeFitsLong
 simp
 lia
noncomputable def tf(P:zp)(y:Nat)(ys:zl)(DL:zu):Spec:=⟨.call (.ref 916) ⟨[.str ⟨⟨y::ys⟩⟩ 0],[]⟩,[],[],fun A=>.fin (.done (.ret (.str ⟨⟨(y::ys).reverse⟩⟩ 0))),fun A=>[],fun A=>[]⟩
theorem X7{St:zc}(w:zt)(b b2:Bool)(y:Nat)(ys:zl)(DL:zu)(hs:ys.length+1≤sizeLine)(hL:DL=.seq ⟨Ic (y::ys).reverse⟩ (y::ys).length)(I:zd):(tf w.2 y ys DL).PI w b b2 11 St I:=by
 refine G8 (fun D=>tf w.2 y ys DL) (fun D l=>tf w.2 y ys (ud l 1 2)) (fun D=>[fun z=>Md ⟨⟨y::ys⟩⟩,fun z=>bZ 2 (((ys.length+1:Nat):Int)-1) (-1) (-1) ((ys.length+1:Nat):Int),fun z=>cA w.2 (y::ys) DL,fun l=>Ld ⟨⟨[]⟩⟩ 4 (ud l 0 2) (y::ys).reverse]) 4 [] [] (fun z=>(hD 8 18 15430232035033232)) (fun z=>0) (fun z=>[6,0,0]) 1 [] (fun E0 ke=>?_)
 refine .q (EH (by show ys.length+1 < 2 ^ 62; have:=Gn; lia)) fun z z z=>.cons (TG (Rt _) (XQ _ hs)) fun z z z=>.cons (Tf (by simpa using hs) (by simp) hL) fun u2 z g2=>?_
 obtain rfl:eD (u2.d 2)=DL:=g2.1.1
 exact .q (GN (ys:=(y::ys).reverse.map (fun c=>(⟨⟨[c]⟩⟩:Str))) (n:=(y::ys).length) (by (try simp only [un,ud,CI]); rw [hL,VO]) (Pf _) (Ow _ (by simpa using hs)) (by simpa using hs)) fun z z z=>.pO ke rfl
end
section
open PySem PySem.W PySem.W.X PyProof.Rows
section
noncomputable def AV(l:Nat)(i:Int):Obj:={ cls:=.type "list_iterator",data:=.fields #[.ref l,.int i 0] }
noncomputable def Bn(i:Int):Obj:={ cls:=.type "list_iterator",data:=.fields #[.none,.int i 0] }
noncomputable def RH(l:Nat)(i:Int):Obj:={ cls:=.type "tuple_iterator",data:=.fields #[.ref l,.int i 0] }
noncomputable def a7(i:Int):Obj:={ cls:=.type "tuple_iterator",data:=.fields #[.none,.int i 0] }
noncomputable def QU(args:Nat):Obj:={ cls:=.type "StopIteration",data:=.fields #[.ref args,.none,.none,.none,.bool false,.none] }
noncomputable def FP:Obj:={ cls:=.type "tuple",data:=.seq #[] 0 }
theorem WW{q:Dr}{o:Obj}(h:CG o.cls=false)(hs:o.slots=#[]):dO q o=⟨o.cls,o.dict,dD (fun i=>q.1 (2*i)) o.data,#[]⟩:=by
 obtain ⟨c,d,dt,z⟩:=o
 dsimp only at h hs
 subst hs
 show (⟨c,d,_,bif CG c then q.2 else _⟩:Obj)=_
 rw [h]; rfl
theorem Fs{o:Obj}{T:String}{l:Nat}{i:Int}(h:eO o = { cls:=.type T,data:=.fields #[.ref l,.int i 0] })(hT:CG (.type T)=false:=by first | rfl | (cases k<;>rfl) | (cases q<;>rfl)):∃ t,o = { cls:=.type T,dict:=none,data:=.fields #[.ref l,.int i t],slots:=#[] }:=by
 obtain ⟨q,e⟩:=BY o
 rw [h] at e
 subst e
 exact ⟨_,WW hT rfl⟩
section
variable{w:zt}{D:zu}{vs:zf}{n:Nat}{v:zq}{I:zd}
def fM(id:String)(it l:Nat)(O O':Obj)(X:Obj):Spec:=⟨.call (.builtin id) ⟨[.ref it],[]⟩,[it,l],[O,X],fun A=>.err (.ref (A 1)),fun q=>[O',X],fun A=>[FP,QU (A 0)]⟩
theorem Cb{kt:KT}{s:zr}{q r:Nat×Obj}{P:Lp}(H:BA kt s (q::r::P)):∃ o,s.heap.get? r.1=some o∧eO o=r.2:=H.own r (.tail _ (.head _))
noncomputable def ck(k:Bool):String:=bif k then "list_iterator" else "tuple_iterator"
noncomputable def cm(k:Bool):String:=bif k then "list_iterator.__next__" else "tuple_iterator.__next__"
noncomputable def mR(k:Bool):String:=bif k then "list" else "tuple"
def cj(k:Bool)(l:Nat)(i:Int):Obj:={ cls:=.type (ck k),data:=.fields #[.ref l,.int i 0] }
def nV(k:Bool)(i:Int):Obj:={ cls:=.type (ck k),data:=.fields #[.none,.int i 0] }
def aV:Bool→zu→Obj
 | true=>A0
 | false=>AG
theorem Pu{k:Bool}{o:Obj}{vs:zf}{n:Nat}(h:eO o=aV k (.seq ⟨vs⟩ n)):∃ xs:Array zq,o = { cls:=.type (mR k),dict:=none,data:=.seq xs n,slots:=#[] }∧xs.toList.map eV=vs:=by
 cases k
 ·exact Cd h
 ·exact Ai h
theorem MT{k:Bool}{A:Around}{s:zr}{Q E:zq→zr→Prop}{it l i t n:Nat}{xs:Array zq}{y:zq}(ho:s.heap.get? it=some { cls:=.type (ck k),dict:=none,data:=.fields #[.ref l,.int (i:Int) t],slots:=#[] })(rA:s.heap.get? l=some { cls:=.type (mR k),dict:=none,data:=.seq xs n,slots:=#[] })(hy:xs[i]?=some y)
  (hq:Q y { s with heap:=s.heap.update it (Obj.mapFields (·.setIfInBounds 1 (rawInt ((i:Int)+1)))) }):wpAny (model pw w) A (call (.builtin (cm k)) [.ref it]) Q E s:=by
 cases k
 refine wF F.slot_tuple_iterator_next ⟨_,ho,rfl⟩ F.entry_tuple_iterator_next ?_ (F.args_tuple_iterator_next_1 _)
 rotate_left
 refine wF yJ ⟨_,ho,rfl⟩ ye ?_ (args_listiter_next _)
 all_goals
  show wpAny _ _ (field (.ref it) 0>>=_) _ _ s
  refine vi (xi ho rfl (x:=.ref l) rfl ?_)
  show wpAny _ _ (if (Value.ref l==Value.none)=true then _ else _) _ _ s
  rw [w2 (show ¬ ((Value.ref l==Value.none)=true) from wX)]
  show wpAny _ _ (field (.ref it) 1>>=_) _ _ s
  refine vi (xi ho rfl (x:=.int i t) rfl ?_)
  show wpAny _ _ (seqItems? (.ref l)>>=_) _ _ s
  refine vi (yX rA rfl ?_)
  simp only [yQ,hy]
  exact vi (xx ho rfl (by simp) (vx ⟨y,rfl,hq⟩))
theorem G4{A:Around}{s1:zr}{L1:Lp}{Q E:zq→zr→Prop}(hh:A.in1.handled=none)(H1:BA (A5 w.2) s1 L1)
  (he:∀ k s2,BA (A5 w.2) s2 ((k+1,QU k)::(k,FP)::L1)→Fr s1 s2 L1 ((k+1,QU k)::(k,FP)::L1)→E (.ref (k+1)) s2) :
  wpAny (model pw w) A.in1 (Builtin.SmallTypes.stopIteration:Sem Fin) (fun fin s'=>∃ v,fin=.done (.ret v)∧Q v s') E s1:=by
 show wpAny _ _ (newExc (.type "StopIteration") []>>=_) _ _ _
 refine vi ?_
 simp only [newExc,newTuple]
 refine vi (yA ?_ (by size_fits))
 refine vi (m:=firstArgMember _ _) (wpAny_of_eq (a:=Value.none) (by first | rfl | (simp only [firstArgMember]; rfl)) ?_)
 refine yA ?_ (by size_fits)
 simp only [raiseNew]
 refine vi (wpAny_handled ?_)
 rw [hh]
 refine vi (vx (wpAny_throw ?_))
 have U1:=Gb (o:={ cls:=.type "tuple",dict:=none,data:=.seq #[] 0,slots:=#[] }) (tk:=s1.toks) H1 rfl
 have U2:=Gb (o:={ cls:=.type "StopIteration",dict:=none,data:=.fields #[.ref s1.heap.objs.size,.none,.none,.none,.bool false,.none],slots:=#[] }) (tk:=s1.toks) U1.1 rfl
 have e:(s1.heap.push { cls:=.type "tuple",dict:=none,data:=.seq #[] 0,slots:=#[] }).objs.size=s1.heap.objs.size+1:=zF ..
 simp only [e] at U2 ⊢
 exact he _ _ U2.1 (U1.2.trans (by simp [zF]) U2.2)
theorem Dc{id:String}{it l k:Nat}{O O' X:Obj}{P:Lp}:((k+1,QU k)::(k,FP)::(it,O')::(l,X)::P).Perm ((fM id it l O O' X).pV (fun j=>if j=0 then k else k+1)++P):=by
 show ([(k+1,QU k)]++([(k,FP)]++([(it,O'),(l,X)]++P))).Perm (([(it,O'),(l,X)]++[(k,FP),(k+1,QU k)])++P)
 rw [← vj,← vj]
 refine xA P ?_
 refine wJ.trans ?_
 refine vy _ ?_
 exact List.Perm.swap _ _ _
theorem J'{k:Bool}(it l i:Nat)(hD:D=.seq ⟨vs⟩ n)(hv:vs[i]?=none)(Sf:Pos→ze→Prop)(hS:∀ pc pN,Sf pc pN→Eh pc pN):(fM (cm k) it l (cj k l i) (nV k i) (aV k D)).pP w Sf I I:=by
 subst hD
 intro P hI
 refine Eb hS fun c A s L hL hc H hh t4 Q E hq he=>?_
 obtain ⟨ps,rfl,ha⟩:=Ak hc
 obtain rfl:=D9 ha
 subst hL
 have H':BA (A5 w.2) s ((it,cj k l i)::(l,aV k (.seq ⟨vs⟩ n))::P):=H
 obtain ⟨o,ho,hO⟩:=H'.find
 obtain ⟨ol,rA,hOl⟩:=Cb H'
 obtain ⟨t,rfl⟩:=Fs hO
 obtain ⟨xs,rfl,hx⟩:=Pu hOl
 have hy:=Iy hx hv
 show wpAny _ _ (call (.builtin (cm k)) [.ref it]) _ _ s
 rw [← hO] at H'
 have U:=Bd (f:=Obj.mapFields (·.setIfInBounds 0 .none)) (tk:=s.toks) H' ho (o':={ cls:=.type (ck k),dict:=none,data:=.fields #[.none,.int i t],slots:=#[] }) rfl rfl
 rw [hO] at U
 cases k
 refine wF F.slot_tuple_iterator_next ⟨_,ho,rfl⟩ F.entry_tuple_iterator_next ?_ (F.args_tuple_iterator_next_1 _)
 rotate_left
 refine wF yJ ⟨_,ho,rfl⟩ ye ?_ (args_listiter_next _)
 all_goals
  show wpAny _ _ (field (.ref it) 0>>=_) _ _ s
  refine vi (xi ho rfl (x:=.ref l) rfl ?_)
  show wpAny _ _ (if (Value.ref l==Value.none)=true then _ else _) _ _ s
  rw [w2 (show ¬ ((Value.ref l==Value.none)=true) from wX)]
  show wpAny _ _ (field (.ref it) 1>>=_) _ _ s
  refine vi (xi ho rfl (x:=.int i t) rfl ?_)
  show wpAny _ _ (seqItems? (.ref l)>>=_) _ _ s
  refine vi (yX rA rfl ?_)
  simp only [yQ,hy]
  refine vi (wpAny_rule (vi (xx ho rfl (by simp) ?_)))
  refine G4 t4 U.1 fun k s2 H2 F2=>?_
  exact he _ _ _ ⟨fun j=>if j=0 then k else k+1,P,hI,fun q m=>m,rfl,rfl⟩ (H2.perm (Dc ..)) ((U.2.trans (wx (xM ..).1.symm) F2).perm (Dc ..))
end
end
section
def Bt(D:zu):Obj:={ cls:=.type "set",data:=D }
def eT(z:Int×zq):Int×zq:=(z.1,eV z.2)
def C5(w:zt)(S:zj)(D:zu):Prop:=∃ (es:Array (Int×zq)) (ep:Nat) (t:SetTable),D=.set es ep t∧(∀ e∈es.toList,∃ x,e=(hashStr w x,.str x 0))∧(∀ x,x∈S↔∃ e∈es.toList,e.2=.str x 0)∧t.fits es.size=true∧es.size≤S.length
theorem M8{o:Obj}{es:Array (Int×zq)}{ep:Nat}{t:SetTable}(h:eO o=Bt (.set es ep t)):∃ rC:Array (Int×zq),o = { cls:=.type "set",dict:=none,data:=.set rC ep t,slots:=#[] }∧rC.toList.map eT=es.toList:=by
 obtain ⟨q,e⟩:=BY o
 rw [h] at e
 subst e
 exact ⟨_,rfl,vm (fun o:Obj=>match o.data with | .set es _ _=>es.toList | _=>[]) h⟩
theorem Bk{w:zt}(x:Str)(t:Nat):(PySem.strKind pw w).is x (.str x t)=true:=by show (x==x)=true; simp
theorem Iw{w:zt}{S:zj}{h:Heap}{a:Nat}{es rC:Array (Int×zq)}{ep:Nat}{t:SetTable}(ho:h.get? a=some { cls:=.type "set",dict:=none,data:=.set rC ep t,slots:=#[] })(he:rC.toList.map eT=es.toList)
  (h1:∀ e∈es.toList,∃ x,e=(hashStr w x,.str x 0)) (h2:∀ x,x∈S↔∃ e∈es.toList,e.2=.str x 0) (h3:t.fits es.size=true) (h4:es.size≤S.length) (hs:S.length+1 < scanBound):h.SetOf (PySem.strKind pw w) a (fun k=>decide (k∈S)) es.size:=by
 have sz:rC.size=es.size:=by
  have:=vm List.length he
  simpa using this
 have elem:∀ e∈rC.toList,∃ x t,e=(hashStr w x,.str x t):=by
  intro e m
  obtain ⟨x,hx⟩:=h1 (eT e) (by rw [← he]; exact vo m)
  obtain ⟨t,ht⟩:=AX (vm Prod.snd hx)
  exact ⟨x,t,by obtain ⟨h0,v0⟩:=e; have h5:h0=hashStr w x:=vm Prod.fst hx; have h6:v0=.str x t:=ht; rw [h5,h6]⟩
 refine ⟨_,rC,ep,t,ho,⟨rfl,rfl,rfl⟩,rfl,fun e m=>?_,fun k=>?_,by lia,by rw [sz]; exact h3,sz⟩
 ·obtain ⟨x,t,rfl⟩:=elem e m
  exact ⟨⟨x,Bk x t,rfl⟩,rfl⟩
 ·rw [yq,h2]
  constructor
  ·rintro ⟨e,m,hk⟩
   rw [← he] at m
   obtain ⟨e',m',rfl⟩:=wC.mp m
   obtain ⟨t,ht⟩:=AX hk
   exact ⟨e',m',by rw [ht]; exact Bk _ _⟩
  ·rintro ⟨e,m,hk⟩
   obtain ⟨x,t,rfl⟩:=elem e m
   have:k=x:=Eq.symm (by have h7:Value.isStrOf k (.str x t)=true:=hk; simpa [Value.isStrOf,Value.isStr] using h7)
   subst this
   exact ⟨_,by rw [← he]; exact vo m,rfl⟩
section
variable{w:zt}{D:zu}{S:zj}{x:Str}{I:zd}
theorem Nn{b:Bool}(a:Nat)(hD:C5 w S D)(hb:decide (x∈S)=b)(hs:S.length+1 < scanBound):Vd w (.builtin "set.__contains__") [.ref a,.str x 0] a (Bt D) (.bool b):=by
 obtain ⟨es,ep,t,rfl,h1,h2,h3,h4⟩:=hD
 intro ps A s P o ha H ho hO Q E hq
 obtain ⟨tk,rfl⟩:=D8 ha
 obtain ⟨rC,rfl,he⟩:=M8 hO
 have hS:=Iw ho he h1 h2 h3 h4 hs
 have hkey:(PySem.strKind pw w).is x (.str x tk)=true:=Bk x tk
 refine wF F.slot_set_contains hS.typeIs entry_set_contains ?_ (F.args_set_contains_2 _ _)
 unfold Builtin.«frozenset.__contains__» Builtin.Frozenset.oneOther
 simp only [List.isEmpty_nil,bind_assoc]
 unfold Builtin.Frozenset.addrOf Builtin.Frozenset.withSetAsKey setContains
 refine vi (vx ?_)
 try dsimp only
 refine vi (vx ?_)
 try dsimp only
 refine vi (wpAny_tryCatch ?_)
 refine xn ?_
 refine vi ((PySem.strKind pw w).pyHash hkey ?_)
 refine vi (wpAny_setFind_of (s:={ s with toks:=s.toks+1 }) hkey rfl hS fun r hr=>?_)
 refine vx ?_
 show wpAny _ _ (ret (Value.bool r.isSome)) _ _ _
 rw [hr,hb]
 exact vx ⟨_,rfl,hq _ _ rfl⟩
theorem DP{a:Nat}{h h':Heap}(H:Heap.SameBut a h h'){b:Nat}{o:Obj}(hb:b≠a)(e:h.get? b=some o):h'.get? b=some o:=(H.2 b hb).trans e
theorem Go.life{p:zv}{s s':zr}{t t':Thread}(h:Go p w s t s' t'):s'.heap.life=s.heap.life:=by
 exact Go.ind (P:=fun s q=>s'.heap.life=s.heap.life) rfl (fun q q q q e ih=>ih.trans (FC e).2) h
structure fv(s s':zr)(L L':Lp):Prop where
 gens:s'.gens=s.gens
 drawn:s'.drawn=s.drawn
 os:s'.os=s.os
 old:∀ b o,s.heap.get? b=some o→b∉L.map (·.1)→s'.heap.get? b=some o
 new:∀ q∈L',q.1∈L.map (·.1)∨s.heap.objs.size≤q.1
theorem MJ{f:zq}{as:zf}{Pre:zd}{pQ:End→Lp→Prop}
  (h:∀ (vs:zf) (A:Around) (s:zr) (L:Lp),Pre L→vs.map eV=as→BA (A5 w.2) s L→∀ (Q E:zq→zr→Prop),(∀ v s' L',pQ (.fin (.done (.ret (eV v)))) L'→BA (A5 w.2) s' L'→fv s s' L L'→Q v s')→wpAny (model pw w) A (call f vs) Q E s):DZ w Eh (.call f ⟨as,[]⟩) Pre pQ:=by
 intro c s pc pN L hp hc H hs
 obtain ⟨vs,rfl,e⟩:=Ak hc
 obtain ⟨_,k,g,l,cd,rest,rfl⟩:=hs
 exact CQ (c:=.call f ⟨vs,[]⟩) (h vs (QD cd rest) s L hp e H (fun v s'=>∃ L',pQ (.fin (.done (.ret (eV v)))) L'∧BA (A5 w.2) s' L'∧fv s s' L L') (fun q q=>False) fun v s' L' a b c=>⟨L',a,b,c⟩) (fun v s' _ _ ⟨L',a,b,c⟩ go=>⟨.fin (.done (.ret v)),s',L',_,_,go,a,b,go.life,c.gens,c.drawn,c.os,c.old,c.new⟩) (fun q q q q h=>h.elim)
theorem Uk{kt:KT}{s:zr}{h':Heap}{a:Nat}{O:Obj}{o':Obj}{F:Lp}{tk:Nat}(H:BA kt s ((a,O)::F))(hs:Heap.SameBut a s.heap h')(ho:h'.get? a=some o') :
  BA kt { s with heap:=h',toks:=tk } ((a,eO o')::F)∧fv s { s with heap:=h',toks:=tk } ((a,O)::F) ((a,eO o')::F):=by
 have nd:=H.nd
 rw [vu,wZ] at nd
 have ne:∀ q∈F,q.1≠a:=fun q m e=>nd.1 (wC.mpr ⟨q,m,e⟩)
 refine ⟨⟨fun b ob h=>?_,fun q m=>?_,H.nd,fun q m=>?_⟩,rfl,rfl,rfl,fun b ob h n=>?_,fun q m=>?_⟩
 ·have:b≠a:=fun e=>by
   have:=H.off (a,O) (.head _)
   dsimp only at this
   rw [← e,h] at this; cases this
  exact DP hs this (H.top b ob h)
 ·rcases wK.mp m with rfl | m
  ·exact ⟨o',ho,rfl⟩
  ·obtain ⟨ob,h1,h2⟩:=H.own q (.tail _ m)
   exact ⟨ob,DP hs (ne q m) h1,h2⟩
 ·rcases wK.mp m with rfl | m
  ·exact H.off (a,O) (.head _)
  ·exact H.off q (.tail _ m)
 ·exact DP hs (fun e=>n (by rw [e]; exact .head _)) h
 ·rcases wK.mp m with rfl | m
  ·exact .inl (.head _)
  ·exact .inl (.tail _ (vo m))
def VV(a:Nat)(x:Str)(D:zu)(z:zu):Spec:=C3 (.call (.builtin "set.add") ⟨[.ref a,.str x 0],[]⟩) a (Bt D) (Bt z) .none
theorem Rc{h:Heap}{a:Nat}{S:zj}{x:Str}{m:Nat}(hS:h.SetOf (PySem.strKind pw w) a (fun k'=>decide (k'∈S) || decide (k'=x)) m)(hm:m≤S.length+1):∃ o,h.get? a=some o∧∃ z,C5 w (x::S) z∧eO o=Bt z:=by
 obtain ⟨o,es,ep,t,ho,⟨c1,c2,c3⟩,hd,hel,hmem,hb,hf,hn⟩:=hS
 obtain ⟨c,d,dt,sl⟩:=o
 dsimp only at c1 c2 c3 hd
 subst c1 c2 c3 hd
 refine ⟨_,ho,.set ⟨es.toList.map eT⟩ ep t,⟨⟨es.toList.map eT⟩,ep,t,rfl,?_,?_,?_,?_⟩,rfl⟩
 ·intro e m
  obtain ⟨e',m',rfl⟩:=wC.mp m
  obtain ⟨⟨k,hk,hh⟩,_⟩:=hel e' m'
  obtain ⟨t,ht⟩:=Value.isStrOf_shape hk
  exact ⟨k,by unfold eT; rw [hh,ht]; rfl⟩
 ·intro y
  have hy:=hmem y
  rw [zZ,yq,yq] at hy
  rw [wK]
  constructor
  ·intro h1
   obtain ⟨e,m,hk⟩:=hy.mp (h1.elim .inr .inl)
   obtain ⟨t,ht⟩:=Value.isStrOf_shape hk
   exact ⟨eT e,vo m,by unfold eT; rw [ht]; rfl⟩
  ·rintro ⟨e,m,hk⟩
   obtain ⟨e',m',rfl⟩:=wC.mp m
   obtain ⟨t,ht⟩:=AX (v:=e'.2) hk
   exact (hy.mpr ⟨e',m',by rw [ht]; exact Bk _ _⟩).elim .inr .inl
 ·simpa using hf
 ·simp only [List.size_toArray,vh,yd,vr]; lia
theorem Np(a:Nat)(hD:C5 w S D)(hx:x∉S)(hs:S.length+1 < scanBound):Spec.px (VV a x D) (fun z q=>C5 w (x::S) z) (VV a x D .plain) w Eh I I:=by
 obtain ⟨es,ep,t,rfl,h1,h2,h3,h4⟩:=hD
 intro P hI
 refine MJ fun as A s L hL ha H Q E hq=>?_
 subst hL
 obtain ⟨tk,rfl⟩:=D8 ha
 have H':BA (A5 w.2) s ((a,Bt (.set es ep t))::P):=H
 obtain ⟨o,ho,hO⟩:=H'.find
 obtain ⟨rC,rfl,he⟩:=M8 hO
 have hS:=Iw ho he h1 h2 h3 h4 hs
 have hkey:(PySem.strKind pw w).is x (.str x tk)=true:=Bk x tk
 refine call_set_add hkey rfl hS (by lia) fun h' ug uT=>?_
 have hxS:decide (x∈S)=false:=by simpa using hx
 rw [hxS] at uT
 obtain ⟨o',sZ,z,hz,qz⟩:=Rc uT (by simp; lia)
 have U:=Uk (tk:=s.toks+1) H' ug sZ
 rw [qz] at U
 exact hq .none _ _ ⟨z,fun q=>0,P,hz,hI,fun q m=>m,rfl,rfl⟩ U.1 U.2
end
end
section
theorem Jc{o:Obj}{T:String}{l:Nat}{i a b:Int}(h:eO o = { cls:=.type T,data:=.fields #[.ref l,.int i 0,.int a 0,.int b 0] })(hT:CG (.type T)=false:=by first | rfl | (cases k<;>rfl) | (cases q<;>rfl)):∃ t u v,o = { cls:=.type T,dict:=none,data:=.fields #[.ref l,.int i t,.int a u,.int b v],slots:=#[] }:=by
 obtain ⟨q,e⟩:=BY o
 rw [h] at e
 subst e
 exact ⟨_,_,_,WW hT rfl⟩
section
variable{w:zt}{D:zu}{N:List (Str×zq)}{n:Nat}{x:Str}{v:zq}{I:zd}
noncomputable def ZH(k:Bool):String:=bif k then "dict_keyiterator" else "dict_valueiterator"
noncomputable def dI(k:Bool):String:=bif k then "dict_keyiterator.__next__" else "dict_valueiterator.__next__"
def ZI(k:Bool)(d:Nat)(i:Int)(len ep:Nat):Obj:={ cls:=.type (ZH k),data:=.fields #[.ref d,.int i 0,.int len 0,.int ep 0] }
def dJ(k:Bool)(i:Int)(len ep:Nat):Obj:={ cls:=.type (ZH k),data:=.fields #[.none,.int i 0,.int len 0,.int ep 0] }
noncomputable def lg:Bool→Str→zq→zq
 | true,x,_=>.str x 0
 | false,_,v=>v
def Cg:=ZI true
def Je:=dJ true
def C2:=ZI false
def Jd:=dJ false
theorem Pq{N:List (Str×zq)}{es:Array DictEntry}{i:Nat}(he:es.toList.map CN=N.map (Cn w.2))(h:i < es.size):∃ x v,N[i]?=some (x,v)∧CN es[i]=Cn w.2 (x,v):=by
 have h1:(es.toList.map CN)[i]?=(N.map (Cn w.2))[i]?:=by rw [he]
 rw [wI,wI,Array.getElem?_toList,xE h] at h1
 cases q:N[i]? with
 | none=>rw [q] at h1; cases h1
 | some z=>rw [q] at h1; exact ⟨z.1,z.2,rfl,x8 h1⟩
theorem WV{k:Bool}{A:Around}{s:zr}{Q E:zq→zr→Prop}{it l i t1 t2 t3:Nat}{es:Array DictEntry}(ho:s.heap.get? it=some { cls:=.type (ZH k),dict:=none,data:=.fields #[.ref l,.int (i:Int) t1,.int N.length t2,.int n t3],slots:=#[] })(rA:s.heap.get? l=some { cls:=.type "dict",dict:=none,data:=.dict es n,slots:=#[] })(he:es.toList.map CN=N.map (Cn w.2))
  (hq:∀ x v y,N[i]?=some (x,v)→eV y=lg k x v→Q y { s with heap:=s.heap.update it (Obj.mapFields (·.setIfInBounds 1 (rawInt ((i:Int)+1)))) }) (hs:N.length≤i→wpAny (model pw w) A.in1 (Builtin.SmallTypes.stopIteration:Sem Fin) (fun fin s'=>∃ v,fin=.done (.ret v)∧Q v s') E { s with heap:=s.heap.update it (Obj.mapFields (·.setIfInBounds 0 .none)) }):wpAny (model pw w) A (call (.builtin (dI k)) [.ref it]) Q E s:=by
 have hsz:es.size=N.length:=by
  have:=vm List.length he
  rwa [vh,vh] at this
 cases k
 refine wF F.slot_dict_valueiterator_next ⟨_,ho,rfl⟩ F.entry_dict_valueiterator_next ?_ (F.args_dict_valueiterator_next_1 _)
 rotate_left
 refine wF F.slot_dict_keyiterator_next ⟨_,ho,rfl⟩ F.entry_dict_keyiterator_next ?_ (F.args_dict_keyiterator_next_1 _)
 all_goals
  refine vi (vx ?_)
  refine vi ?_
  refine vi ?_
  first | refine vi (xR ⟨_,ho,rfl⟩ (vx ?_)) | refine vi (xf ⟨_,ho,rfl⟩ (vx ?_)) | refine vi (xU ⟨_,ho,rfl⟩ (vx ?_)) | refine vi (xg ⟨_,ho,rfl⟩ (vx ?_))
  refine vi (wpAny_fieldsOf ho rfl ?_)
  first | rw [w2 (show ¬ (Builtin.Dict_items.ownsTuple "dict_keyiterator"=true) by decide)] | rw [w2 (show ¬ (Builtin.Dict_items.ownsTuple "dict_valueiterator"=true) by decide)]
  show wpAny _ _ (if (Value.ref l==Value.none)=true then _ else _) _ _ s
  rw [w2 (show ¬ ((Value.ref l==Value.none)=true) from wX)]
  refine vi (vx ?_)
  refine vi (yP rA rfl ?_)
  dsimp only
  rw [w2 (by rw [hsz]; simp)]
  refine vi (vx ?_)
  refine vi (wpAny_dictEpoch rA rfl ?_)
  rw [w2 (by simp)]
  refine vx ?_
  dsimp only
  rw [w2 (Int.not_lt.mpr (zJ i)),yQ]
  rcases Nat.lt_or_ge i N.length with hlt | hge
 ·have hlt':i < es.size:=hsz ▸ hlt
  rw [xE hlt']
  refine vi ?_
  first | refine vi (xR ⟨_,ho,rfl⟩ (vx ?_)) | refine vi (xf ⟨_,ho,rfl⟩ (vx ?_)) | refine vi (xU ⟨_,ho,rfl⟩ (vx ?_)) | refine vi (xg ⟨_,ho,rfl⟩ (vx ?_))
  first | refine vi (yv ⟨_,ho,rfl⟩ ?_) | refine vi (yO ⟨_,ho,rfl⟩ ?_)
  show wpAny _ _ (setField (.ref it) 1 (rawInt ((i:Int)+1))>>=_) _ _ s
  refine vi (xx ho rfl (by simp) ?_)
  refine vi (xn ?_)
  refine vi (yv (s:={ s with heap:=s.heap.update it (Obj.mapFields (·.setIfInBounds 1 (rawInt ((i:Int)+1)))) }) ⟨_,xV _ ho rfl,rfl⟩ ?_)
  obtain ⟨x,v,e1,e2⟩:=Pq he hlt'
  exact vx (vx ⟨_,rfl,hq x v es[i].key e1 (vm DictEntry.key e2)⟩)
 ·rw [Array.getElem?_eq_none (hsz ▸ hge)]
  refine vi ?_
  first | refine vi (xR ⟨_,ho,rfl⟩ (vx ?_)) | refine vi (xf ⟨_,ho,rfl⟩ (vx ?_)) | refine vi (xU ⟨_,ho,rfl⟩ (vx ?_)) | refine vi (xg ⟨_,ho,rfl⟩ (vx ?_))
  show wpAny _ _ (setField (.ref it) 0 .none>>=_) _ _ s
  refine vi (xx ho rfl (by simp) ?_)
  exact hs hge
 ·have hlt':i < es.size:=hsz ▸ hlt
  rw [xE hlt']
  refine vi ?_
  first | refine vi (xR ⟨_,ho,rfl⟩ (vx ?_)) | refine vi (xf ⟨_,ho,rfl⟩ (vx ?_)) | refine vi (xU ⟨_,ho,rfl⟩ (vx ?_)) | refine vi (xg ⟨_,ho,rfl⟩ (vx ?_))
  first | refine vi (yv ⟨_,ho,rfl⟩ ?_) | refine vi (yO ⟨_,ho,rfl⟩ ?_)
  show wpAny _ _ (setField (.ref it) 1 (rawInt ((i:Int)+1))>>=_) _ _ s
  refine vi (xx ho rfl (by simp) ?_)
  refine vi (xn ?_)
  refine vi (yO (s:={ s with heap:=s.heap.update it (Obj.mapFields (·.setIfInBounds 1 (rawInt ((i:Int)+1)))) }) ⟨_,xV _ ho rfl,rfl⟩ ?_)
  refine vi (yO (s:={ s with heap:=s.heap.update it (Obj.mapFields (·.setIfInBounds 1 (rawInt ((i:Int)+1)))) }) ⟨_,xV _ ho rfl,rfl⟩ ?_)
  obtain ⟨x,v,e1,e2⟩:=Pq he hlt'
  exact vx (vx ⟨_,rfl,hq x v es[i].val e1 (vm DictEntry.val e2)⟩)
 ·rw [Array.getElem?_eq_none (hsz ▸ hge)]
  refine vi ?_
  first | refine vi (xR ⟨_,ho,rfl⟩ (vx ?_)) | refine vi (xf ⟨_,ho,rfl⟩ (vx ?_)) | refine vi (xU ⟨_,ho,rfl⟩ (vx ?_)) | refine vi (xg ⟨_,ho,rfl⟩ (vx ?_))
  show wpAny _ _ (setField (.ref it) 0 .none>>=_) _ _ s
  refine vi (xx ho rfl (by simp) ?_)
  exact hs hge
theorem My{k:Bool}{A:Around}{s:zr}{Q E:zq→zr→Prop}{it l i t1 t2 t3:Nat}{es:Array DictEntry}(ho:s.heap.get? it=some { cls:=.type (ZH k),dict:=none,data:=.fields #[.ref l,.int (i:Int) t1,.int N.length t2,.int n t3],slots:=#[] })(rA:s.heap.get? l=some { cls:=.type "dict",dict:=none,data:=.dict es n,slots:=#[] })(he:es.toList.map CN=N.map (Cn w.2))(hv:N[i]?=some (x,v))
  (hq:∀ y,eV y=lg k x v→Q y { s with heap:=s.heap.update it (Obj.mapFields (·.setIfInBounds 1 (rawInt ((i:Int)+1)))) }):wpAny (model pw w) A (call (.builtin (dI k)) [.ref it]) Q E s:=
 WV ho rA he (fun x' v' y h e=>hq y (by rw [hv] at h; cases h; exact e)) fun h=>absurd (wA.mp hv).1 (xK.mpr h)
theorem Kl{k:Bool}(it l i:Nat)(hD:D=A7 w.2 N n)(hv:N.length≤i)(Sf:Pos→ze→Prop)(hS:∀ pc pN,Sf pc pN→Eh pc pN):(fM (dI k) it l (ZI k l i N.length n) (dJ k i N.length n) (A6 D)).pP w Sf I I:=by
 subst hD
 intro P hI
 refine Eb hS fun c A s L hL hc H hh t4 Q E hq ux=>?_
 obtain ⟨ps,rfl,ha⟩:=Ak hc
 obtain rfl:=D9 ha
 subst hL
 have H':BA (A5 w.2) s ((it,ZI k l i N.length n)::(l,A6 (A7 w.2 N n))::P):=H
 obtain ⟨o,ho,hO⟩:=H'.find
 obtain ⟨ol,rA,hOl⟩:=Cb H'
 obtain ⟨t1,t2,t3,rfl⟩:=Jc hO
 obtain ⟨es,rfl,he⟩:=BQ hOl
 rw [← hO] at H'
 have U:=Bd (f:=Obj.mapFields (·.setIfInBounds 0 .none)) (tk:=s.toks) H' ho (o':={ cls:=.type (ZH k),dict:=none,data:=.fields #[.none,.int i t1,.int N.length t2,.int n t3],slots:=#[] }) rfl rfl
 rw [hO,show eO { cls:=.type (ZH k),dict:=none,data:=.fields #[.none,.int i t1,.int N.length t2,.int n t3],slots:=#[] } = dJ k i N.length n by cases k<;>rfl] at U
 refine WV ho rA he (fun x v y h q=>absurd (wA.mp h).1 (xK.mpr hv)) fun q=>G4 t4 U.1 fun k s2 H2 F2=>?_
 exact ux _ _ _ ⟨fun j=>if j=0 then k else k+1,P,hI,fun q m=>m,rfl,rfl⟩ (H2.perm (Dc ..)) ((U.2.trans (wx (xM ..).1.symm) F2).perm (Dc ..))
def mB(w:zt)(f:zq)(as:zf)(a:Nat)(O X:Obj):Prop:=
 ∀ (vs:zf) (A:Around) (s:zr) (P:Lp) (o:Obj),vs.map eV=as→BA (A5 w.2) s ((a,O)::P)→s.heap.get? a=some o→eO o=O→∀ (Q E:zq→zr→Prop),(∀ o' tk,eO o'=X→o'.isFreed=false→Q (.ref s.heap.objs.size) { s with heap:=s.heap.push o',toks:=tk })→wpAny (model pw w) A (call f vs) Q E s
noncomputable def V4(d:Nat):Obj:={ cls:=.type "dict_values",data:=.fields #[.ref d] }
theorem Jf(a:Nat)(hD:D=A7 w.2 N n):mB w (.builtin "dict.values") [.ref a] a (A6 D) (V4 a):=by
 subst hD
 intro ps A s P o ha H ho hO Q E hq
 obtain rfl:=D9 ha
 obtain ⟨es,rfl,he⟩:=BQ hO
 refine wF F.slot_dict_values ⟨_,ho,rfl⟩ F.entry_dict_values ?_ (F.args_dict_values_1 _)
 refine vi ?_
 unfold Builtin.Dict.noArgs
 refine vi (y4 ⟨_,ho,rfl⟩ ?_)
 show wpAny _ _ (pure a) _ _ s
 refine vx ?_
 show wpAny _ _ (Builtin.Dict.showsAll a>>=_) _ _ s
 unfold Builtin.Dict.showsAll
 rw [w2 (by rw [Fd H]; exact wX)]
 refine vi (vx ?_)
 exact vi (yA (vx ⟨_,rfl,hq { cls:=.type "dict_values",dict:=none,data:=.fields #[.ref a],slots:=#[] } s.toks rfl rfl⟩))
theorem Mz(a:Nat)(hD:D=A7 w.2 N n):mB w (.builtin "dict.__iter__") [.ref a] a (A6 D) (Cg a 0 N.length n):=by
 subst hD
 intro ps A s P o ha H ho hO Q E hq
 obtain rfl:=D9 ha
 obtain ⟨es,rfl,he⟩:=BQ hO
 have hsz:es.size=N.length:=by
  have:=vm List.length he
  simpa using this
 refine wF F.slot_dict_iter ⟨_,ho,rfl⟩ F.entry_dict_iter ?_ (F.args_dict_iter_1 _)
 unfold Builtin.«dict.__iter__»
 refine vi ?_
 unfold Builtin.Dict.dictSlotNone
 refine vi (y4 ⟨_,ho,rfl⟩ ?_)
 show wpAny _ _ (pure (Value.ref a)) _ _ s
 refine vx ?_
 show wpAny _ _ (Builtin.Dict.showsAll a>>=_) _ _ s
 unfold Builtin.Dict.showsAll
 rw [w2 (by rw [Fd H]; exact wX)]
 refine vi (vx ?_)
 refine vi (yP ho rfl ?_)
 refine vi (wpAny_dictEpoch ho rfl ?_)
 rw [hsz]
 exact vi (yA (vx ⟨_,rfl,hq { cls:=.type "dict_keyiterator",dict:=none,data:=.fields #[.ref a,.int 0 0,.int N.length 0,.int n 0],slots:=#[] } s.toks rfl rfl⟩))
theorem Z8{o:Obj}{a:Nat}(hO:eO o=V4 a):o = { cls:=.type "dict_values",dict:=none,data:=.fields #[.ref a],slots:=#[] }:=by
 obtain ⟨q,e⟩:=BY o
 rw [hO] at e
 subst e
 exact rfl
theorem Mx{A:Around}{s:zr}{Q E:zq→zr→Prop}{a b:Nat}{es:Array DictEntry}(ho:s.heap.get? b=some { cls:=.type "dict_values",dict:=none,data:=.fields #[.ref a],slots:=#[] })(rA:s.heap.get? a=some { cls:=.type "dict",dict:=none,data:=.dict es n,slots:=#[] })(he:es.toList.map CN=N.map (Cn w.2))
  (hq:Q (.ref s.heap.objs.size) { s with heap:=s.heap.push { cls:=.type "dict_valueiterator",dict:=none,data:=.fields #[.ref a,.int 0 0,.int N.length 0,.int n 0],slots:=#[] } }):wpAny (model pw w) A (call (.builtin "dict_values.__iter__") [.ref b]) Q E s:=by
 have hsz:es.size=N.length:=by
  have:=vm List.length he
  simpa using this
 refine wF F.slot_dict_values_iter ⟨_,ho,rfl⟩ F.entry_dict_values_iter ?_ (F.args_dict_values_iter_1 _)
 unfold Builtin.«dict_values.__iter__»
 refine vi (vx ?_)
 refine vi ?_
 unfold Builtin.Dict_items.dictOf
 refine vi (xi ho rfl (x:=.ref a) rfl (vx ?_))
 refine vi ?_
 unfold Builtin.Dict_items.newIterator
 refine vi (yP rA rfl ?_)
 refine vi (wpAny_dictEpoch rA rfl ?_)
 have hown:Builtin.Dict_items.ownsTuple "dict_valueiterator"=false:=by decide
 simp only [hown,yI,yz]
 rw [hsz]
 exact yA (vx ⟨_,rfl,hq⟩)
end
end
section
theorem TT.qi:∀ (T:TT) (j a:Nat) (o:Obj) (f:Obj→Obj),T.get j=some (a,o)→T.set j f=T.set j (fun q=>f o)
 | .nil,j,a,o,f,h=>by cases h
 | .node b v l r,j,a,o,f,h=>by
  rw [get_node] at h
  rw [G5,G5]
  by_cases h0:j=0
  ·subst h0
   simp only [zB,wu,xd] at h ⊢
   rw [h.2]
  ·rw [w2 h0] at h ⊢
   rw [w2 h0]
   by_cases p:j % 2=1
   ·rw [wD p] at h ⊢
    rw [wD p,qi l _ _ _ _ h]
   ·rw [w2 p] at h ⊢
    rw [w2 p,qi r _ _ _ _ h]
def Aw(u:U)(fl:Bool)(O:Obj):Obj:=match fl with
 | true=>⟨O.cls,O.dict,u.d 0,dZ O.cls (u.n 1,u.z 1) O.slots⟩
 | false=>dO (u.n 1,u.z 1) O
theorem Ey{u:U}{O o':Obj}(fl:Bool)(h:dO (u.n 1,u.z 1) O=o')(hd:u.d 0=o'.data):Aw u fl O=o':=by
 subst h
 cases fl
 ·rfl
 ·exact vm (fun d=>(⟨O.cls,O.dict,d,dZ O.cls (u.n 1,u.z 1) O.slots⟩:Obj)) hd
theorem Gi{u:U}{O o':Obj}{d:zu}(fl:Bool)(h:dO (u.n 1,u.z 1) (bif fl then { O with data:=d } else O)=o')(hd:u.d 0=o'.data):Aw u fl O=o':=by
 cases fl
 ·exact Ey false h hd
 ·exact Ey (O:={ O with data:=d }) true h hd
def Sq(C:SX→Code)(tr:zl)(pre:SX→List (Option (Nat×Obj)))(m:Nat)(fl:Bool)(O':SX→Obj)(r:zq):A8:=⟨C,tr,pre,fun q=>none,fun u x=>(x.T.get m).isSome,fun u q=>.ok (.ret (dV (u.n 0 2) r)),fun u x=>⟨x.T.set m (fun q=>Aw u fl (O' x)),x.m,u.n 0 0,0,x.gens,x.drawn,u.n 0 1,0,x.os⟩,fun u x=>fl=true→eD (u.d 0)=(O' x).data,none,none,none,false⟩
theorem I1{w:zt}{C:SX→Code}{tr:zl}{pre:SX→List (Option (Nat×Obj))}{m:Nat}{fl:Bool}{O':SX→Obj}{r:zq}
  (h:∀ c X,eC c=C X→tr.map (fun j=>eP (X.T.get j))=pre X→∀ o,X.T.get m=some (A4 X m,o)→∃ f vs,c=.call f ⟨vs,[]⟩∧∀ A s,BR (A5 w.2) s X→∀ Q E,(∀ v tk g o',eV v=r→g o=o'→eO o'=O' X→o'.isFreed=false→Q v { s with heap:=s.heap.update (A4 X m) g,toks:=tk })→wpAny (model pw w) A (call f vs) Q E s):(Sq C tr pre m fl O' r).Ok pw w (A5 w.2):=by
 refine ⟨rfl,?_⟩
 intro c X s k g l cd pc rest hc hp qW D _
 have hsome:(X.T.get m).isSome=true:=qW U0
 obtain ⟨⟨am,o⟩,hget⟩:=wM.mp hsome
 have ham:A4 X m=am:=by simp [A4,hget]
 subst ham
 obtain ⟨f,vs,rfl,hw⟩:=h c X hc hp o hget
 refine CQ (c:=.call f ⟨vs,[]⟩) (k:=k) (g:=g) (l:=l) (pc:=pc) (hw (QD cd rest) s D (fun v s'=>∃ tk g o',eV v=r∧g o=o'∧eO o'=O' X∧o'.isFreed=false∧s' = { s with heap:=s.heap.update (A4 X m) g,toks:=tk }) (fun q q=>False) fun v tk g o' a b c d=>⟨tk,g,o',a,b,c,d,rfl⟩) (fun v s' qF pos' hr go=>?_) (fun q q q q h=>h.elim)
 obtain ⟨tk,gg,o',hv,hg,hO,hf,rfl⟩:=hr
 obtain ⟨q1,hq1⟩:=BY o'
 rw [hO] at hq1
 have szH:(s.heap.update (A4 X m) gg).objs.size=s.heap.objs.size:=(xM ..).1
 let u:U:=⟨fun j i=>if j=0 then (if i=0 then s.heap.objs.size else if i=1 then tk else Hq v) else q1.1 i,fun q=>o'.data,fun q=>q1.2⟩
 have hdr:Aw u fl (O' X)=o':=Ey fl hq1 rfl
 obtain ⟨D2,K2,X2⟩:=CR (f:=gg) D hget (by rw [hg]; exact hf)
 rw [TT.qi X.T m (A4 X m) o gg hget,hg] at D2 K2 X2
 refine ⟨u,{ s with heap:=s.heap.update (A4 X m) gg,toks:=tk },go.trans ?_,?_,?_,?_,?_⟩
 ·show Go pw w _ ⟨.pure (.done (.ret v)),_,_,_⟩ _ ⟨k (.ok (.ret (dV (Hq v) r))),cd,pc,rest⟩
  rw [← hv,EZ]
  exact B'
 ·show BR _ _ ⟨X.T.set m (fun q=>Aw u fl (O' X)),X.m,s.heap.objs.size,0,X.gens,X.drawn,tk,0,X.os⟩
  rw [hdr]
  exact ⟨szH,D2.own,D2.apart,D2.low,D2.top,D2.off,D2.gens,D2.drawn,rfl,D2.os⟩
 ·show BS X ⟨X.T.set m (fun q=>Aw u fl (O' X)),X.m,s.heap.objs.size,0,X.gens,X.drawn,tk,0,X.os⟩
  rw [hdr]
  exact ⟨X2.fwd,X2.bwd,by show X.n+X.i≤s.heap.objs.size+0; rw [D.size]; exact vp _⟩
 ·show AH ⟨X.T.set m (fun q=>Aw u fl (O' X)),X.m,s.heap.objs.size,0,X.gens,X.drawn,tk,0,X.os⟩ _ _
  rw [hdr]
  exact ⟨K2.1,K2.2⟩
 ·intro hfl
  show eD o'.data=(O' X).data
  rw [← hO]; rfl
theorem LN{kt:KT}{s s':zr}{X:SX}{a:Nat}{o:Obj}(D:BR kt s X)(G:BX s s')(z:s.heap.objs.size≤s'.heap.objs.size)(ha:s.heap.objs.size≤a)(ho:s'.heap.get? a=some o)(hg:((X.T.ins X.m a o).get X.m).isSome=true) :
  BR kt s' ⟨X.T.ins X.m a o,X.m+1,s'.heap.objs.size,0,X.gens,X.drawn,s'.toks,0,X.os⟩∧BS X ⟨X.T.ins X.m a o,X.m+1,s'.heap.objs.size,0,X.gens,X.drawn,s'.toks,0,X.os⟩∧AH ⟨X.T.ins X.m a o,X.m+1,s'.heap.objs.size,0,X.gens,X.drawn,s'.toks,0,X.os⟩ s s':=by
 have R:=Hx (s':=s') (y:=⟨X.T.ins X.m a o,X.m+1,s'.heap.objs.size,0,X.gens,X.drawn,s'.toks,0,X.os⟩) D rfl (D.size ▸ z) (y7 _) (fun j' a' o' h=>by
  rw [TT.get_ins _ o X.T X.m hg] at h
  by_cases q:j'=X.m
  ·rw [wD q] at h; cases h
   exact ⟨ho,.inr ⟨q,Nat.lt_succ_self _,D.size ▸ ha⟩⟩
  ·rw [w2 q] at h
   exact ⟨G.old _ _ (D.own _ _ _ h),.inl ⟨_,h⟩⟩) (fun j' a' o' h=>⟨o',by rw [TT.get_ins _ o X.T X.m hg,w2 (zC (D.low _ _ h))]; exact h⟩) (fun b ob h x=>G.old _ _ h) ⟨G.gens.trans D.gens,G.drawn.trans D.drawn,rfl,G.os.trans D.os⟩
 exact ⟨R.1,R.2,G.life,fun b ob hb x=>G.old b ob hb⟩
def HR(C:SX→Code)(tr:zl)(pre:SX→List (Option (Nat×Obj)))(fl:Bool)(O':SX→Obj)(φ:SX→zu→Prop):A8:=⟨C,tr,pre,fun q=>none,fun u x=>((x.T.ins x.m (u.n 0 3) (Aw u fl (O' x))).get x.m).isSome,fun u q=>.ok (.ret (.ref (u.n 0 3))),fun u x=>⟨x.T.ins x.m (u.n 0 3) (Aw u fl (O' x)),x.m+1,u.n 0 0,0,x.gens,x.drawn,u.n 0 1,0,x.os⟩,fun u x=>fl=true→φ x (eD (u.d 0)),none,none,none,false⟩
theorem J6{w:zt}{C:SX→Code}{tr:zl}{pre:SX→List (Option (Nat×Obj))}{fl:Bool}{O':SX→Obj}{φ:SX→zu→Prop}
  (h:∀ c X,eC c=C X→tr.map (fun j=>eP (X.T.get j))=pre X→∃ f vs,c=.call f ⟨vs,[]⟩∧∀ A s,BR (A5 w.2) s X→∀ Q E,(∀ a s' o',BX s s'→s.heap.objs.size≤a→s'.heap.get? a=some o'→(fl=true→φ X (eD o'.data))→eO o'=(bif fl then { O' X with data:=eD o'.data } else O' X)→Q (.ref a) s')→wpAny (model pw w) A (call f vs) Q E s):(HR C tr pre fl O' φ).Ok pw w (A5 w.2):=by
 refine ⟨rfl,?_⟩
 intro c X s k g l cd pc rest hc hp qW D _
 obtain ⟨f,vs,rfl,hw⟩:=h c X hc hp
 refine CQ (c:=.call f ⟨vs,[]⟩) (k:=k) (g:=g) (l:=l) (pc:=pc) (hw (QD cd rest) s D (fun v s'=>∃ a o',v=.ref a∧BX s s'∧s.heap.objs.size≤a∧s'.heap.get? a=some o'∧(fl=true→φ X (eD o'.data))∧eO o'=(bif fl then { O' X with data:=eD o'.data } else O' X)) (fun q q=>False) fun a s' o' p1 p2 p3 p4 p5=>⟨a,o',rfl,p1,p2,p3,p4,p5⟩) (fun v s' qF pos' hr go=>?_) (fun q q q q h=>h.elim)
 obtain ⟨a,o',rfl,G,ha,ho,hφ,hO⟩:=hr
 obtain ⟨q1,hq1⟩:=BY o'
 rw [hO] at hq1
 let u:U:=⟨fun j i=>if j=0 then (if i=0 then s'.heap.objs.size else if i=1 then s'.toks else a) else q1.1 i,fun q=>o'.data,fun q=>q1.2⟩
 have hdr:Aw u fl (O' X)=o':=Gi fl hq1 rfl
 have hok2:((X.T.ins X.m a (Aw u fl (O' X))).get X.m).isSome=true:=qW u
 rw [hdr] at hok2
 obtain ⟨D2,X2,K2⟩:=LN D G go.size ha ho hok2
 refine ⟨u,s',go.trans B',?_,?_,?_,hφ⟩
 ·show BR _ _ ⟨X.T.ins X.m a (Aw u fl (O' X)),X.m+1,s'.heap.objs.size,0,X.gens,X.drawn,s'.toks,0,X.os⟩
  rw [hdr]; exact D2
 ·show BS X ⟨X.T.ins X.m a (Aw u fl (O' X)),X.m+1,s'.heap.objs.size,0,X.gens,X.drawn,s'.toks,0,X.os⟩
  rw [hdr]; exact X2
 ·show AH ⟨X.T.ins X.m a (Aw u fl (O' X)),X.m+1,s'.heap.objs.size,0,X.gens,X.drawn,s'.toks,0,X.os⟩ _ _
  rw [hdr]; exact K2
def O8(C:SX→Code)(tr:zl)(pre:SX→List (Option (Nat×Obj)))(fl:Bool)(O':SX→Obj):A8:=HR C tr pre fl O' fun x d=>d=(O' x).data
theorem Fi{w:zt}{C:SX→Code}{tr:zl}{pre:SX→List (Option (Nat×Obj))}{fl:Bool}{O':SX→Obj}
  (h:∀ c X,eC c=C X→tr.map (fun j=>eP (X.T.get j))=pre X→∃ f vs,c=.call f ⟨vs,[]⟩∧∀ A s,BR (A5 w.2) s X→∀ Q E,(∀ a s' o',BX s s'→s.heap.objs.size≤a→s'.heap.get? a=some o'→eO o'=O' X→Q (.ref a) s')→wpAny (model pw w) A (call f vs) Q E s):(O8 C tr pre fl O').Ok pw w (A5 w.2):=
 J6 fun c X hc hp=>let ⟨f,vs,e,h⟩:=h c X hc hp; ⟨f,vs,e,fun A s D Q E hq=>h A s D Q E fun a s' o' g1 g2 g3 hO=>hq a s' o' g1 g2 g3 (fun q=>by rw [← hO]; rfl) (by rw [← hO]; cases fl<;>rfl)⟩
theorem MX{X:SX}{a b:Nat}{O1 O2:Obj}{m1 m2:Nat}(h:[m1,m2].map (fun j=>eP (X.T.get j))=[some (a,O1),some (b,O2)]):eP (X.T.get m1)=some (a,O1)∧eP (X.T.get m2)=some (b,O2):=by
 simp only [vu,zD,wh,and_true] at h
 exact h
section
variable{w:zt}{D D':zu}{vs:zf}{n:Nat}{v:zq}{x:Str}{r:zq}{N:List (Str×zq)}{S:zj}
def FU(m:Nat)(D:zu)(x:Str)(r:zq):A8:=I8 (.builtin "dict.get") (fun a=>[.ref a,.str x 0]) m (A6 D) r
theorem BO{m:Nat}(hD:D=A7 w.2 N n)(hr:(A' N x).getD .none=r):(FU m D x r).Ok pw w (A5 w.2):=CA fun a=>Q7 a hD hr
def Bh(m:Nat)(D:zu)(x:Str)(r:zq):A8:=I8 (.builtin "dict.__getitem__") (fun a=>[.ref a,.str x 0]) m (A6 D) r
theorem AZ{m:Nat}(hD:D=A7 w.2 N n)(hr:A' N x=some r):(Bh m D x r).Ok pw w (A5 w.2):=CA fun a=>N0 a hD hr
def TX(m:Nat)(D:zu)(x:Str)(b:Bool):A8:=I8 (.builtin "dict.__contains__") (fun a=>[.ref a,.str x 0]) m (A6 D) (.bool b)
theorem ID{m:Nat}{b:Bool}(hD:D=A7 w.2 N n)(hr:(A' N x).isSome=b):(TX m D x b).Ok pw w (A5 w.2):=CA fun a=>Q6 a hD hr
def OR(m:Nat)(D:zu)(v:zq):A8:=I8 (.builtin "list.__getitem__") (fun a=>[.ref a,.int (-1) 0]) m (A0 D) v
theorem JF{m:Nat}(hD:D=.seq ⟨vs++[v]⟩ n)(hs:vs.length < 2 ^ 62):(OR m D v).Ok pw w (A5 w.2):=CA fun a=>Ml a hD hs
def FA(m:Nat)(D:zu)(r:Int):A8:=I8 (.builtin "len") (fun a=>[.ref a]) m (A0 D) (.int r 0)
theorem Bz{m:Nat}{r:Int}(hD:D=.seq ⟨vs⟩ n)(hr:(vs.length:Int)=r)(hs:vs.length < 2 ^ 62):(FA m D r).Ok pw w (A5 w.2):=CA fun a=>P9 a hD hr hs
def JA(m:Nat)(D:zu)(x:Str)(b:Bool):A8:=I8 (.builtin "set.__contains__") (fun a=>[.ref a,.str x 0]) m (Bt D) (.bool b)
theorem EG{m:Nat}{b:Bool}(hD:C5 w S D)(hb:decide (x∈S)=b)(hs:S.length+1 < scanBound):(JA m D x b).Ok pw w (A5 w.2):=CA fun a=>Nn a hD hb hs
def W5(m:Nat)(D:zu)(x:Str)(φ:zu→Prop):A8:=KI (fun q=>none) [m] [true] [] (fun X=>VV (A4 X m) x D .plain) (fun X=>VV (A4 X m) x D) (fun z q=>φ z)
theorem OJ{St:Tl}{m:Nat}{I:zd}(hD:C5 w S D)(hx:x∉S)(hs:S.length+1 < scanBound):(W5 m D x (C5 w (x::S))).qB pw w (A5 w.2) St I I:=
 Dd (w:=w) (Sf:=fun q=>Eh) (fun X=>Np (A4 X m) hD hx hs) (fun q q=>⟨rfl,rfl,rfl⟩) (fun q q q q q=>rfl) CP (by simp) (fun q=>⟨rfl,rfl,fun q q=>rfl⟩) (fun q q=>rfl)
def KP(m:Nat)(D D':zu)(x:Str)(v:zq):A8:=Tg (fun a=>.call (.builtin "dict.__setitem__") ⟨[.ref a,.str x 0,v],[]⟩) m (A6 D) (A6 D') .none
theorem Dg{St:Tl}{m:Nat}{I:zd}(hD:D=A7 w.2 N n)(hx:A' N x=none)(qU:D'=A7 w.2 (N++[(x,v)]) (n+1))(hs:N.length≤sizeLine):(KP m D D' x v).qB pw w (A5 w.2) St I I:=Lh fun a=>Q4 a hD hx qU hs
def OW(C:Nat→Code)(m:Nat)(O O':Obj)(r:zq):A8:={ Tg C m O O' r with ld:=true }
theorem JI{St:Tl}{w:zt}{C:Nat→Code}{m:Nat}{O O':Obj}{r:zq}{I:zd}(h:∀ a,(C3 (C a) a O O' r).pP w XF I I):(OW C m O O' r).qB pw w (A5 w.2) St I I:=
 (J4 (ld:=true) (gi:=fun q=>True) (fun q q=>trivial) (Z:=Unit) (F0:=fun x q=>C3 (C (A4 x m)) (A4 x m) O O' r) (O:=fun q q q P=>I P) (fun q q q q a b q=>⟨a,b⟩) (fun x P hI=>((h (A4 x m)).dd P hI).g) (fun q q=>⟨rfl,rfl⟩) (fun q q q q q=>rfl) (fun q q q=>rfl) (fun q q q q q=>rfl) (Sf:=fun q=>XF) (fun x k g l cd pc pN tl q q q=>⟨k,g,l,cd,pN++tl,rfl⟩) (by simp) (fun q=>⟨rfl,rfl,fun q q=>rfl⟩) (fun q q=>rfl)).mono (fun q h=>h) fun _ _ _ _ ⟨_,_,_,h⟩=>h
def W7(m:Nat)(D D':zu)(x:Str):A8:=OW (fun a=>.call (.builtin "dict.__delitem__") ⟨[.ref a,.str x 0],[]⟩) m (A6 D) (A6 D') .none
theorem OU{St:Tl}{m:Nat}{I:zd}(hD:D=A7 w.2 (N++[(x,v)]) n)(hx:A' N x=none)(qU:D'=A7 w.2 N (n+1))(hs:N.length < sizeLine):(W7 m D D' x).qB pw w (A5 w.2) St I I:=JI fun a=>N4 a hD hx qU hs
def OK(m:Nat)(D D':zu)(v:zq):A8:=OW (fun a=>.call (.builtin "list.pop") ⟨[.ref a],[]⟩) m (A0 D) (A0 D') v
theorem JC{St:Tl}{m:Nat}{I:zd}(hD:D=.seq ⟨vs++[v]⟩ n)(qU:D'=.seq ⟨vs⟩ (n+1))(hs:vs.length < sizeLine):(OK m D D' v).qB pw w (A5 w.2) St I I:=JI fun a=>Mk a hD qU hs
def IB(q:Bool)(mi ml:Nat)(i:Nat)(D:zu)(v:zq):A8:=Sq (fun X=>.call (.builtin (cm q)) ⟨[.ref (A4 X mi)],[]⟩) [mi,ml] (fun X=>[some (A4 X mi,cj q (A4 X ml) i),some (A4 X ml,aV q D)]) mi false (fun X=>cj q (A4 X ml) ((i:Int)+1)) v
theorem GO{q:Bool}{mi ml i:Nat}(hD:D=.seq ⟨vs⟩ n)(hv:vs[i]?=some v):(IB q mi ml i D v).Ok pw w (A5 w.2):=I1 fun c X hc hp o ho=>by
 subst hD
 obtain ⟨ps,rfl,ha⟩:=Ak hc
 obtain rfl:=D9 ha
 obtain ⟨p1,p2⟩:=MX hp
 obtain ⟨o1,h1,hO1⟩:=Am p1
 obtain ⟨o2,h2,ri⟩:=Am p2
 rw [ho] at h1
 simp only [wu,xd,true_and] at h1
 subst h1
 obtain ⟨t,rfl⟩:=Fs hO1
 obtain ⟨xs,rfl,hx⟩:=Pu ri
 obtain ⟨y,hy,ey⟩:=Cx hx hv
 refine ⟨_,_,rfl,fun A s R Q E hq=>MT (R.own _ _ _ ho) (R.own _ _ _ h2) hy ?_⟩
 exact hq y s.toks _ { cls:=.type (ck q),dict:=none,data:=.fields #[.ref (A4 X ml),.int ((i:Int)+1) 0],slots:=#[] } ey rfl (by cases q<;>rfl) rfl
def Au:=IB true
theorem AQ{mi ml i:Nat}(hD:D=.seq ⟨vs⟩ n)(hv:vs[i]?=some v):(Au mi ml i D v).Ok pw w (A5 w.2):=GO hD hv
def LX:=IB false
theorem KL{mi ml i:Nat}(hD:D=.seq ⟨vs⟩ n)(hv:vs[i]?=some v):(LX mi ml i D v).Ok pw w (A5 w.2):=GO hD hv
def IF(q:Bool)(mi ml:Nat)(i len ep:Nat)(D:zu)(v:zq):A8:=Sq (fun X=>.call (.builtin (dI q)) ⟨[.ref (A4 X mi)],[]⟩) [mi,ml] (fun X=>[some (A4 X mi,ZI q (A4 X ml) i len ep),some (A4 X ml,A6 D)]) mi false (fun X=>ZI q (A4 X ml) ((i:Int)+1) len ep) v
theorem GP{q:Bool}{mi ml i:Nat}(hD:D=A7 w.2 N n)(hv:N[i]?=some (x,v)):(IF q mi ml i N.length n D (lg q x v)).Ok pw w (A5 w.2):=I1 fun c X hc hp o ho=>by
 subst hD
 obtain ⟨ps,rfl,ha⟩:=Ak hc
 obtain rfl:=D9 ha
 obtain ⟨p1,p2⟩:=MX hp
 obtain ⟨o1,h1,hO1⟩:=Am p1
 obtain ⟨o2,h2,ri⟩:=Am p2
 rw [ho] at h1
 simp only [wu,xd,true_and] at h1
 subst h1
 obtain ⟨t1,t2,t3,rfl⟩:=Jc hO1
 obtain ⟨es,rfl,he⟩:=BQ ri
 refine ⟨_,_,rfl,fun A s R Q E hq=>My (R.own _ _ _ ho) (R.own _ _ _ h2) he hv fun y ey=>?_⟩
 exact hq y s.toks _ { cls:=.type (ZH q),dict:=none,data:=.fields #[.ref (A4 X ml),.int ((i:Int)+1) 0,.int N.length t2,.int n t3],slots:=#[] } ey rfl (by cases q<;>rfl) rfl
def EI:=IF true
theorem D5{mi ml i:Nat}(hD:D=A7 w.2 N n)(hv:N[i]?=some (x,v)):(EI mi ml i N.length n D (.str x 0)).Ok pw w (A5 w.2):=GP hD hv
def GK:=IF false
theorem F9{mi ml i:Nat}(hD:D=A7 w.2 N n)(hv:N[i]?=some (x,v)):(GK mi ml i N.length n D v).Ok pw w (A5 w.2):=GP hD hv
def BM(id:String)(mi ml:Nat)(O:SX→Obj)(O':Obj)(Ob:Obj):A8:=Cm (fun q=>none) [mi,ml] [false,true] [] (fun X=>fM id (A4 X mi) (A4 X ml) (O X) O' Ob)
theorem HT{St:Tl}{q:Bool}{mi ml i:Nat}{I:zd}(hm:mi≠ml)(hD:D=.seq ⟨vs⟩ n)(hv:vs.length≤i):(BM (cm q) mi ml (fun X=>cj q (A4 X ml) i) (nV q i) (aV q D)).qB pw w (A5 w.2) St I I:=
 Ab (w:=w) (Sf:=fun z=>Eh) (fun X=>J' (A4 X mi) (A4 X ml) i hD (List.getElem?_eq_none hv) _ (fun z z h=>h)) CP (by simpa using hm) (fun z=>⟨rfl,rfl,fun z=>rfl⟩) (fun z z=>rfl)
theorem Ay{St:Tl}{mi ml i:Nat}{I:zd}(hm:mi≠ml)(hD:D=.seq ⟨vs⟩ n)(hv:vs.length≤i):(BM "list_iterator.__next__" mi ml (fun X=>AV (A4 X ml) i) (Bn i) (A0 D)).qB pw w (A5 w.2) St I I:=HT (q:=true) hm hD hv
theorem Mc{St:Tl}{mi ml i:Nat}{I:zd}(hm:mi≠ml)(hD:D=.seq ⟨vs⟩ n)(hv:vs.length≤i):(BM "tuple_iterator.__next__" mi ml (fun X=>RH (A4 X ml) i) (a7 i) (AG D)).qB pw w (A5 w.2) St I I:=HT (q:=false) hm hD hv
theorem HV{St:Tl}{q:Bool}{mi ml i:Nat}{I:zd}(hm:mi≠ml)(hD:D=A7 w.2 N n)(hv:N.length≤i):(BM (dI q) mi ml (fun X=>ZI q (A4 X ml) i N.length n) (dJ q i N.length n) (A6 D)).qB pw w (A5 w.2) St I I:=
 Ab (w:=w) (Sf:=fun z=>Eh) (fun X=>Kl (A4 X mi) (A4 X ml) i hD hv _ (fun z z h=>h)) CP (by simpa using hm) (fun z=>⟨rfl,rfl,fun z=>rfl⟩) (fun z z=>rfl)
theorem HU{St:Tl}{mi ml i:Nat}{I:zd}(hm:mi≠ml)(hD:D=A7 w.2 N n)(hv:N.length≤i):(BM "dict_keyiterator.__next__" mi ml (fun X=>Cg (A4 X ml) i N.length n) (Je i N.length n) (A6 D)).qB pw w (A5 w.2) St I I:=HV (q:=true) hm hD hv
theorem Mb{St:Tl}{mi ml i:Nat}{I:zd}(hm:mi≠ml)(hD:D=A7 w.2 N n)(hv:N.length≤i):(BM "dict_valueiterator.__next__" mi ml (fun X=>C2 (A4 X ml) i N.length n) (Jd i N.length n) (A6 D)).qB pw w (A5 w.2) St I I:=HV (q:=false) hm hD hv
theorem CL{s:zr}{o:Obj}{n:Nat}:BX s { s with heap:=s.heap.push o,toks:=n }:=⟨by cases s with | mk h=>cases h; rfl,fun b ob h=>wc _ h,rfl,rfl,rfl⟩
def Xx(f:zq)(as:Nat→zf)(m:Nat)(O X:Nat→Obj):A8:=O8 (fun x=>.call f ⟨as (A4 x m),[]⟩) [m] (fun x=>[some (A4 x m,O (A4 x m))]) false (fun x=>X (A4 x m))
theorem Lc{f:zq}{as:Nat→zf}{m:Nat}{O X:Nat→Obj}(h:∀ a,mB w f (as a) a (O a) (X a)):(Xx f as m O X).Ok pw w (A5 w.2):=Fi fun c x hc hp=>by
 obtain ⟨ps,rfl,e⟩:=Ak hc
 obtain ⟨o,ho,ho2⟩:=Am (wB hp).1
 refine ⟨_,_,rfl,fun A s D Q E hq=>?_⟩
 have H:=M3 D ho
 rw [ho2] at H
 exact h (A4 x m) ps A s [] o e H (D.own _ _ _ ho) ho2 Q E fun o' tk hX hf=>hq _ _ o' CL (vp _) (xQ _ hf) hX
def W3(m:Nat)(D:zu):A8:=Xx (.builtin "dict.values") (fun a=>[.ref a]) m (fun q=>A6 D) (fun a=>V4 a)
theorem OE{m:Nat}(hD:D=A7 w.2 N n):(W3 m D).Ok pw w (A5 w.2):=Lc fun a=>Jf a hD
def KW(m:Nat)(D:zu)(len ep:Nat):A8:=Xx (.builtin "dict.__iter__") (fun a=>[.ref a]) m (fun q=>A6 D) (fun a=>Cg a 0 len ep)
theorem HW{m:Nat}(hD:D=A7 w.2 N n):(KW m D N.length n).Ok pw w (A5 w.2):=Lc fun a=>Mz a hD
def OF(mv m:Nat)(D:zu)(len ep:Nat):A8:=O8 (fun x=>.call (.builtin "dict_values.__iter__") ⟨[.ref (A4 x mv)],[]⟩) [mv,m] (fun x=>[some (A4 x mv,V4 (A4 x m)),some (A4 x m,A6 D)]) false (fun x=>C2 (A4 x m) 0 len ep)
theorem Ma{mv m:Nat}(hD:D=A7 w.2 N n):(OF mv m D N.length n).Ok pw w (A5 w.2):=Fi fun c x hc hp=>by
 subst hD
 obtain rfl:=Z9 hc
 obtain ⟨p1,p2⟩:=MX hp
 obtain ⟨o1,h1,hO1⟩:=Am p1
 obtain ⟨o2,h2,ri⟩:=Am p2
 obtain rfl:=Z8 hO1
 obtain ⟨es,rfl,he⟩:=BQ ri
 exact ⟨_,_,rfl,fun A s D Q E hq=>Mx (D.own _ _ _ h1) (D.own _ _ _ h2) he (hq _ _ _ CL (vp _) (xQ _ rfl) rfl)⟩
end
end
section
noncomputable def aZ(a b c:zq):Obj:={ cls:=.type "slice",data:=.fields #[a,b,c] }
noncomputable def fA:Option Int→zq
 | none=>.none
 | some i=>.int i 0
theorem Z5{o:Obj}{lo hi:Option Int}(h:eO o=aZ (fA lo) (fA hi) .none):∃ a b,IsPart a lo∧IsPart b hi∧o = { cls:=.type "slice",dict:=none,data:=.fields #[a,b,.none],slots:=#[] }:=by
 obtain ⟨q,e⟩:=BY o
 rw [h] at e
 subst e
 cases lo<;>cases hi
 ·exact ⟨_,_,.none,.none,rfl⟩
 ·exact ⟨_,_,.none,.int _ _,rfl⟩
 ·exact ⟨_,_,.int _ _,.none,rfl⟩
 ·exact ⟨_,_,.int _ _,.int _ _,rfl⟩
section
variable{w:zt}{D D2 D':zu}{vs ws:zf}{n n2:Nat}
def TB(m j:Nat)(lo hi:Option Int)(D D':zu):A8:=O8 (fun x=>.call (.builtin "list.__getitem__") ⟨[.ref (A4 x m),.ref (A4 x j)],[]⟩) [m,j] (fun x=>[some (A4 x m,A0 D),some (A4 x j,aZ (fA lo) (fA hi) .none)]) true (fun q=>A0 D')
theorem I7{m j:Nat}{lo hi:Option Int}(hD:D=.seq ⟨vs⟩ n)(qU:D'=.seq ⟨ws⟩ 0)(hr:∀ xs:Array zq,xs.toList.map eV=vs→(slicePick xs lo hi none).toList.map eV=ws)(hs:vs.length≤sizeLine):(TB m j lo hi D D').Ok pw w (A5 w.2):=Fi fun c x hc hp=>by
 subst hD qU
 obtain rfl:=Px hc
 obtain ⟨p1,p2⟩:=MX hp
 obtain ⟨o1,h1,hO1⟩:=Am p1
 obtain ⟨o2,h2,ri⟩:=Am p2
 obtain ⟨xs,rfl,hx⟩:=Ai hO1
 obtain ⟨a,b,i1,i2,rfl⟩:=Z5 ri
 refine ⟨_,_,rfl,fun A s D Q E hq=>?_⟩
 have ho:=D.own _ _ _ h1
 have sE:=D.own _ _ _ h2
 have hl:=AY hx
 have hTs:s.TypeIs (.ref (A4 x j)) "slice":=⟨_,sE,rfl⟩
 refine wF slot_list_getitem ⟨_,ho,rfl⟩ zL ?_ (args_list_getitem _ _)
 show wpAny _ _ (Builtin.List.listSubscript? (.ref (A4 x j))>>=_) _ _ s
 refine vi ?_
 unfold Builtin.List.listSubscript?
 refine vi (wpAny_specialOf hTs slice_no_index ?_)
 simp only [Option.isNone_none,zB]
 refine vx ?_
 show wpAny _ _ (typeOf (.ref (A4 x j))>>=_) _ _ s
 refine vi (wpAny_typeOf hTs ?_)
 rw [w2 (by decide)]
 rw [listSliceParts_eq]
 refine vi (vi (xi sE rfl (x:=.none) rfl (vi (wpAny_listPart IsPart.none ?_))))
 rw [w2 (by exact wX)]
 refine vi (xi sE rfl (x:=a) rfl (vi (wpAny_listPart i1 ?_)))
 refine vi (xi sE rfl (x:=b) rfl (vi (wpAny_listPart i2 (vx ?_))))
 refine vi (m:=Builtin.List.listItems (.ref (A4 x m))) ?_
 unfold Builtin.List.listItems
 refine vi (yX ho rfl (vx ?_))
 refine vi (wpAny_of_eq (sliceIndices_raw lo hi none xs.size (by simp)) ?_)
 refine vi (yA (vx ⟨_,rfl,?_⟩) (vv (slicePick_size_le xs lo hi none) (hl ▸ hs)))
 refine hq _ _ { cls:=.type "list",dict:=none,data:=.seq (slicePick xs lo hi none) 0,slots:=#[] } (by exact CL (n:=s.toks)) (vp _) (xQ _ rfl) ?_
 show eO _=A0 (.seq ⟨ws⟩ 0)
 rw [← hr xs hx]; rfl
def bX(m j:Nat)(k:Nat)(D D':zu):A8:=TB m j (some k) none D D'
theorem TA{m j k:Nat}(hD:D=.seq ⟨vs⟩ n)(hk:k≤vs.length)(qU:D'=.seq ⟨vs.drop k⟩ 0)(hs:vs.length≤sizeLine):(bX m j k D D').Ok pw w (A5 w.2):=
 I7 hD qU (fun xs hx=>by rw [slicePick_from xs k (by rw [← AY hx] at hk; exact hk),← hx,xh]) hs
def Ce(m j:Nat)(D D2 D':zu):A8:=O8 (fun x=>.call (.builtin "list.__add__") ⟨[.ref (A4 x m),.ref (A4 x j)],[]⟩) [m,j] (fun x=>[some (A4 x m,A0 D),some (A4 x j,A0 D2)]) true (fun q=>A0 D')
theorem Bg{m j:Nat}(hD:D=.seq ⟨vs⟩ n)(rj:D2=.seq ⟨ws⟩ n2)(qU:D'=.seq ⟨vs++ws⟩ 0)(hs:vs.length+ws.length≤sizeLine):(Ce m j D D2 D').Ok pw w (A5 w.2):=Fi fun c x hc hp=>by
 subst hD rj qU
 obtain rfl:=Px hc
 obtain ⟨p1,p2⟩:=MX hp
 obtain ⟨o1,h1,hO1⟩:=Am p1
 obtain ⟨o2,h2,ri⟩:=Am p2
 obtain ⟨xs,rfl,hx⟩:=Ai hO1
 obtain ⟨ys,rfl,hy⟩:=Ai ri
 refine ⟨_,_,rfl,fun A s D Q E hq=>?_⟩
 refine yR F.slot_list_add ⟨_,D.own _ _ _ h1,rfl⟩ F.entry_list_add (F.args_list_add_2 _ _) (AutoSeq1.list___add___list_list_0 (A4 x m) xs n (A4 x j) ys n2 (by rw [AY hx,AY hy]; exact hs)) ⟨D.own _ _ _ h1,D.own _ _ _ h2,?_⟩
 refine hq _ _ { cls:=.type "list",dict:=none,data:=.seq (xs++ys) 0,slots:=#[] } (by exact CL (n:=s.toks)) (vp _) (xQ _ rfl) ?_
 show eO _=A0 (.seq ⟨vs++ws⟩ 0)
 have:((xs++ys).toList).map eV=vs++ws:=by rw [← hx,← hy]; simp
 rw [← this]; rfl
end
end
end
section
open PySem PySem.W PySem.W.X
inductive PT | l (i:Nat) | a (s t:PT) | n
noncomputable def PT.d{α:Type}(v:List (List α)):PT→List α
 | .l i=>v.getD i []
 | .a s t=>s.d v++t.d v
 | .n=>[]
noncomputable def PT.f:PT→zl
 | .l i=>[i]
 | .a s t=>s.f++t.f
 | .n=>[]
theorem PT.df{α:Type}(v:List (List α)):∀ s:PT,s.d v=s.f.flatMap (v.getD · [])
 | .l i=>(w9 _).symm
 | .a s t=>by show s.d v++t.d v=(s.f++t.f).flatMap _; rw [wo,← df v s,← df v t]
 | .n=>rfl
noncomputable def PT.r(x:zl)(t:PT):PT:=x.foldr (fun i t=>.a (.l i) t) t
noncomputable def PT.q(x:zl):PT:=.r x .n
theorem FQ{α:Type}(v:List (List α))(s t a b:PT)(h:(a.d v).Perm (b.d v))(k:(s.f++b.f).isPerm (t.f++a.f)=true):(s.d v).Perm (t.d v):=by
 have e:=(List.isPerm_iff.mp k).flatMap_right (v.getD · [])
 rw [wo,wo,← PT.df,← PT.df,← PT.df,← PT.df] at e
 exact (List.perm_append_right_iff _).mp (e.trans (h.append_left _))
theorem Dm{α:Type}(v:List (List α))(s t:PT)(k:s.f.isPerm t.f=true):(s.d v).Perm (t.d v):=FQ v s t .n .n .nil (by show (s.f++[]).isPerm (t.f++[])=true; rw [w9,w9]; exact k)
theorem Spec.rF{Z:Type}{F:Z→Spec}{N:Z→(Nat→Nat)→Lp→Prop}{S:Spec}{w:zt}{Sh:Pos→ze→Prop}{E:zi}{R:Lp}{e:Env}{f:Nat}{D:zu}(h:∀ R',AW (e::E) R'→Spec.pW F (fun z A P'=>∃ L,N z A L∧P'.Perm (R'++L)) S w Sh (fun P=>P=R'))(hE:AW E R)(k:DH e)(hf:e.frame=some f)(l1:S.ad.length=S.pre.length)(l2:∀ z A,((F z).ch A).length=(F z).ad.length):Spec.pW (fun z=>(F z).own f D) (fun z A P'=>∃ L,N z A L∧P'.Perm (R++L)) (S.own f D) w Sh (fun P=>P=R):=by
 rintro P rfl
 have z:=h _ (hE.cons k hf (D:=D)) _ rfl
 have e1:(S.own f D).pq++P=S.pq++(f,Bp D)::P:=by
  show (S.ad++[f]).zip (S.pre++[Bp D])++P=_
  rw [wi l1,vj]; rfl
 refine (z.pU (q8:=fun L=>L=(S.own f D).pq++P) (fun L hL=>hL.trans e1) (fun q q h=>h)).qd ?_
 rintro e' L ⟨zz,A,P',⟨L1,hN,pm⟩,sub,he,rfl⟩
 refine ⟨((F zz).own f D).pV A++(P++L1),?_,⟨zz,A,P++L1,⟨L1,hN,.refl _⟩,fun q m=>by rw [vl]; exact vq _ m,he,rfl⟩⟩
 refine (pm.append_left _).trans ?_
 show ((F zz).pV A++((f,Bp D)::P++L1)).Perm ((((F zz).ad++[f]).zip ((F zz).ch A++[Bp D])++_)++(P++L1))
 rw [wi (l2 zz A).symm]
 unfold Spec.pV
 rw [vj,vj,vj]
 exact vy _ wV
theorem A8.qM.all{p:zv}{w:zt}{kt:KT}{St:Tl}{o:A8}{I:zd}{O:Lp→U→SX→Lp→Prop}(hn:o.nt=none)(h:∀ R,I R→o.qM p w kt St (fun P=>P=R) (O R)):o.qM p w kt St I (fun u x P'=>∃ R,I R∧O R u x P'):=by
 refine ⟨hn,fun c x s k g l cd pc pN tl P hc hp hv hq ht qW D tk sU hI hP=>?_⟩
 obtain ⟨u,s',P',go,D',X,hO,hP',K,N,sub,G⟩:=(h P hI).2 c x s k g l cd pc pN tl P hc hp hv hq ht qW D tk sU rfl hP
 exact ⟨u,s',P',go,D',X,⟨P,hI,hO⟩,hP',K,N,sub,G⟩
theorem AW.mono{E:zi}{R R':Lp}(h:AW E R)(k:∀ q∈R,q∈R'):AW E R':=fun e m=>let ⟨a,f,o,b,c,d⟩:=h e m; ⟨a,f,o,b,k _ c,d⟩
def B9(x:SX)(j:Nat):zu:=match x.T.get j with
 | some (_,o)=>eD o.data
 | none=>.plain
noncomputable abbrev Dy:=List (zl)
def Dl(l:Dy):zf:=l.map fun s=>.str ⟨⟨s⟩⟩ 0
def Wa:PA→Nat→zb→Dy→List (Nat×Dy×Nat)→Prop
 | .leaf s,ah,es,ds,q=>es=[(s,ah)]∧ds=[s]∧q=[]
 | .node _ false l r,ah,es,ds,q=>∃ aE e1 d1 q1 e2 q2 n,Wa l ah e1 d1 q1∧Wa r aE e2 ds q2∧es=e1++e2∧q=q1++((aE,d1,n)::q2)
 | .node _ true l r,ah,es,ds,q=>∃ e1 d1 q1 e2 d2 q2,Wa l ah e1 d1 q1∧Wa r ah e2 d2 q2∧es=e1++e2∧ds=d1++d2∧q=q1++q2
noncomputable def PA.qX:PA→Nat
 | .leaf _=>1
 | .node _ _ l r=>l.qX+r.qX
theorem Wa.len:∀ {p:PA} {ah:Nat} {es:zb} {ds:Dy} {q:List (Nat×Dy×Nat)},Wa p ah es ds q→es.length=p.qX∧ds.length≤p.qX
 | .leaf s,ah,es,ds,q,h=>by
  obtain ⟨rfl,rfl,_⟩:=h
  exact ⟨rfl,vp _⟩
 | .node a false l r,ah,es,ds,q,h=>by
  obtain ⟨aE,e1,d1,q1,e2,q2,n,h1,h2,rfl,_⟩:=h
  exact ⟨by rw [vn,h1.len.1,h2.len.1]; rfl,vv h2.len.2 (yM _ _)⟩
 | .node a true l r,ah,es,ds,q,h=>by
  obtain ⟨e1,d1,q1,e2,d2,q2,h1,h2,rfl,rfl,_⟩:=h
  exact ⟨by rw [vn,h1.len.1,h2.len.1]; rfl,by rw [vn]; exact xq h1.len.2 h2.len.2⟩
def Ex(e:zl×Nat):Obj:=AG (.seq #[.str ⟨⟨e.1⟩⟩ 0,.ref e.2] 0)
def IY(ts:zl)(es:zb):Lp:=ts.zip (es.map Ex)
def FT(q:List (Nat×Dy×Nat)):Lp:=q.map fun x=>(x.1,A0 (.seq ⟨Dl x.2.1⟩ x.2.2))
inductive Gr (p:PA) (ah:Nat) (z:zu×zu) (L:Lp):Prop
 | mk (es:zb) (ds:Dy) (q:List (Nat×Dy×Nat)) (ts:zl) (e1 e2:Nat) (td:Wa p ah es ds q) (lt:ts.length=es.length) (h1:z.1=.seq ⟨ts.map .ref⟩ e1) (h2:z.2=.seq ⟨Dl ds⟩ e2) (hL:L.Perm (IY ts es++FT q)):Gr p ah z L
noncomputable def oE(s:zl)(ah:Nat):Code:=.call (.ref 937) ⟨[.str ⟨⟨s⟩⟩ 0,.ref ah],[]⟩
def L4(s:zl)(ah:Nat)(DN DE:(Nat→Nat)→zu)(X:List Obj):Spec:=⟨oE s ah,[],[],fun A=>.fin (.done (.ret (.ref (A 0)))),fun q=>[],fun A=>AG (.seq #[.ref (A 1),.ref (A 2)] 0)::A0 (DN A)::A0 (DE A)::X⟩
def QS(s:zl)(ah:Nat)(DN DE:zu):Spec:=L4 s ah (fun q=>DN) (fun q=>DE) []
def N7(p:PA)(l:Nat):Prop:=∀ {w:zt} {b b2:Bool} {E:zi} {ah:Nat} (R:Lp),AW E R→Spec.pW (fun z:zu×zu=>QS p.wt ah z.1 z.2) (fun z A P'=>∃ L,Gr p ah z L∧P'.Perm (R++L)) (QS p.wt ah .plain .plain) (wf w b b2) (Al ⟨l,Ax E zw⟩) (fun P=>P=R)
def pg:Dy:=[[97],[97,39],[97,34],[97,32],[98],[99],[100],[100,39],[100,34],[100,32]]
def ee(s:zl)(ah:Nat):Spec:=L4 s ah (fun A=>.seq #[.ref (A 3)] 0) (fun q=>.seq #[.str ⟨⟨s⟩⟩ 0] 0) [Ex (s,ah)]
theorem NW(w:zt)(b2:Bool)(ah:Nat):pg.map (fun s=>Hn w b2 (fun q=>ee s ah) (fun q=>[]) 0 (fun q q=>[]) [6,4,5,3] [] (hD 5 18 968911128905) 1000000 [] 1)=pg.map fun s=>Hm w b2 (fun q=>ee s ah) (fun q q=>ee s ah) (fun q=>[]) 0 (fun q q=>[]) [6,4,5,3] [] (hD 5 18 968911128905) 1000000 [] 1:=by kernel_rfl
theorem RO{s:zl}{l:Nat}(hs:s∈pg)(hl:l≤5):N7 (.leaf s) l:=by
 rintro w b b2 E ah R hE P rfl
 have z:(ee s ah).PI w b b2 l (Ax E zw) (fun Q=>Q=P):=As [] 0 [6,4,5,3] (hD 5 18 968911128905) 1000000 [] 1 (fun E0 ke=>.pO ke rfl) (wU.mp (NW w b2 ah) s hs) (hT:=wR.mpr (by lia))
 refine (z P rfl).qd ?_
 rintro e L ⟨A,P',rfl,sub,he,rfl⟩
 refine ⟨(QS s ah (.seq ⟨[A 3].map .ref⟩ 0) (.seq ⟨Dl [s]⟩ 0)).pV A++(P'++[(A 3,Ex (s,ah))]),?_,⟨(_,_),A,_,⟨_,⟨_,_,_,[A 3],0,0,⟨rfl,rfl,rfl⟩,rfl,rfl,rfl,.refl _⟩,.refl _⟩,fun q m=>by rw [vl]; exact vq _ m,he,rfl⟩⟩
 show ([(A 0,_),(A 1,_),(A 2,_)]++((A 3,Ex (s,ah))::P')).Perm ([(A 0,_),(A 1,_),(A 2,_)]++(P'++[(A 3,Ex (s,ah))]))
 exact vy _ (wJ (l₁:=[(A 3,Ex (s,ah))]))
def FX(P:zp)(x:SX):Env:=Br P 937 Tn (A4 x 0)
theorem ai(P:zp)(fr:Nat):DH (Br P 937 Tn fr):=by
 have h:(Br P 937 Tn fr).scope.kind=.function:=by kernel_rfl
 exact ⟨by rw [h]; decide,by kernel_rfl⟩
noncomputable def Gm:zu→zu→zu
 | .seq a _,.seq b _=>.seq ⟨a.toList++b.toList⟩ 0
 | _,_=>.plain
def Ed(D:zu):Prop:=∃ vs e,D=.seq ⟨vs⟩ e∧vs.length≤4
def bS(P:zp)(s:zl)(ah:Nat):A8:=I2 (fun x=>some [C0 (FX P x)]) [0] [] [false,true,true] (fun x=>(QS s ah .plain .plain).own (A4 x 0) (B9 x 0)) fun u q=>Ed (eD (u.d 3))∧Ed (eD (u.d 5))
theorem Gr.tD{p:PA}{ah:Nat}{z:zu×zu}{L:Lp}(h:Gr p ah z L)(hp:p.qX≤4):Ed z.1∧Ed z.2:=by
 obtain ⟨es,ds,q,ts,e1,e2,td,lt,h1,h2,_⟩:=h
 obtain ⟨a,b⟩:=td.len
 exact ⟨⟨_,_,h1,by rw [vh,lt,a]; exact hp⟩,⟨_,_,h2,by unfold Dl; rw [vh]; exact vv b hp⟩⟩
variable{w:zt}{b b2:Bool}
theorem I6{p:PA}{s:zl}{ah l:Nat}{E:zi}{I:zd}(h:N7 p (l+1))(hs:p.wt=s)(hp:p.qX≤4)(hI:∀ R,I R→AW E R):(bS w.2 s ah).qM pw (wf w b b2) (A5 w.2) ⟨l,Ax E zw⟩ I (fun u x P'=>∃ R,I R∧∃ L,Gr p ah (eD (u.d 3),eD (u.d 5)) L∧P'.Perm (R++L)):=by
 subst hs
 refine A8.qM.all rfl fun R hR=>?_
 refine (Bw (w:=wf w b b2) (tr:=[0]) (fl:=[]) (fn:=[false,true,true]) (S:=fun x=>(QS p.wt ah .plain .plain).own (A4 x 0) (B9 x 0)) (F0:=fun x (z:zu×zu)=>(QS p.wt ah z.1 z.2).own (A4 x 0) (B9 x 0)) (O:=fun x z A P'=>∃ L,Gr p ah z L∧P'.Perm (R++L)) (gd:=fun u q=>Ed (eD (u.d 3))∧Ed (eD (u.d 5))) (fun u x z P q b c=>?_) (fun x=>Spec.rF (e:=FX w.2 x) (fun R' sm=>h R' sm) (hI R hR) (ai w.2 _) rfl rfl (fun q q=>rfl)) (fun q q=>⟨rfl,rfl⟩) (fun q q q q q=>rfl) (fun q q q=>rfl) (fun q q q q q=>rfl) (BK (St:=⟨l,Ax E zw⟩) (n:=l+1) (Sf:=fun x=>Ax (FX w.2 x::E) zw) (V:=fun x=>[C0 (FX w.2 x)]) (wR.mpr (vp _)) fun x q c=>c.app (V:=[C0 (FX w.2 x)]) (E':=[FX w.2 x]) (qe:=[]) rfl rfl) (by decide) (fun q=>⟨rfl,rfl,fun q q=>rfl⟩) (fun q q=>rfl)).mono (fun q h=>h) fun u x P' q hh=>?_
 ·obtain ⟨L,k,_⟩:=c
  have e1:eD (u.d 3)=z.1:=b.1
  have e2:eD (u.d 5)=z.2:=b.2.1
  rw [e1,e2]
  exact k.tD hp
 ·obtain ⟨z,_,b,L,k,pm⟩:=hh
  have e1:eD (u.d 3)=z.1:=b.1
  have e2:eD (u.d 5)=z.2:=b.2.1
  rw [e1,e2]
  exact ⟨L,k,pm⟩
def bU(P:zp)(s:zl)(x2 x3:Nat)(T2 T3:zl)(p1 p2 p3:Nat):A8:=Cm (fun x=>some [C0 (FX P x)]) [0] [] [] (fun x=>(sp P ⟨⟨s⟩⟩ 61 x2 x3 [] T2 T3 p1 p2 p3).own (A4 x 0) (B9 x 0))
structure fi(s:zl)(x2 x3:Nat)(T2 T3:zl)(p1 p2 p3:Nat):Prop where
 h1:3≤s.length
 h2:s.length≤sizeLine
 z1:B6 s 0=some ([61],p1,true)
 z2:B6 (s.drop p1) p1=some (x2::T2,p2,true)
 z3:B6 (s.drop p2) p2=some (x3::T3,p3,false)
 hk:s.length≤p3
theorem T7{s:zl}{x2 x3:Nat}{T2 T3:zl}{p1 p2 p3 l:Nat}{E:zi}{R:Lp}(hE:AW E R)(k:fi s x2 x3 T2 T3 p1 p2 p3)(hl:l≤5):(bU w.2 s x2 x3 T2 T3 p1 p2 p3).qB pw (wf w b b2) (A5 w.2) ⟨l,Ax E zw⟩ (fun P=>P=R) (fun P=>P=R):=
 Ab (w:=wf w b b2) (fun x=>Spec.rV (e:=FX w.2 x) (fun R' sm=>XC w b b2 ⟨⟨s⟩⟩ 61 x2 x3 [] T2 T3 p1 p2 p3 (Nat.le_of_succ_le k.h1) k.h2 k.z1 k.z2 k.z3 k.hk sm) hE (ai w.2 (A4 x 0)) rfl rfl (fun q=>rfl)) (BK (St:=⟨l,Ax E zw⟩) (n:=6) (Sf:=fun x=>Ax (FX w.2 x::E) zw) (V:=fun x=>[C0 (FX w.2 x)]) (wR.mpr (by show l+1≤6; lia)) fun x q c=>c.app (V:=[C0 (FX w.2 x)]) (E':=[FX w.2 x]) (qe:=[]) rfl rfl) (by decide) (fun q=>⟨rfl,rfl,fun q=>rfl⟩) (fun q q=>rfl)
def X9(P:zp)(s:zl)(x2 x3:Nat)(T2 T3:zl)(p1 p2 p3 ah:Nat):List (zh→A8):=[fun q=>JH ⟨⟨61::32::s⟩⟩ 1 2 [61,32],fun q=>bU P (61::32::s) x2 x3 T2 T3 p1 p2 p3,fun q=>bS P (x2::T2) ah,fun l=>bS P (x3::T3) (un l 0 0 5),fun l=>Ce 4 10 (ud l 1 3) (ud l 0 3) (Gm (ud l 1 3) (ud l 0 3))]
theorem NV(w:zt)(b2:Bool)(s:zl)(x2 x3:Nat)(T2 T3:zl)(p1 p2 p3 ah:Nat):Hn w b2 (fun q=>L4 (61::32::s) ah (fun q=>.plain) (fun q=>.plain) []) (fun q=>X9 w.2 s x2 x3 T2 T3 p1 p2 p3 ah) 5 (fun q l=>[(3,un l 2 0 5)]) [16,15,11,5] [] (hD 17 97 17700891180599958718770762769552641095877859795795414347946595415349169425604243966854012502857683069597641081180942272) 0 [1,1,5,4] 1=Hm w b2 (fun q=>L4 (61::32::s) ah (fun q=>.plain) (fun q=>.plain) []) (fun q l=>L4 (61::32::s) ah (fun q=>ud l 0 0) (fun q=>ud l 1 5) [A0 (ud l 2 5)]) (fun q=>X9 w.2 s x2 x3 T2 T3 p1 p2 p3 ah) 5 (fun q l=>[(3,un l 2 0 5)]) [16,15,11,5] [] (hD 17 97 17700891180599958718770762769552641095877859795795414347946595415349169425604243966854012502857683069597641081180942272) 0 [1,1,5,4] 1:=by kernel_rfl
theorem QA{D1 D2:zu}(h1:Ed D1)(h2:Ed D2):∃ vs ws e1 e2,D1=.seq ⟨vs⟩ e1∧D2=.seq ⟨ws⟩ e2∧Gm D1 D2=.seq ⟨vs++ws⟩ 0∧vs.length+ws.length≤sizeLine:=by
 obtain ⟨vs,e1,rfl,l1⟩:=h1
 obtain ⟨ws,e2,rfl,l2⟩:=h2
 exact ⟨vs,ws,e1,e2,rfl,rfl,rfl,vv (xq l1 l2) (by decide)⟩
theorem IG{w:zt}{m j:Nat}{D1 D2:zu}(h1:Ed D1)(h2:Ed D2):(Ce m j D1 D2 (Gm D1 D2)).Ok pw w (A5 w.2):=by
 obtain ⟨vs,ws,e1,e2,a,b,c,d⟩:=QA h1 h2
 exact Bg a b c d
theorem Gr.cat{D1 D2 D3 D4:zu}{l r:PA}{a ah aE:Nat}{L1 L2:Lp}(h1:Gr l ah (D1,D3) L1)(h2:Gr r aE (D2,D4) L2):∃ n:Nat,Gr (.node a false l r) ah (Gm D1 D2,D4) (L1++((aE,A0 D3)::L2)):=by
 obtain ⟨es,ds,q,ts,e1,e2,td,lt,k1,k2,hL⟩:=h1
 obtain ⟨rC,ds',q',ts',e1',e2',td',lt',k1',k2',hL'⟩:=h2
 dsimp only at k1 k2 k1' k2'
 subst k1 k2 k1' k2'
 refine ⟨0,_,_,_,ts++ts',0,e2',⟨aE,_,_,_,_,_,e2,td,td',rfl,rfl⟩,by rw [vn,vn,lt,lt'],by rw [vl]; rfl,rfl,?_⟩
 unfold IY FT
 rw [vl,wi (by rw [lt,vh]),vl,vu]
 refine (hL.append (hL'.cons _)).trans ?_
 unfold IY FT
 exact Dm [ts.zip (es.map Ex),FT q,[(aE,A0 (.seq ⟨Dl ds⟩ e2))],ts'.zip (rC.map Ex),FT q'] (.a (.a (.l 0) (.l 1)) (.r [2] (.a (.l 3) (.l 4)))) (.a (.a (.l 0) (.l 3)) (.a (.l 1) (.r [2] (.l 4)))) rfl
theorem RM{pl pr:PA}{a l:Nat}{s:zl}{x2 x3:Nat}{T2 T3:zl}{p1 p2 p3:Nat}(h1:N7 pl (l+1))(h2:N7 pr (l+1))(e1:pl.wt=x2::T2)(e2:pr.wt=x3::T3)(n1:pl.qX≤4)(n2:pr.qX≤4)(hs:(PA.node a false pl pr).wt=61::32::s)(k:fi (61::32::s) x2 x3 T2 T3 p1 p2 p3)(hl:l≤5):N7 (.node a false pl pr) l:=by
 rintro w b b2 E ah R hE
 rw [hs]
 have z:=Za (w:=w) (b1:=b) (b2:=b2) (St:=⟨l,Ax E zw⟩) (fun z:zu×zu×zu×Nat=>L4 (61::32::s) ah (fun y=>z.1) (fun y=>z.2.1) [A0 z.2.2.1]) (fun z A=>A 3=z.2.2.2) (fun y=>L4 (61::32::s) ah (fun y=>.plain) (fun y=>.plain) []) (fun y l=>L4 (61::32::s) ah (fun y=>ud l 0 0) (fun y=>ud l 1 5) [A0 (ud l 2 5)]) (fun y=>X9 w.2 s x2 x3 T2 T3 p1 p2 p3 ah) 5 (fun y l=>[(3,un l 2 0 5)]) [16,15,11,5] [] (hD 17 97 17700891180599958718770762769552641095877859795795414347946595415349169425604243966854012502857683069597641081180942272) 0 [1,1,5,4] 1 [] (I:=fun P=>P=R)
  (K0:=fun z P'=>∃ L1 L2 D1 D2,Gr pl ah (D1,z.2.2.1) L1∧Gr pr z.2.2.2 (D2,z.2.1) L2∧z.1=Gm D1 D2∧P'.Perm (R++(L1++L2)))
  (fun E0 ke=>.q (EJ k.h1 k.h2 rfl) fun y y y=>.cons (T7 hE k hl) fun y y y=>.qA (I6 h1 e1 n1 fun P hP=>by rw [hP]; exact hE) fun u2 y g2=>.qA (I6 h2 e2 n2 fun P ⟨P0,hP0,L,_,pm⟩=>(hP0 ▸ hE).mono fun q m=>pm.mem_iff.mpr (vq _ m)) fun u3 y g3=>.q (IG g2.1 g3.1) fun u4 y g4=>.nil fun P ⟨P1,⟨P0,hP0,L1,t1,pm1⟩,L2,t2,pm2⟩=>ke _ _ ⟨(eD (u4.d 0),eD (u3.d 5),eD (u2.d 5),u2.n 0 5),rfl,⟨L1,L2,_,_,t1,t2,g4 rfl,by subst hP0; exact pm2.trans (by rw [← vj]; exact pm1.append_right _)⟩,fun A hA=>hA _ (.head _)⟩)
  (NV w b2 s x2 x3 T2 T3 p1 p2 p3 ah) (hT:=wR.mpr (by show l≤13; lia))
 intro P hP
 refine (z P hP).qd ?_
 rintro e L ⟨z,A,P',⟨hA,L1,L2,D1,D2,t1,t2,hz,pm⟩,sub,he,rfl⟩
 obtain ⟨_,tt⟩:=t1.cat (a:=a) t2
 rw [← hz,← hA] at tt
 refine ⟨(QS (61::32::s) ah z.1 z.2.1).pV A++(R++(L1++(A 3,A0 z.2.2.1)::L2)),?_,⟨(z.1,z.2.1),A,_,⟨_,tt,.refl _⟩,fun q m=>by rw [hP] at m; rw [vl]; exact vq _ m,he,rfl⟩⟩
 have p2:∀ (X R L1 L2:Lp) (x:Nat×Obj),(X++[x]++(R++(L1++L2))).Perm (X++(R++(L1++x::L2))):=fun X R L1 L2 x=>Dm [X,[x],R,L1,L2] (.a (.a (.l 0) (.q [1])) (.a (.l 2) (.a (.l 3) (.l 4)))) (.a (.l 0) (.a (.l 2) (.a (.l 3) (.r [1] (.l 4))))) rfl
 exact (pm.append_left _).trans (p2 [(A 0,_),(A 1,_),(A 2,_)] R L1 L2 (A 3,A0 z.2.2.1))
def oX(wd z:zl):Spec:=⟨.call (.ref 76) ⟨[.str ⟨⟨Dq wd⟩⟩ 0],[]⟩,[],[],fun q=>.fin (.done (.ret (.str ⟨⟨z⟩⟩ 0))),fun q=>[],fun q=>[]⟩
noncomputable def oD(s r:zl):Spec:=⟨.call (.ref 916) ⟨[.str ⟨⟨s⟩⟩ 0],[]⟩,[],[],fun q=>.fin (.done (.ret (.str ⟨⟨r⟩⟩ 0))),fun q=>[],fun q=>[]⟩
def j2(wd z:zl):A8:=BU [] [] [] (fun q=>oX wd z)
theorem OM{wd z:zl}{l:Nat}{P0:zc}{I:zd}(hs:wd.length+5≤sizeLine)(hw:wd≠[])(hz:(FR wd [] 5 0).1=z)(hl:l≤5):(j2 wd z).qB pw (wf w b b2) (A5 w.2) ⟨l,P0⟩ I I:=
 AL (w:=wf w b b2) (n:=11) (fun q=>by subst hz; exact Xc w b b2 wd _ _ _ hs hw rfl I) (by decide) (fun q=>⟨rfl,rfl,fun q=>rfl⟩) (fun q q=>rfl) (wR.mpr (by show l+1≤11; lia))
def j1(s r:zl):A8:=BU [] [] [] (fun q=>oD s r)
theorem OG{y:Nat}{ys r:zl}{l:Nat}{P0:zc}{I:zd}(hs:ys.length+1≤sizeLine)(hr:(y::ys).reverse=r)(hl:l≤5):(j1 (y::ys) r).qB pw (wf w b b2) (A5 w.2) ⟨l,P0⟩ I I:=
 AL (w:=wf w b b2) (n:=11) (fun q=>by subst hr; exact X7 w b b2 y ys _ hs rfl I) (by decide) (fun q=>⟨rfl,rfl,fun q=>rfl⟩) (fun q q=>rfl) (wR.mpr (by show l+1≤11; lia))
structure m8(c:Nat)(s z1 wd:zl)(y:Nat)(ys z2:zl):Prop where
 hs:s.length+8≤sizeLine
 h0:s≠[]
 q1:(FR (c::s) [] 5 0).1=z1
 rv:(34::c::s).reverse=34::wd
 q2:(FR wd [] 5 0).1=y::ys
 l2:ys.length+1≤sizeLine
 r2:(y::ys).reverse=z2
def X8(P:zp)(c:Nat)(s z1 wd:zl)(y:Nat)(ys z2:zl)(ah:Nat):List (zh→A8):=[fun q=>JH ⟨⟨34::c::s⟩⟩ 1 2 [34,c],fun q=>JH ⟨⟨34::c::s⟩⟩ 2 1 [34],fun q=>CC [50,53,55,32] (34::c::s) (Dq (c::s)),fun q=>j2 (c::s) z1,fun q=>bS P z1 ah,fun q=>j1 (34::c::s) (34::wd),fun q=>CC [50,53,55,32] (34::wd) (Dq wd),fun q=>j2 wd (y::ys),fun q=>j1 (y::ys) z2,fun q=>bS P z2 ah,fun l=>Ce 4 10 (ud l 5 3) (ud l 0 3) (Gm (ud l 5 3) (ud l 0 3)),fun l=>Ce 5 11 (ud l 6 5) (ud l 1 5) (Gm (ud l 6 5) (ud l 1 5))]
theorem NU(w:zt)(b2:Bool)(c:Nat)(s z1 wd:zl)(y:Nat)(ys z2:zl)(ah:Nat):Hn w b2 (fun q=>L4 (34::c::s) ah (fun q=>.plain) (fun q=>.plain) []) (fun q=>X8 w.2 c s z1 wd y ys z2 ah) 12 (fun q q=>[]) [17,15,16] [] (hD 17 95 309037512248881540482508901659614649249988715071864964848250213232010300279640535313082836359856784362149304272045993) 0 [1,1,0,0,4,0,0,0,0,4,0] 1=Hm w b2 (fun q=>L4 (34::c::s) ah (fun q=>.plain) (fun q=>.plain) []) (fun q l=>L4 (34::c::s) ah (fun q=>ud l 1 0) (fun q=>ud l 0 0) []) (fun q=>X8 w.2 c s z1 wd y ys z2 ah) 12 (fun q q=>[]) [17,15,16] [] (hD 17 95 309037512248881540482508901659614649249988715071864964848250213232010300279640535313082836359856784362149304272045993) 0 [1,1,0,0,4,0,0,0,0,4,0] 1:=by kernel_rfl
theorem Gr.par{D1 D2 D3 D4:zu}{l r:PA}{a ah:Nat}{L1 L2:Lp}(h1:Gr l ah (D1,D3) L1)(h2:Gr r ah (D2,D4) L2):Gr (.node a true l r) ah (Gm D1 D2,Gm D3 D4) (L1++L2):=by
 obtain ⟨es,ds,q,ts,e1,e2,td,lt,k1,k2,hL⟩:=h1
 obtain ⟨rC,ds',q',ts',e1',e2',td',lt',k1',k2',hL'⟩:=h2
 dsimp only at k1 k2 k1' k2'
 subst k1 k2 k1' k2'
 refine ⟨_,_,_,ts++ts',0,0,⟨_,_,_,_,_,_,td,td',rfl,rfl,rfl⟩,by rw [vn,vn,lt,lt'],by rw [vl]; rfl,by unfold Dl; rw [vl]; rfl,?_⟩
 unfold IY FT
 rw [vl,wi (by rw [lt,vh]),vl]
 refine (hL.append hL').trans ?_
 exact Dm [ts.zip (es.map Ex),FT q,ts'.zip (rC.map Ex),FT q'] (.a (.a (.l 0) (.l 1)) (.a (.l 2) (.l 3))) (.a (.a (.l 0) (.l 2)) (.a (.l 1) (.l 3))) rfl
theorem RL{pl pr:PA}{a l:Nat}{c:Nat}{s wd:zl}{y:Nat}{ys:zl}(h1:N7 pl (l+1))(h2:N7 pr (l+1))(n1:pl.qX≤4)(n2:pr.qX≤4)(hs:(PA.node a true pl pr).wt=34::c::s)(k:m8 c s pl.wt wd y ys pr.wt)(hl:l≤5):N7 (.node a true pl pr) l:=by
 rintro w b b2 E ah R hE
 rw [hs]
 have lw:wd.length=s.length+1:=by have:=vm List.length k.rv; simp only [List.length_reverse,vr] at this; lia
 have z:=Za (w:=w) (b1:=b) (b2:=b2) (St:=⟨l,Ax E zw⟩) (fun z:zu×zu=>L4 (34::c::s) ah (fun x=>z.1) (fun x=>z.2) []) (fun x x=>True) (fun x=>L4 (34::c::s) ah (fun x=>.plain) (fun x=>.plain) []) (fun x l=>L4 (34::c::s) ah (fun x=>ud l 1 0) (fun x=>ud l 0 0) []) (fun x=>X8 w.2 c s pl.wt wd y ys pr.wt ah) 12 (fun x x=>[]) [17,15,16] [] (hD 17 95 309037512248881540482508901659614649249988715071864964848250213232010300279640535313082836359856784362149304272045993) 0 [1,1,0,0,4,0,0,0,0,4,0] 1 [] (I:=fun P=>P=R)
  (K0:=fun z P'=>∃ L,Gr (.node a true pl pr) ah z L∧P'.Perm (R++L))
  (fun E0 ke=>.q (EJ (by show 2 < s.length+2; have:=zA.mpr k.h0; lia) (by show s.length+2≤sizeLine; have:=k.hs; lia) rfl) fun x x x=>.q (EJ (by show 1 < s.length+2; lia) (by show s.length+2≤sizeLine; have:=k.hs; lia) rfl) fun x x x=>.q (Ao (by show 4+(s.length+2)≤sizeLine; have:=k.hs; lia) rfl) fun x x x=>.cons (OM (by show s.length+1+5≤sizeLine; have:=k.hs; lia) (by simp) k.q1 hl) fun x x x=>.qA (I6 h1 rfl n1 fun P hP=>by rw [hP]; exact hE) fun u2 x g2=>.cons (OG (by show s.length+1+1≤sizeLine; have:=k.hs; lia) k.rv hl) fun x x x=>.q (Ao (by show 4+(wd.length+1)≤sizeLine; have:=k.hs; lia) rfl) fun x x x=>.cons (OM (by have:=k.hs; lia) (by intro h; rw [h] at lw; cases lw) k.q2 hl) fun x x x=>.cons (OG k.l2 k.r2 hl) fun x x x=>.qA (I6 h2 rfl n2 fun P ⟨P0,hP0,L,_,pm⟩=>(hP0 ▸ hE).mono fun q m=>pm.mem_iff.mpr (vq _ m)) fun u3 x g3=>.q (IG g2.1 g3.1) fun u4 x g4=>.q (IG g2.2 g3.2) fun u5 x g5=>.nil fun P ⟨P1,⟨P0,hP0,L1,t1,pm1⟩,L2,t2,pm2⟩=>ke _ _ ⟨(eD (u4.d 0),eD (u5.d 0)),rfl,⟨L1++L2,by have e4:=g4 rfl; have e5:=g5 rfl; exact (show (eD (u4.d 0),eD (u5.d 0))=(Gm _ _,Gm _ _) from Prod.ext e4 e5) ▸ t1.par t2,by subst hP0; exact pm2.trans (by rw [← vj]; exact pm1.append_right _)⟩,fun x x=>trivial⟩)
  (NU w b2 c s pl.wt wd y ys pr.wt ah) (hT:=wR.mpr (by show l≤13; lia))
 intro P hP
 refine (z P hP).pU (fun x h=>h) ?_
 rintro e L ⟨z,A,P',⟨_,hh⟩,sub,he,hL⟩
 exact ⟨z,A,P',hh,sub,he,hL⟩
def PA.tok:PA→Prop
 | .leaf s=>s∈pg
 | .node _ t l r=>l.tok∧r.tok∧match t with
  | false=>∃ s x2 T2 x3 T3 p1 p2 p3,Qn l.wt r.wt=61::32::s∧l.wt=x2::T2∧r.wt=x3::T3∧fi (61::32::s) x2 x3 T2 T3 p1 p2 p3
  | true=>∃ c s wd y ys,Qm l.wt r.wt=34::c::s∧m8 c s l.wt wd y ys r.wt
theorem Jv:∀ (p:PA) (l:Nat),p.tok→p.qX≤4→l+p.qa≤5→N7 p l
 | .leaf s,l,h,_,h2=>RO h h2
 | .node a t p q,l,h0,hv,h2=>by
  have o1:p.tok:=h0.1
  have o2:q.tok:=h0.2.1
  have o3:=h0.2.2
  clear h0
  have hh:l+(max p.qa q.qa+1)≤5:=h2
  have hv:p.qX+q.qX≤4:=hv
  have v1:=vv (xo _ _) hv
  have v2:=vv (yM _ _) hv
  have hg:∀ n,n≤max p.qa q.qa→l+1+n≤5:=fun n hn=>by rw [xe,yH 1]; exact vv (xk (xb hn) l) hh
  have hl:=vv (xo _ _) hh
  have i1:N7 p (l+1):=Jv p (l+1) o1 v1 (hg _ (Nat.le_max_left _ _))
  have i2:N7 q (l+1):=Jv q (l+1) o2 v2 (hg _ (Nat.le_max_right _ _))
  cases t with
  | false=>
   obtain ⟨s,x2,T2,x3,T3,p1,p2,p3,e,e1,e2,k⟩:=o3
   exact RM i1 i2 e1 e2 v1 v2 e k hl
  | true=>
   obtain ⟨c,s,wd,y,ys,e,k⟩:=o3
   exact RL i1 i2 v1 v2 e k hl
noncomputable def A9(nm:Str)(np:Int)(aX aL:Nat):Obj:={ cls:=.ref 95,dict:=some aX,data:=.plain,slots:=#[some (.str nm 0),some (.int np 0),some (.ref aL)] }
noncomputable def AE(aD:Nat):Obj:={ cls:=.ref 192,dict:=some aD }
def AF(P:zp)(aN:Nat)(rn:zq)(po nf:Int):Obj:=BE [kE P "_node2info" (.ref aN),kE P "_ready_nodes" rn,kE P "_npassedout" (.int po 0),kE P "_nfinished" (.int nf 0)] 4
noncomputable def Jp(aS:Nat):Obj:={ cls:=.type "method",data:=.fields #[.ref 142,.ref aS] }
def fh(P:zp)(pv aS aD aN:Nat)(X:Str)(N:List (Str×zq))(nn:Nat)(DN qS:zu):Spec:=⟨.call (.ref pv) ⟨[.str X 0],[]⟩,[pv,aS,aD,aN],[Jp aS,AE aD,AF P aN .none 0 0,A6 DN],fun A=>.fin (.done (.ret .none)),fun A=>[Jp aS,AE aD,AF P aN .none 0 0,A6 qS],fun A=>[A9 X 0 (A 1) (A 2),BE [] 0,A0 (.seq #[] 0)]⟩
variable{St:zc}(w b b2)
theorem Va(pv aS aD aN:Nat)(X:Str)(N:List (Str×zq))(nn:Nat)(DN:zu)(hN:DN=A7 w.2 N nn)(h1:A' N X=none)(hl:N.length≤sizeLine)(I:zd):Spec.px (fun (qS:zu)=>fh w.2 pv aS aD aN X N nn DN qS) (fun (qS:zu) A=>qS=A7 w.2 (N++[(X,.ref (A 0))]) (nn+1)) (fh w.2 pv aS aD aN X N nn DN .plain) (wf w b b2) (Al (⟨7,St⟩)) (I) (I):=by
 refine MV (fun D=>fh w.2 pv aS aD aN X N nn (gD D 0) .plain) (fun D l=>fh w.2 pv aS aD aN X N nn (gD D 0) (ud l 0 0)) (fun D=>[fun z=>FU 3 (gD D 0) X (.none),fun l=>KP 3 (gD D 0) (A7 w.2 (N++[(X,.ref (un l 0 0 0+1))]) (nn+1)) X (.ref (un l 0 0 0+1))]) 2 (fun D l=>[(0,un l 1 0 0+1)]) [8,7,10] [false,false,false,true] (hD 16 280 13173061660718268842666407064857021091784298887635331178395420388741125296390340591278298990120638977572306774933287290686409414772556985880151477022361142313404743498165597472918337703875546198016690872100488919873838735656807650664126029679106551967802862860970244956942903381447816251828658021160491936628516644050622324979965624739329) 3 [10] 1020 [DN] (fun E0 ke=>?_)
 refine .q (BO (w:=wf w b b2) hN (by rw [h1]; rfl)) fun u0 z z=>.cons (Dg (w:=wf w b b2) hN h1 rfl hl) fun u1 z g1=>.nil fun P hP=>ke _ _ ⟨eD (u1.d 0),rfl,hP,fun A a=>?_⟩
 try dsimp only
 have a0:A 0=u0.n 0 0+1:=a _ (.head _)
 exact g1.1.1.trans (vm (fun q:Nat=>A7 w.2 (N++[(X,(Value.ref q))]) (nn+1)) a0.symm)
def fg(P:zp)(pv aS aD aN a1 l1:Nat)(X Y1:Str)(n1:Int)(x1:Nat)(N:List (Str×zq))(nn:Nat)(DN qS r6 qj:zu):Spec:=⟨.call (.ref pv) ⟨[.str X 0,.str Y1 0],[]⟩,[pv,aS,aD,aN,a1,l1],[Jp aS,AE aD,AF P aN .none 0 0,A6 DN,A9 Y1 n1 x1 l1,A0 r6],fun A=>.fin (.done (.ret .none)),fun A=>[Jp aS,AE aD,AF P aN .none 0 0,A6 qS,A9 Y1 n1 x1 l1,A0 qj],fun A=>[A9 X 1 (A 1) (A 2),BE [] 0,A0 (.seq #[] 0)]⟩
theorem VZ(pv aS aD aN a1 l1:Nat)(X Y1:Str)(n1:Int)(x1:Nat)(N:List (Str×zq))(nn:Nat)(DN r6 qj:zu)(hN:DN=A7 w.2 N nn)(h1:A' N X=none)(hl:N.length≤sizeLine)(k1:∀ a:Nat,(A' (N++[(X,.ref a)]) Y1).getD .none=.ref a1)(v1:zf)(e1:Nat)(tS:r6=.seq ⟨v1⟩ e1)(tR:qj=.seq ⟨v1++[.str X 0]⟩ (e1+1))(tJ:v1.length≤sizeLine)(I:zd):Spec.px (fun (qS:zu)=>fg w.2 pv aS aD aN a1 l1 X Y1 n1 x1 N nn DN qS r6 qj) (fun (qS:zu) A=>qS=A7 w.2 (N++[(X,.ref (A 0))]) (nn+1)) (fg w.2 pv aS aD aN a1 l1 X Y1 n1 x1 N nn DN .plain r6 qj) (wf w b b2) (Al (⟨7,St⟩)) (I) (I):=by
 refine MV (fun D=>fg w.2 pv aS aD aN a1 l1 X Y1 n1 x1 N nn (gD D 0) .plain (gD D 1) qj) (fun D l=>fg w.2 pv aS aD aN a1 l1 X Y1 n1 x1 N nn (gD D 0) (ud l 2 0) (gD D 1) (ud l 0 0)) (fun D=>[fun z=>FU 3 (gD D 0) X (.none),fun l=>KP 3 (gD D 0) (A7 w.2 (N++[(X,.ref (un l 0 0 0+1))]) (nn+1)) X (.ref (un l 0 0 0+1)),fun l=>FU 3 (ud l 0 0) Y1 (.ref a1),fun z=>Dn 5 (gD D 1) qj (.str X 0)]) 4 (fun D l=>[(0,un l 3 0 0+1)]) [10,9,12] [false,false,false,true,false,true] (hD 19 366 988363933256176525679807103482703781232192818883862531828617473539751824688527165347217491778092131002623200464962037505407386564013069100408643005763609828826317630312151469124118939516761669379124505912488988431239222679528703094072692880247631196958805267667055642809680389825583800962141052589195160084152528713071107027008605863509478794239150145138488485098880510132174747105568085265838559452117406732978046967637948027490959575467107759435648363317366248099661) 3 [10,12,2] 1020 [DN,r6] (fun E0 ke=>?_)
 refine .q (BO (w:=wf w b b2) hN (by rw [h1]; rfl)) fun u0 z z=>.cons (Dg (w:=wf w b b2) hN h1 rfl hl) fun u1 z g1=>.q (BO (w:=wf w b b2) g1.1.1 (k1 _)) fun z z z=>.cons (Av tS tR tJ) fun u3 z g3=>.nil fun P hP=>ke _ _ ⟨eD (u1.d 0),@id (eD (u3.d 0)=qj) (g3.1.1) ▸ rfl,hP,fun A a=>?_⟩
 try dsimp only
 have a0:A 0=u0.n 0 0+1:=a _ (.head _)
 exact g1.1.1.trans (vm (fun q:Nat=>A7 w.2 (N++[(X,(Value.ref q))]) (nn+1)) a0.symm)
def fe(P:zp)(pv aS aD aN a1 l1 a2 l2:Nat)(X Y1 Y2:Str)(n1 n2:Int)(x1 x2:Nat)(N:List (Str×zq))(nn:Nat)(DN qS r6 qj qk rJ:zu):Spec:=⟨.call (.ref pv) ⟨[.str X 0,.str Y1 0,.str Y2 0],[]⟩,[pv,aS,aD,aN,a1,l1,a2,l2],[Jp aS,AE aD,AF P aN .none 0 0,A6 DN,A9 Y1 n1 x1 l1,A0 r6,A9 Y2 n2 x2 l2,A0 qk],fun A=>.fin (.done (.ret .none)),fun A=>[Jp aS,AE aD,AF P aN .none 0 0,A6 qS,A9 Y1 n1 x1 l1,A0 qj,A9 Y2 n2 x2 l2,A0 rJ],fun A=>[A9 X 2 (A 1) (A 2),BE [] 0,A0 (.seq #[] 0)]⟩
theorem VY(pv aS aD aN a1 l1 a2 l2:Nat)(X Y1 Y2:Str)(n1 n2:Int)(x1 x2:Nat)(N:List (Str×zq))(nn:Nat)(DN r6 qj qk rJ:zu)(hN:DN=A7 w.2 N nn)(h1:A' N X=none)(hl:N.length≤sizeLine)(k1:∀ a:Nat,(A' (N++[(X,.ref a)]) Y1).getD .none=.ref a1)(v1:zf)(e1:Nat)(tS:r6=.seq ⟨v1⟩ e1)(tR:qj=.seq ⟨v1++[.str X 0]⟩ (e1+1))(tJ:v1.length≤sizeLine)(k2:∀ a:Nat,(A' (N++[(X,.ref a)]) Y2).getD .none=.ref a2)(v2:zf)(e2:Nat)(sk:qk=.seq ⟨v2⟩ e2)(uJ:rJ=.seq ⟨v2++[.str X 0]⟩ (e2+1))(uF:v2.length≤sizeLine)(I:zd):Spec.px (fun (qS:zu)=>fe w.2 pv aS aD aN a1 l1 a2 l2 X Y1 Y2 n1 n2 x1 x2 N nn DN qS r6 qj qk rJ) (fun (qS:zu) A=>qS=A7 w.2 (N++[(X,.ref (A 0))]) (nn+1)) (fe w.2 pv aS aD aN a1 l1 a2 l2 X Y1 Y2 n1 n2 x1 x2 N nn DN .plain r6 qj qk rJ) (wf w b b2) (Al (⟨7,St⟩)) (I) (I):=by
 refine MV (fun D=>fe w.2 pv aS aD aN a1 l1 a2 l2 X Y1 Y2 n1 n2 x1 x2 N nn (gD D 0) .plain (gD D 1) qj (gD D 2) rJ) (fun D l=>fe w.2 pv aS aD aN a1 l1 a2 l2 X Y1 Y2 n1 n2 x1 x2 N nn (gD D 0) (ud l 4 0) (gD D 1) (ud l 2 0) (gD D 2) (ud l 0 0)) (fun D=>[fun z=>FU 3 (gD D 0) X (.none),fun l=>KP 3 (gD D 0) (A7 w.2 (N++[(X,.ref (un l 0 0 0+1))]) (nn+1)) X (.ref (un l 0 0 0+1)),fun l=>FU 3 (ud l 0 0) Y1 (.ref a1),fun z=>Dn 5 (gD D 1) qj (.str X 0),fun l=>FU 3 (ud l 2 0) Y2 (.ref a2),fun z=>Dn 7 (gD D 2) rJ (.str X 0)]) 6 (fun D l=>[(0,un l 5 0 0+1)]) [12,11,14] [false,false,false,true,false,true,false,true] (hD 22 452 5621891940913526332502177242881954794518556334956983366509790803208493653846322080197705925411315697163438816119032427137710818267244880650904997942465642881247000260276813603152399730676292057203627496689592797481803612422450034222288466346155697068280202249125307736593464630176212849151244886540231386204770187598779529537337010871827155411556615736394582419298747063797287211351556395970851831072646805834427964521392971787929914941983950304144546621566887073118010171161989657716193146954305939530546579491226839031697678730730159579086133874242238624394953753287396425024696282927902834170102110633657) 3 [10,12,2,3,2] 1020 [DN,r6,qk] (fun E0 ke=>?_)
 refine .q (BO (w:=wf w b b2) hN (by rw [h1]; rfl)) fun u0 z z=>.cons (Dg (w:=wf w b b2) hN h1 rfl hl) fun u1 z g1=>.q (BO (w:=wf w b b2) g1.1.1 (k1 _)) fun z z z=>.cons (Av tS tR tJ) fun u3 z g3=>.q (BO (w:=wf w b b2) g1.1.1 (k2 _)) fun z z z=>.cons (Av sk uJ uF) fun u5 z g5=>.nil fun P hP=>ke _ _ ⟨eD (u1.d 0),@id (eD (u3.d 0)=qj) (g3.1.1) ▸ @id (eD (u5.d 0)=rJ) (g5.1.1) ▸ rfl,hP,fun A a=>?_⟩
 try dsimp only
 have a0:A 0=u0.n 0 0+1:=a _ (.head _)
 exact g1.1.1.trans (vm (fun q:Nat=>A7 w.2 (N++[(X,(Value.ref q))]) (nn+1)) a0.symm)
def fc(P:zp)(pv aS aD aN a1 l1 a2 l2 a3 l3:Nat)(X Y1 Y2 Y3:Str)(n1 n2 n3:Int)(x1 x2 x3:Nat)(N:List (Str×zq))(nn:Nat)(DN qS r6 qj qk rJ t8 sf:zu):Spec:=⟨.call (.ref pv) ⟨[.str X 0,.str Y1 0,.str Y2 0,.str Y3 0],[]⟩,[pv,aS,aD,aN,a1,l1,a2,l2,a3,l3],[Jp aS,AE aD,AF P aN .none 0 0,A6 DN,A9 Y1 n1 x1 l1,A0 r6,A9 Y2 n2 x2 l2,A0 qk,A9 Y3 n3 x3 l3,A0 t8],fun A=>.fin (.done (.ret .none)),fun A=>[Jp aS,AE aD,AF P aN .none 0 0,A6 qS,A9 Y1 n1 x1 l1,A0 qj,A9 Y2 n2 x2 l2,A0 rJ,A9 Y3 n3 x3 l3,A0 sf],fun A=>[A9 X 3 (A 1) (A 2),BE [] 0,A0 (.seq #[] 0)]⟩
theorem VX(pv aS aD aN a1 l1 a2 l2 a3 l3:Nat)(X Y1 Y2 Y3:Str)(n1 n2 n3:Int)(x1 x2 x3:Nat)(N:List (Str×zq))(nn:Nat)(DN r6 qj qk rJ t8 sf:zu)(hN:DN=A7 w.2 N nn)(h1:A' N X=none)(hl:N.length≤sizeLine)(k1:∀ a:Nat,(A' (N++[(X,.ref a)]) Y1).getD .none=.ref a1)(v1:zf)(e1:Nat)(tS:r6=.seq ⟨v1⟩ e1)(tR:qj=.seq ⟨v1++[.str X 0]⟩ (e1+1))(tJ:v1.length≤sizeLine)(k2:∀ a:Nat,(A' (N++[(X,.ref a)]) Y2).getD .none=.ref a2)(v2:zf)(e2:Nat)(sk:qk=.seq ⟨v2⟩ e2)(uJ:rJ=.seq ⟨v2++[.str X 0]⟩ (e2+1))(uF:v2.length≤sizeLine)(k3:∀ a:Nat,(A' (N++[(X,.ref a)]) Y3).getD .none=.ref a3)(v3:zf)(e3:Nat)(vD:t8=.seq ⟨v3⟩ e3)(vC:sf=.seq ⟨v3++[.str X 0]⟩ (e3+1))(uh:v3.length≤sizeLine)(I:zd):Spec.px (fun (qS:zu)=>fc w.2 pv aS aD aN a1 l1 a2 l2 a3 l3 X Y1 Y2 Y3 n1 n2 n3 x1 x2 x3 N nn DN qS r6 qj qk rJ t8 sf) (fun (qS:zu) A=>qS=A7 w.2 (N++[(X,.ref (A 0))]) (nn+1)) (fc w.2 pv aS aD aN a1 l1 a2 l2 a3 l3 X Y1 Y2 Y3 n1 n2 n3 x1 x2 x3 N nn DN .plain r6 qj qk rJ t8 sf) (wf w b b2) (Al (⟨7,St⟩)) (I) (I):=by
 refine MV (fun D=>fc w.2 pv aS aD aN a1 l1 a2 l2 a3 l3 X Y1 Y2 Y3 n1 n2 n3 x1 x2 x3 N nn (gD D 0) .plain (gD D 1) qj (gD D 2) rJ (gD D 3) sf) (fun D l=>fc w.2 pv aS aD aN a1 l1 a2 l2 a3 l3 X Y1 Y2 Y3 n1 n2 n3 x1 x2 x3 N nn (gD D 0) (ud l 6 0) (gD D 1) (ud l 4 0) (gD D 2) (ud l 2 0) (gD D 3) (ud l 0 0)) (fun D=>[fun z=>FU 3 (gD D 0) X (.none),fun l=>KP 3 (gD D 0) (A7 w.2 (N++[(X,.ref (un l 0 0 0+1))]) (nn+1)) X (.ref (un l 0 0 0+1)),fun l=>FU 3 (ud l 0 0) Y1 (.ref a1),fun z=>Dn 5 (gD D 1) qj (.str X 0),fun l=>FU 3 (ud l 2 0) Y2 (.ref a2),fun z=>Dn 7 (gD D 2) rJ (.str X 0),fun l=>FU 3 (ud l 4 0) Y3 (.ref a3),fun z=>Dn 9 (gD D 3) sf (.str X 0)]) 8 (fun D l=>[(0,un l 7 0 0+1)]) [14,13,16] [false,false,false,true,false,true,false,true,false,true] (hD 25 538 117338377472997617907050733838088568696367091292028183409523139011540748281757634366849565143330360936834570596988895796828364032437521589043137480637033134209094318083785973328225352143862751245673196820393166595751146664098059496805731608275855691774911948390780922494524473749836370636085934523039614819681659084133908342209274473886480610893664128120018904209924650931063025208404767914113033505036776677637967633018956718062238130606540823866046837401442746128362394484450878096701221231491263532467298002402005854050154949496504839561414671697414818661749834299357352565384702321266148502967023288209166203303986139501739188734806839828781297975893188065380139416709501209077247661016966698098498384850772377490102385791063425134122381210327148126) 3 [10,12,2,3,2,3,2] 1020 [DN,r6,qk,t8] (fun E0 ke=>?_)
 refine .q (BO (w:=wf w b b2) hN (by rw [h1]; rfl)) fun u0 z z=>.cons (Dg (w:=wf w b b2) hN h1 rfl hl) fun u1 z g1=>.q (BO (w:=wf w b b2) g1.1.1 (k1 _)) fun z z z=>.cons (Av tS tR tJ) fun u3 z g3=>.q (BO (w:=wf w b b2) g1.1.1 (k2 _)) fun z z z=>.cons (Av sk uJ uF) fun u5 z g5=>.q (BO (w:=wf w b b2) g1.1.1 (k3 _)) fun z z z=>.cons (Av vD vC uh) fun u7 z g7=>.nil fun P hP=>ke _ _ ⟨eD (u1.d 0),@id (eD (u3.d 0)=qj) (g3.1.1) ▸ @id (eD (u5.d 0)=rJ) (g5.1.1) ▸ @id (eD (u7.d 0)=sf) (g7.1.1) ▸ rfl,hP,fun A a=>?_⟩
 try dsimp only
 have a0:A 0=u0.n 0 0+1:=a _ (.head _)
 exact g1.1.1.trans (vm (fun q:Nat=>A7 w.2 (N++[(X,(Value.ref q))]) (nn+1)) a0.symm)
end
section
open PySem PySem.W PySem.W.X PyProof.Rows
section
noncomputable def Gz(pb:Nat):Obj:={ cls:=.type "method-wrapper",data:=.fields #[.builtin "list_iterator.__next__",.ref pb] }
theorem WT{o:Obj}{a:Nat}(hO:eO o=Gz a):o = { cls:=.type "method-wrapper",dict:=none,data:=.fields #[.builtin "list_iterator.__next__",.ref a],slots:=#[] }:=by
 obtain ⟨q,e⟩:=BY o
 rw [hO] at e
 subst e
 exact rfl
theorem Lm{w:zt}{A:Around}{R:Result→zr→Prop}{s:zr}{a it:Nat}(ho:s.heap.get? a=some { cls:=.type "method-wrapper",dict:=none,data:=.fields #[.builtin "list_iterator.__next__",.ref it],slots:=#[] })
  (h:codeAny (model pw w) A (.builtin "list_iterator.__next__" ⟨[.ref it],[]⟩) R s):codeAny (model pw w) A (.call (.ref a) ⟨[],[]⟩) R s:=by
 refine codeAny_of_tree ?_
 show wpAny _ A.in1 (callAny (.ref a) ⟨[],[]⟩) _ _ s
 unfold callAny
 refine vi (wpAny_load ho ?_)
 have e:checkBoundCall "list_iterator.__next__" ⟨[.ref it],[]⟩=pure ():=by kernel_rfl
 show wpAny _ _ (checkBoundCall "list_iterator.__next__" ⟨[.ref it],[]⟩>>=fun q=>again (.builtin "list_iterator.__next__" ⟨[.ref it],[]⟩)) _ _ _
 rw [e]
 exact vi (vx (vx ⟨plainId_quiet yJ.plain _,h⟩))
section
variable{w:zt}{D:zu}{vs:zf}{n:Nat}{v:zq}{I:zd}
def nM(it l a:Nat)(O O':Obj)(X:Obj)(v:zq):Spec:=⟨.call (.ref a) ⟨[],[]⟩,[it,l,a],[O,X,Gz it],fun q=>.fin (.done (.ret v)),fun q=>[O',X,Gz it],fun q=>[]⟩
def kR(it l a:Nat)(O O':Obj)(X:Obj):Spec:=⟨.call (.ref a) ⟨[],[]⟩,[it,l,a],[O,X,Gz it],fun A=>.err (.ref (A 1)),fun q=>[O',X,Gz it],fun A=>[FP,QU (A 0)]⟩
theorem Ll{it l a k:Nat}{O O' X:Obj}{P:Lp}:((k+1,QU k)::(k,FP)::(it,O')::(l,X)::(a,Gz it)::P).Perm ((kR it l a O O' X).pV (fun j=>if j=0 then k else k+1)++P):=by
 show ([(k+1,QU k)]++([(k,FP)]++([(it,O'),(l,X),(a,Gz it)]++P))).Perm (([(it,O'),(l,X),(a,Gz it)]++[(k,FP),(k+1,QU k)])++P)
 rw [← vj,← vj]
 refine xA P ?_
 refine wJ.trans ?_
 refine vy _ ?_
 exact List.Perm.swap _ _ _
theorem Tz(it l a i:Nat)(hD:D=.seq ⟨vs⟩ n)(hv:vs[i]?=some v)(Sf:Pos→ze→Prop)(hS:∀ pc pN,Sf pc pN→Eh pc pN):(nM it l a (AV l i) (AV l ((i:Int)+1)) (A0 D) v).pP w Sf I I:=by
 subst hD
 intro P hI
 refine Eb hS fun c A s L hL hc H hh t4 Q E hq he=>?_
 obtain ⟨ps,rfl,ha⟩:=Ak hc
 have ha:ps=[]:=xa.mp ha
 subst ha
 subst hL
 have H':BA (A5 w.2) s ((it,AV l i)::(l,A0 (.seq ⟨vs⟩ n))::(a,Gz it)::P):=H
 obtain ⟨o,ho,hO⟩:=H'.find
 obtain ⟨ol,rA,hOl⟩:=Cb H'
 obtain ⟨oa,hoa,hOa⟩:=H'.own (a,Gz it) (.tail _ (.tail _ (.head _)))
 obtain rfl:=WT hOa
 obtain ⟨t,rfl⟩:=Fs hO
 obtain ⟨xs,rfl,hx⟩:=Ai hOl
 obtain ⟨y,hy,ey⟩:=Cx hx hv
 rw [← hO] at H'
 have U:=Bd (f:=Obj.mapFields (·.setIfInBounds 1 (rawInt ((i:Int)+1)))) (tk:=s.toks) H' ho (o':={ cls:=.type "list_iterator",dict:=none,data:=.fields #[.ref l,.int ((i:Int)+1) 0],slots:=#[] }) rfl rfl
 rw [hO] at U
 refine zI (Lm hoa (z6 ye ?_))
 rw [yU yJ.plain _]
 refine wpAny_mono (Q:=fun fin s'=>∃ r,fin=.done (.ret r)∧Q r s') ?_ (fun fin s' h'=>by obtain ⟨r,rfl,hq⟩:=h'; exact hq) fun q q e=>e
 show wpAny _ _ (field (.ref it) 0>>=_) _ _ s
 refine vi (xi ho rfl (x:=.ref l) rfl ?_)
 show wpAny _ _ (if (Value.ref l==Value.none)=true then _ else _) _ _ s
 rw [w2 (show ¬ ((Value.ref l==Value.none)=true) from wX)]
 show wpAny _ _ (field (.ref it) 1>>=_) _ _ s
 refine vi (xi ho rfl (x:=.int i t) rfl ?_)
 show wpAny _ _ (seqItems? (.ref l)>>=_) _ _ s
 refine vi (yX rA rfl ?_)
 simp only [yQ,hy]
 exact vi (xx ho rfl (by simp) (vx ⟨y,rfl,hq y _ _ ⟨fun q=>0,P,hI,fun q m=>m,by rw [ey]; rfl,rfl⟩ U.1 U.2⟩))
theorem U3(it l a i:Nat)(hD:D=.seq ⟨vs⟩ n)(hv:vs[i]?=none)(Sf:Pos→ze→Prop)(hS:∀ pc pN,Sf pc pN→Eh pc pN):(kR it l a (AV l i) (Bn i) (A0 D)).pP w Sf I I:=by
 subst hD
 intro P hI
 refine Eb hS fun c A s L hL hc H hh t4 Q E hq he=>?_
 obtain ⟨ps,rfl,ha⟩:=Ak hc
 have ha:ps=[]:=xa.mp ha
 subst ha
 subst hL
 have H':BA (A5 w.2) s ((it,AV l i)::(l,A0 (.seq ⟨vs⟩ n))::(a,Gz it)::P):=H
 obtain ⟨o,ho,hO⟩:=H'.find
 obtain ⟨ol,rA,hOl⟩:=Cb H'
 obtain ⟨oa,hoa,hOa⟩:=H'.own (a,Gz it) (.tail _ (.tail _ (.head _)))
 obtain rfl:=WT hOa
 obtain ⟨t,rfl⟩:=Fs hO
 obtain ⟨xs,rfl,hx⟩:=Ai hOl
 have hy:=Iy hx hv
 rw [← hO] at H'
 have U:=Bd (f:=Obj.mapFields (·.setIfInBounds 0 .none)) (tk:=s.toks) H' ho (o':={ cls:=.type "list_iterator",dict:=none,data:=.fields #[.none,.int i t],slots:=#[] }) rfl rfl
 rw [hO] at U
 refine zI (Lm hoa (z6 ye ?_))
 rw [yU yJ.plain _]
 refine wpAny_mono (Q:=fun fin s'=>∃ r,fin=.done (.ret r)∧Q r s') ?_ (fun fin s' h'=>by obtain ⟨r,rfl,hq⟩:=h'; exact hq) fun q q e=>e
 show wpAny _ _ (field (.ref it) 0>>=_) _ _ s
 refine vi (xi ho rfl (x:=.ref l) rfl ?_)
 show wpAny _ _ (if (Value.ref l==Value.none)=true then _ else _) _ _ s
 rw [w2 (show ¬ ((Value.ref l==Value.none)=true) from wX)]
 show wpAny _ _ (field (.ref it) 1>>=_) _ _ s
 refine vi (xi ho rfl (x:=.int i t) rfl ?_)
 show wpAny _ _ (seqItems? (.ref l)>>=_) _ _ s
 refine vi (yX rA rfl ?_)
 simp only [yQ,hy]
 refine vi (wpAny_rule (vi (xx ho rfl (by simp) ?_)))
 refine G4 t4 U.1 fun k s2 H2 F2=>?_
 exact he _ _ _ ⟨fun j=>if j=0 then k else k+1,P,hI,fun q m=>m,rfl,rfl⟩ (H2.perm (Ll (O:=FP))) ((U.2.trans (wx (xM ..).1.symm) F2).perm (Ll (O:=FP)))
def bg(mi ml mm:Nat)(i:Nat)(D:zu)(v:zq):A8:=Cm (fun q=>none) [mi,ml,mm] [false,true] [] (fun X=>nM (A4 X mi) (A4 X ml) (A4 X mm) (AV (A4 X ml) i) (AV (A4 X ml) ((i:Int)+1)) (A0 D) v)
theorem TN{St:Tl}{mi ml mm i:Nat}{I:zd}(hm:[mi,ml,mm].Nodup)(hD:D=.seq ⟨vs⟩ n)(hv:vs[i]?=some v):(bg mi ml mm i D v).qB pw w (A5 w.2) St I I:=
 Ab (w:=w) (Sf:=fun q=>Eh) (fun X=>Tz (A4 X mi) (A4 X ml) (A4 X mm) i hD hv _ (fun q q h=>h)) CP hm (fun q=>⟨rfl,rfl,fun q=>rfl⟩) (fun q q=>rfl)
def bh(mi ml mm:Nat)(i:Nat)(D:zu):A8:=Cm (fun q=>none) [mi,ml,mm] [false,true] [] (fun X=>kR (A4 X mi) (A4 X ml) (A4 X mm) (AV (A4 X ml) i) (Bn i) (A0 D))
theorem TO{St:Tl}{mi ml mm i:Nat}{I:zd}(hm:[mi,ml,mm].Nodup)(hD:D=.seq ⟨vs⟩ n)(hv:vs.length≤i):(bh mi ml mm i D).qB pw w (A5 w.2) St I I:=
 Ab (w:=w) (Sf:=fun q=>Eh) (fun X=>U3 (A4 X mi) (A4 X ml) (A4 X mm) i hD (List.getElem?_eq_none hv) _ (fun q q h=>h)) CP hm (fun q=>⟨rfl,rfl,fun q=>rfl⟩) (fun q q=>rfl)
end
end
end
section
open PySem PySem.W PySem.W.X
noncomputable def VU:Stmt→Expr
 | .Assign _ e _=>e
 | _=>default
def ka(P:zp):Expr:=VU ((CM (EW (YL P))).getD 1 (.Pass default))
def d5(P:zp)(aK fr:Nat):Env:={ scope:=G9 (Nm (ka P)),locals:=aK,globals:=3,cells:=[],qual:=Str.ofString "TopologicalSorter.prepare.<locals>.",func:=none,code:=.ref 146,frame:=some fr,builtins:=0 }
def ES(P:zp)(aI aA aK fr:Nat):Code:=.compLoop (ka P) 0 (.ref aI) (.ref aA) (d5 P aK fr)
def Nf(P:zp)(aI aA aK fr:Nat):Code:=.compStart (ka P) 0 (.ref aI) (.ref aA) (d5 P aK fr)
def kO(P:zp):Option Nat→Obj
 | none=>BE [] 0
 | some a=>BE [kE P "i" (.ref a)] 1
def iy(P:zp)(aI aN aA aK:Nat)(fr ln nn:Nat)(DN DA:zu):Spec:=⟨Nf P aI aA aK fr,[aI,aN,aA,aK],[C2 aN 0 ln nn,A6 DN,A0 DA,kO P none],fun A=>.fin (.again (ES P aI aA aK fr)),fun A=>[C2 aN 0 ln nn,A6 DN,A0 DA,kO P none],fun A=>[]⟩
variable{St:zc}(w:zt)(b b2:Bool)
theorem Se(aI aN aA aK:Nat)(fr ln nn:Nat)(DN DA:zu)(I:zd):(iy w.2 aI aN aA aK fr ln nn DN DA).PI w b b2 8 St I:=G8 (fun D=>iy w.2 aI aN aA aK fr ln nn (gD D 0) (gD D 1)) (fun D l=>iy w.2 aI aN aA aK fr ln nn (gD D 0) (gD D 1)) (fun D=>(Ag [])) 0 [] [false,true,true,false] (fun b2=>bif b2 then [] else [1,1,1,1]) (fun q=>1000000) (fun q=>[]) 0 [DN,DA] fun E0 ke=>.pO ke rfl
def ix(P:zp)(aI aN aA aK aJ:Nat)(fr i ln xJ lJ:Nat)(X:Str)(k:Option Nat)(N:List (Str×zq))(nn:Nat)(DN DA qC:zu):Spec:=⟨ES P aI aA aK fr,[aI,aN,aA,aK,aJ],[C2 aN i ln nn,A6 DN,A0 DA,kO P k,A9 X 0 xJ lJ],fun A=>.fin (.again (ES P aI aA aK fr)),fun A=>[C2 aN ((i:Int)+1) ln nn,A6 DN,A0 qC,kO P (some aJ),A9 X 0 xJ lJ],fun A=>[]⟩
theorem Sd(aI aN aA aK aJ:Nat)(fr i ln xJ lJ:Nat)(X:Str)(k:Option Nat)(N:List (Str×zq))(nn:Nat)(DN DA qC:zu)(hN:DN=A7 w.2 N nn)(rh:N.length=ln)(hi:N[i]?=some (X,.ref aJ))(vs:zf)(e:Nat)(hA:DA=.seq ⟨vs⟩ e)(sI:qC=.seq ⟨vs++[.str X 0]⟩ (e+1))(hs:vs.length≤sizeLine)(I:zd):(ix w.2 aI aN aA aK aJ fr i ln xJ lJ X k N nn DN DA qC).PI w b b2 8 St I:=Ae (Cs.oo k 0) (fun z D=>ix w.2 aI aN aA aK aJ fr i ln xJ lJ X z N nn (gD D 0) (gD D 1) qC) (fun z D l=>ix w.2 aI aN aA aK aJ fr i ln xJ lJ X z N nn (gD D 0) (gD D 1) (ud l 0 0)) (fun z D=>(Ag [GK 0 1 i ln nn (gD D 0) (.ref aJ),Dn 2 (gD D 1) qC (.str X 0)])) 2 (fun z=>[]) [false,true,true,false,false] (hD 7 55 22031200517672453892742305029169363625388549275) 0 [5] 0 [DN,DA] fun E0 ke=>.q ((by subst rh; exact F9 (w:=wf w b b2) hN hi)) fun y y y=>.cons (Av hA sI hs) fun u1 y g1=>.pO ke (@id (eD (u1.d 0)=qC) (g1.1.1) ▸ rfl)
def iu(P:zp)(aI aN aA aK aJ:Nat)(fr i ln xJ lJ m:Nat)(X:Str)(k:Option Nat)(N:List (Str×zq))(nn:Nat)(DN DA:zu):Spec:=⟨ES P aI aA aK fr,[aI,aN,aA,aK,aJ],[C2 aN i ln nn,A6 DN,A0 DA,kO P k,A9 X ((m+1:Nat):Int) xJ lJ],fun A=>.fin (.again (ES P aI aA aK fr)),fun A=>[C2 aN ((i:Int)+1) ln nn,A6 DN,A0 DA,kO P (some aJ),A9 X ((m+1:Nat):Int) xJ lJ],fun A=>[]⟩
theorem Sb(aI aN aA aK aJ:Nat)(fr i ln xJ lJ m:Nat)(X:Str)(k:Option Nat)(N:List (Str×zq))(nn:Nat)(DN DA:zu)(hN:DN=A7 w.2 N nn)(rh:N.length=ln)(hi:N[i]?=some (X,.ref aJ))(I:zd):(iu w.2 aI aN aA aK aJ fr i ln xJ lJ m X k N nn DN DA).PI w b b2 8 St I:=Ae (Cs.oo k 0) (fun z D=>iu w.2 aI aN aA aK aJ fr i ln xJ lJ m X z N nn (gD D 0) (gD D 1)) (fun z D l=>iu w.2 aI aN aA aK aJ fr i ln xJ lJ m X z N nn (gD D 0) (gD D 1)) (fun z D=>(Ag [GK 0 1 i ln nn (gD D 0) (.ref aJ)])) 1 (fun z=>[]) [false,true,true,false,false] (hD 7 29 2346870483373270093309862) 0 [] 0 [DN,DA] fun E0 ke=>.q ((by subst rh; exact F9 (w:=wf w b b2) hN hi)) fun y y y=>.pO ke rfl
def iq(P:zp)(aI aN aA aK:Nat)(fr a0 i ln:Nat)(N:List (Str×zq))(nn:Nat)(DN qS DA:zu):Spec:=⟨ES P aI aA aK fr,[aI,aN,aA,aK],[C2 aN i ln nn,A6 DN,A0 DA,kO P (some a0)],fun A=>.fin (.done .next),fun A=>[Jd i ln nn,A6 qS,A0 DA,kO P (some a0)],fun A=>[]⟩
theorem Sa(aI aN aA aK:Nat)(fr a0 i ln:Nat)(N:List (Str×zq))(nn:Nat)(DN qS DA:zu)(hN:DN=A7 w.2 N nn)(rh:N.length=ln)(hi:N.length≤i)(eN:qS=DN)(I:zd):(iq w.2 aI aN aA aK fr a0 i ln N nn DN qS DA).PI w b b2 8 St I:=Bu (fun D=>iq w.2 aI aN aA aK fr a0 i ln N nn (gD D 0) qS (gD D 1)) (fun D l=>iq w.2 aI aN aA aK fr a0 i ln N nn (gD D 0) (ud l 0 2) (gD D 1)) (fun D=>(Ag [BM "dict_valueiterator.__next__" 0 1 (fun X=>C2 (A4 X 1) i ln nn) (Jd i ln nn) (A6 (gD D 0))])) 1 [] [false,true,true,false] [1,6] 0 [] 0 [DN,DA] fun E0 ke=>.cons (by subst rh; exact Mb (w:=wf w b b2) (by decide) hN hi) fun u0 q g0=>.pO ke (@id (eD (u0.d 2)=qS) (g0.1.1.trans eN.symm) ▸ rfl)
theorem O6{p:zv}{w:zt}{kt:KT}{St:Tl}{I:zd}{C:SX→Sem Unit→Sem Fin}{je:Nat}{env:SX→Env}{f:SX→Nat}{ft:zl}{V:SX→List Vw}{ps:Pos}{ids:List String}{uO:zl}{pq:SX→List (Option (Nat×Obj))}(K:SX→Prop)(hK:∀ x,(∀ j∈ft,(x.T.get j).isSome=true)→uO.map (fun j=>eP (x.T.get j))=pq x→K x)
  (hC:∀ x,FN (C x)) (hf:∀ x,K x→(env x).frame=some (f x)) (hl:ps.line≠0) (own:∀ x,K x→(V x).head?.bind (fun v=>v.2.1.bind (·.frame))=some (f x))
  (top:∀ x Vt,K x→St.P Vt→((BD (V x++Vt)).dropWhile (·.frame != (env x).frame)).head?.bind (·.frame)=some (f x))
  (caller:∀ x Vt,K x→St.P Vt→(V x++Vt).any (fun v=>v.2.2.1==some "claim.caller")=true) (tW:∀ x Vt,K x→St.P Vt→Bl (f x) (V x++Vt)=some ids) (size:¬ (EntryCells.make ids).length > sizeLine)
  (tU:∀ x Vt P,K x→St.P Vt→I P→∀ e∈BD (V x++Vt),DH e∧((∃ j∈ft,e.frame=some (A4 x j))∨∃ f o,e.frame=some f∧(f,o)∈P∧CG o.cls=true)):({ O7 C je env f ft V ps ids with tr:=uO,pre:=pq }:A8).rz p w kt St I:=by
 refine ⟨_,rfl,?_⟩
 intro x s cd qs pN tl P hv hps ht qW hp D hI hP
 replace hv:Ct cd pN=V x:=hv _ rfl
 obtain rfl:qs=ps:=hps _ rfl
 have hv2:Ct cd (pN++tl)=V x++QR tl:=by rw [← hv]; simp only [Ct,QR,vl,yE]
 have ok0:∀ u,((Q9 x je&&ft.all (Kq x))&&(((EC u x.T ft).ins x.m (x.n+x.i) (Cu .none (f x) (rawInt (f x)) qs ids false)).get x.m).isSome)=true:=qW
 have okA:=fun u=>vz.mp (ok0 u)
 have ok1:=vz.mp (okA U0).1
 have OB:∀ j∈ft,Kq x j=true:=wG.mp ok1.2
 have tsome:∀ j∈ft,(x.T.get j).isSome=true:=fun j m=>by obtain ⟨o,e,_⟩:=Ec (OB j m); rw [e]; rfl
 obtain ⟨oe,vs,ge,hd,h1,qf⟩:=Jg ok1.1
 have kx:K x:=hK x tsome hp
 have he:=D.own _ _ _ ge
 have N:Ii cd qs (pN++tl) s (env x) (f x) (ft.map (A4 x)++P.map (·.1)) ids:=by
  refine ⟨hf x kx,?_,hl,?_,?_,?_,size,?_⟩
  ·have:=own x kx; rw [← hv] at this; exact this
  ·rw [hv2]; exact top x _ kx ht.st
  ·rw [hv2]; exact caller x _ kx ht.st
  ·rw [hv2]; exact tW x _ kx ht.st
  ·rw [hv2]
   intro e m
   obtain ⟨⟨k1,k2⟩,⟨j,hj,e1⟩ | ⟨g,o,e1,m1,i1⟩⟩:=tU x _ P kx ht.st hI e m
   ·obtain ⟨o,g,i⟩:=Ec (OB j hj)
    exact ⟨A4 x j,vq _ (vo hj),e1,k1,k2,o,D.own _ _ _ g,i⟩
   ·obtain ⟨o',g',e'⟩:=hP.own _ m1
    have ec:o.cls=o'.cls:=(vm Obj.cls e').symm
    exact ⟨g,vt _ (vo (f:=fun z:Nat×Obj=>z.1) m1),e1,k1,k2,o',g',ec ▸ i1⟩
 obtain ⟨h,S,R⟩:=JJ N he hd h1 qf
 obtain ⟨u,D1,X1,P1,K1⟩:=Nt D hP tsome S
 obtain ⟨oe',ge'⟩:=X1.fwd _ _ _ ge
 have lv:(Cu .none (f x) (rawInt (f x)) qs ids false).isFreed=false:=rfl
 obtain ⟨D2,K2,X2⟩:=J1 (g:=(·.setIfInBounds 1 (.ref (x.n+x.i)))) D1 lv (okA u).2 ge'
 have go:=R.go (p:=p) (w:=w) (hC x)
 rw [D.size] at go
 refine ⟨u,_,?_,D2,X1.trans X2,P1.keep X2 K2,K1.tA X2 K2,trivial⟩
 show Go p w s ⟨C x (Zf (.ref (A4 x je)) (env x)),cd,_,pN++tl⟩ _ ⟨C x (.pure ()),cd,_,pN++tl⟩
 rw [Oe]
 exact go
def B4(e:Env)(E:zi)(ids:List String)(V:List Vw):Prop:=∃ k W,V=Vk k e++W∧Ax E ids W
theorem B4.one{e:Env}{E:zi}{ids:List String}{W:List Vw}(h:Ax E ids W):B4 e E ids ([C0 e]++W):=⟨0,W,rfl,h⟩
theorem B4.up{e:Env}{E:zi}{ids:List String}{W:List Vw}(h:B4 e E ids W):B4 e E ids ([IL e]++W):=by
 obtain ⟨k,W,rfl,h⟩:=h
 exact ⟨k+1,W,rfl,h⟩
noncomputable def W2(C:SX→Sem Unit→Sem Fin)(je:Nat)(e:Env)(fr j k:Nat)(ps:Pos)(ids:List String):A8:={ O7 C je (fun q=>e) (fun q=>fr) [j] (fun q=>List.replicate (k+1) (IL e)) ps ids with tr:=[j],pre:=fun x=>[(eP (x.T.get j)).map fun z=>(fr,z.2)] }
theorem Xw{p:zv}{w:zt}{kt:KT}{n k j fr:Nat}{E:zi}{rO:List String}{R:Lp}{C:SX→Sem Unit→Sem Fin}{je:Nat}{e:Env}{ps:Pos}{ids:List String}
  (hE:AW E R) (hC:∀ x,FN (C x)) (hf:e.frame=some fr) (hs:DH e) (hl:ps.line≠0) (he:"claim.caller"∈rO) (hb:rO.eraseDups=ids) (size:¬ (EntryCells.make ids).length > sizeLine):(W2 C je e fr j k ps ids).rz p w kt ⟨n,B4 e E rO⟩ (fun P=>P=R):=by
 have hV:∀ k' (W:List Vw),BD (List.replicate (k+1) (IL e)++(Vk k' e++W))=e::BD W:=fun k' W=>by
  rw [By,By,Ig]
  have:∀ m,BD (List.replicate m (IL e))=[]:=fun m=>by
   induction m with
   | zero=>rfl
   | succ m ih=>exact ih
  rw [this]; rfl
 have hR:∀ k' (W:List Vw),List.replicate (k+1) (IL e)++(Vk k' e++W)=Vk (k+1+k') e++W:=fun k' W=>by
  unfold Vk
  rw [← vj,← vj,List.replicate_append_replicate]
 refine O6 (fun x=>A4 x j=fr) (fun x h hp=>?_) hC (fun x q=>hf) hl (fun x q=>hf) (fun x Vt q c=>?_) (fun x Vt q c=>?_) (fun x Vt q c=>?_) size (fun x Vt P a c hP g m=>?_)
 ·obtain ⟨⟨b,o⟩,g⟩:=wM.mp (h j (.head _))
  simp only [vu,zD] at hp
  rw [g] at hp
  rw [Bs g]
  simp only [eP,zX] at hp
  simpa using hp
 ·obtain ⟨k',W,rfl,c⟩:=c
  rw [hV,yT (by simp)]
  exact hf
 ·obtain ⟨k',W,rfl,c⟩:=c
  have m:=he
  rw [← c.ids] at m
  obtain ⟨v,hv,e⟩:=List.mem_filterMap.mp m
  exact yZ.mpr ⟨v,vt _ (vt _ hv),by rw [e]; rfl⟩
 ·obtain ⟨k',W,rfl,c⟩:=c
  rw [hR,QI hf,c.ids,hb]
 ·obtain ⟨k',W,rfl,c⟩:=c
  subst hP
  rw [hV,c.envs] at m
  rcases wK.mp m with rfl | m
  ·exact ⟨hs,.inl ⟨j,.head _,by rw [a]; exact hf⟩⟩
  ·obtain ⟨a,b⟩:=hE g m
   exact ⟨a,.inr b⟩
noncomputable def IV:Stmt→Expr
 | .For t _ _ _ _=>t
 | _=>default
noncomputable def EU:Stmt→List Stmt
 | .For _ _ b _ _=>b
 | _=>[]
noncomputable def IW:Stmt→List Stmt
 | .For _ _ _ e _=>e
 | _=>[]
noncomputable def gS:Stmt→Expr
 | .While t _ _ _=>t
 | _=>default
noncomputable def Zw:Stmt→List Stmt
 | .While _ b _ _=>b
 | _=>[]
noncomputable def gT:Stmt→List Stmt
 | .While _ _ e _=>e
 | _=>[]
def M4(P:zp):Stmt:=(CM (EW (YJ P))).getD 5 (.Pass default)
def Uy(P:zp):Stmt:=(EU (M4 P)).getD 1 (.Pass default)
def Ux(P:zp):Stmt:=(Zw (Uy P)).getD 1 (.Pass default)
def Aj(P:zp)(fr:Nat):Env:=Br P 182 YJ fr
def FW(P:zp)(aI fr:Nat):Code:=.forLoop (IV (M4 P)) (.ref aI) (EU (M4 P)) (IW (M4 P)) (Aj P fr)
def Ws(P:zp)(fr:Nat):Code:=.whileLoop (gS (Uy P)) (Zw (Uy P)) (gT (Uy P)) (Aj P fr)
def ND(P:zp)(fr:Nat):Code:=.whileLoop (gS (Ux P)) (Zw (Ux P)) (gT (Ux P)) (Aj P fr)
def pG(P:zp)(aS aN aT aU aE aB:Nat)(X:Str):zu:=.dict ⟨[kE P "self" (.ref aS),kE P "n2i" (.ref aN),kE P "stack" (.ref aT),kE P "itstack" (.ref aU),kE P "seen" (.ref aE),kE P "node2stacki" (.ref aB),kE P "node" (.str X 0)]⟩ 7
def H5(P:zp)(aS aN aT aU aE aB:Nat)(X:Str):Obj:=Bp (pG P aS aN aT aU aE aB X)
theorem AD:5000≤sizeLine:=by rw [sizeLine_eq]; decide
noncomputable def gf:Stmt→List ExceptHandler
 | .Try _ h _ _ _=>h
 | _=>[]
def pC(P:zp):List ExceptHandler:=gf ((Zw (Ux P)).getD 0 (.Pass default))
noncomputable def dg(P:zp)(fr:Nat)(e:zq)(m:Sem Unit):Sem Fin:=
 PySem.W.R.onRaiseR (PySem.W.R.bindR (PySem.W.R.bindR (PySem.W.R.bindR m (fun q=>PySem.W.R.bindR (mV e none) (fun q=>PySem.W.Fast.tw14206642085496868694 e (Aj P fr) (pC P))))
   (fun fl=>match fl with | .next=>PySem.W.Fast.tw12563942051412417395 [] (Aj P fr) | f=>.pure f))
  (fun fl=>match fl with | .next=>PySem.W.Fast.tw12377390311714414960 (ND P fr) | .cont=>PySem.W.Fast.tw12377390311714414960 (ND P fr) | .brk=>.pure (.done .next) | .ret v=>.pure (.done (.ret v))))
  (fun x=>PySem.W.R.bindR (Zf x (Aj P fr)) (fun q=>PySem.W.Fast.tw1623429502029203251 x))
theorem Kn(P:zp)(fr:Nat)(e:zq):FN (dg P fr e):=⟨fun q q q=>rfl,fun q q q q=>rfl,fun q q=>rfl,fun q=>rfl⟩
noncomputable def iK:Pos:=⟨135,31,135,44⟩
theorem oM(P:zp)(fr:Nat):DH (Aj P fr):=by
 have h:(Aj P fr).scope.kind=.function:=by kernel_rfl
 exact ⟨by rw [h]; decide,by kernel_rfl⟩
noncomputable def mw(P:zp)(fr:Nat):A8:=W2 (fun x=>dg P fr (.ref (A4 x 8))) 8 (Aj P fr) fr 0 0 iK zw
theorem Xv{p:zv}{w:zt}{kt:KT}{P:zp}{n fr:Nat}{E:zi}{R:Lp}(hE:AW E R):(mw P fr).rz p w kt ⟨n,B4 (Aj P fr) E zw⟩ (fun P=>P=R):=
 Xw hE (fun q=>Kn ..) rfl (oM P fr) (by decide) (by decide) (by decide) (by decide)
def l8(P:zp)(fr aT aU aM pb aL:Nat)(aS aN aE aB:Nat)(X Y:Str)(k i:Nat)(DT DU DL pz:zu):Spec:=⟨ND P fr,[fr,aT,aU,aM,pb,aL],[H5 P aS aN aT aU aE aB X,A0 DT,A0 DU,Gz pb,AV aL i,A0 DL],fun A=>.fin (.done .next),fun A=>[H5 P aS aN aT aU aE aB Y,A0 DT,A0 DU,Gz pb,AV aL ((i:Int)+1),A0 pz],fun A=>[]⟩
theorem Uj(fr aT aU aM pb aL:Nat)(aS aN aE aB:Nat)(X Y:Str)(k i:Nat)(DT DU DL pz:zu)(ts us ls:zf)(e1 e2 e3:Nat)(hT:DT=.seq ⟨ts⟩ e1)(hk:ts.length=k+1)(tL:k+1 < 2 ^ 62)(hU:DU=.seq ⟨us++[.ref aM]⟩ e2)(uD:us.length < 2 ^ 62)(hL:DL=.seq ⟨ls⟩ e3)(hi:ls[i]?=some (.str Y 0))(eL:pz=DL)(I:zd):(l8 w.2 fr aT aU aM pb aL aS aN aE aB X Y k i DT DU DL pz).PI w b b2 11 St I:=Bu (fun D=>l8 w.2 fr aT aU aM pb aL aS aN aE aB X Y k i (gD D 0) (gD D 1) (gD D 2) pz) (fun D l=>l8 w.2 fr aT aU aM pb aL aS aN aE aB X Y k i (gD D 0) (gD D 1) (gD D 2) (ud l 0 2)) (fun D=>(Ag [I5 1 (gD D 0) (Int.ofNat (Nat.succ k)),OR 2 (gD D 1) (.ref aM),bg 4 5 3 i (gD D 2) (.str Y 0)])) 3 [] [false,true,true,false,false,true] (hD 6 10 13044541) 0 [1,0] 0 [DT,DU,DL] fun E0 ke=>.q (Eo hT (by rw [hk]; rfl) (by lia)) fun z z z=>.q (JF hU uD) fun z z z=>.cons (TN (by decide) hL hi) fun u2 z g2=>.pO ke (@id (eD (u2.d 2)=pz) (g2.1.1.trans eL.symm) ▸ rfl)
def fS(P:zp)(fr aT:Nat)(aS aN aE aB aU:Nat)(X:Str)(DT:zu):Spec:=⟨ND P fr,[fr,aT],[H5 P aS aN aT aU aE aB X,A0 DT],fun A=>.fin (.done .brk),fun A=>[H5 P aS aN aT aU aE aB X,A0 DT],fun A=>[]⟩
theorem Uh(fr aT:Nat)(aS aN aE aB aU:Nat)(X:Str)(DT:zu)(e1:Nat)(hT:DT=.seq ⟨[]⟩ e1)(I:zd):(fS w.2 fr aT aS aN aE aB aU X DT).PI w b b2 11 St I:=Bu (fun D=>fS w.2 fr aT aS aN aE aB aU X (gD D 0)) (fun D l=>fS w.2 fr aT aS aN aE aB aU X (gD D 0)) (fun D=>(Ag [I5 1 (gD D 0) 0])) 1 [] [false,true] [1,2,2] 0 [] 0 [DT] fun E0 ke=>.q (Eo hT rfl (by decide)) fun z z z=>.pO ke rfl
def l7(P:zp)(fr aT aU aM pb aL aB:Nat)(aS aN aE:Nat)(X Z:Str)(k i:Nat)(DT DU DL pz DB rL sJ rM:zu):Spec:=⟨ND P fr,[fr,aT,aU,aM,pb,aL,aB],[H5 P aS aN aT aU aE aB X,A0 DT,A0 DU,Gz pb,AV aL i,A0 DL,A6 DB],fun A=>.fin (.again (ND P fr)),fun A=>[H5 P aS aN aT aU aE aB X,A0 rL,A0 sJ,Gz pb,Bn i,A0 pz,A6 rM],fun A=>[]⟩
theorem Ui(fr aT aU aM pb aL aB:Nat)(aS aN aE:Nat)(X Z:Str)(k i:Nat)(DT DU DL pz DB rL sJ rM:zu)(ts us ls:zf)(e1 e2 e3 e4:Nat)(M:List (Str×zq))(vB:zq)(hT:DT=.seq ⟨ts++[.str Z 0]⟩ e1)(uH:rL=.seq ⟨ts⟩ (e1+1))(hk:ts.length=k)(tL:k < 1000)(hU:DU=.seq ⟨us++[.ref aM]⟩ e2)(v8:sJ=.seq ⟨us⟩ (e2+1))(uD:us.length < 1000)(hL:DL=.seq ⟨ls⟩ e3)(hi:ls.length≤i)(eL:pz=DL)(hB:DB=A7 w.2 (M++[(Z,vB)]) e4)(hZ:A' M Z=none)(uL:rM=A7 w.2 M (e4+1))(hM:M.length < 1000){E:zi}{R:Lp}(hE:AW E R):(l7 w.2 fr aT aU aM pb aL aB aS aN aE X Z k i DT DU DL pz DB rL sJ rM).PI w b b2 11 (B4 (Aj w.2 fr) E zw) (fun P=>P=R):=Bu (fun D=>l7 w.2 fr aT aU aM pb aL aB aS aN aE X Z k i (gD D 0) (gD D 1) (gD D 2) pz (gD D 3) rL sJ rM) (fun D l=>l7 w.2 fr aT aU aM pb aL aB aS aN aE X Z k i (gD D 0) (gD D 1) (gD D 2) (ud l 4 2) (gD D 3) (ud l 2 0) (ud l 0 0) (ud l 1 0)) (fun D=>(Ag [I5 1 (gD D 0) (Int.ofNat (Nat.succ k)),OR 2 (gD D 1) (.ref aM),bh 4 5 3 i (gD D 2),mw w.2 fr,OK 1 (gD D 0) rL (.str Z 0),W7 6 (gD D 3) rM Z,OK 2 (gD D 1) sJ (.ref aM)])) 7 [] [false,true,true,false,false,true,true] (hD 12 31 776849167588721043225150701899513) 0 [1,0,2,0,0] 0 [DT,DU,DL,DB] fun E0 ke=>.q (Eo hT (by simp [hk]) (by simp [gD]; lia)) fun z z z=>.q (JF hU (by lia)) fun z z z=>.cons (TO (by decide) hL hi) fun u2 z g2=>.note (Xv hE) fun z z z=>.cons (JC hT uH (by have:=AD; lia)) fun u4 z g4=>.cons (OU (w:=wf w b b2) hB hZ uL (by have:=AD; lia)) fun u5 z g5=>.cons (JC hU v8 (by have:=AD; lia)) fun u6 z g6=>.pO ke (@id (eD (u2.d 2)=pz) (g2.1.1.trans eL.symm) ▸ @id (eD (u4.d 0)=rL) (g4.1.1) ▸ @id (eD (u5.d 0)=rM) (g5.1.1) ▸ @id (eD (u6.d 0)=sJ) (g6.1.1) ▸ rfl)
def Ug(P:zp)(fl:Flow)(aS aN aE fr aT aU aB:Nat)(X Y:Str)(DT DU DB qb qx qc:zu):Spec:=
 ⟨ND P fr,[fr,aT,aU,aB],[H5 P aS aN aT aU aE aB X,A0 DT,A0 DU,A6 DB],fun q=>.fin (.done fl),fun q=>[H5 P aS aN aT aU aE aB Y,A0 qb,A0 qx,A6 qc],fun q=>[]⟩
noncomputable def QX(D:zu):Obj:={ cls:=.type "list_iterator",data:=D }
def Ue(P:zp)(fl:Flow)(aS aN aE fr aT aU aB aM pb aL:Nat)(X Y:Str)(DT DU DB qb qx qc rD DL:zu):Spec:=
 ⟨ND P fr,[fr,aT,aU,aB,aM,pb,aL],[H5 P aS aN aT aU aE aB X,A0 DT,A0 DU,A6 DB,Gz pb,AV aL 0,A0 DL],fun q=>.fin (.done fl),fun q=>[H5 P aS aN aT aU aE aB Y,A0 qb,A0 qx,A6 qc,Gz pb,QX rD,A0 DL],fun q=>[]⟩
def bt(P:zp)(fl:Flow)(aS aN aE fr aT aU aB:Nat)(X Y:Str)(DT DU DB qb qx qc:zu)(tr:zl):A8:=Cm (fun q=>some [IL (Aj P fr)]) tr [false,true,true,true] [] (fun q=>Ug P fl aS aN aE fr aT aU aB X Y DT DU DB qb qx qc)
variable{w b b2}
theorem TU{fl:Flow}{aS aN aE fr aT aU aB:Nat}{X Y:Str}{DT DU DB qb qx qc:zu}{tr:zl}{I O:zd}{E:zi}(h:(Ug w.2 fl aS aN aE fr aT aU aB X Y DT DU DB qb qx qc).PO w b b2 11 (B4 (Aj w.2 fr) E zw) I O)(nd:tr.Nodup)(hl:tr.length=4):(bt w.2 fl aS aN aE fr aT aU aB X Y DT DU DB qb qx qc tr).qB pw (wf w b b2) (A5 w.2) ⟨10,B4 (Aj w.2 fr) E zw⟩ I O:=
 Ab (w:=wf w b b2) (fun q=>h) (BK (V:=fun q=>[IL (Aj w.2 fr)]) (by rfl) fun q q c=>c.up) nd (fun q=>⟨hl.symm,hl.symm,fun q=>hl.symm⟩) (fun q q=>rfl)
def bq(P:zp)(fl:Flow)(aS aN aE fr aT aU aB aM pb aL:Nat)(X Y:Str)(DT DU DB qb qx qc rD DL:zu)(tr:zl):A8:=Cm (fun q=>some [IL (Aj P fr)]) tr [false,true,true,true,false,true,true] [] (fun q=>Ue P fl aS aN aE fr aT aU aB aM pb aL X Y DT DU DB qb qx qc rD DL)
theorem TS{fl:Flow}{aS aN aE fr aT aU aB aM pb aL:Nat}{X Y:Str}{DT DU DB qb qx qc rD DL:zu}{tr:zl}{I O:zd}{E:zi}(h:(Ue w.2 fl aS aN aE fr aT aU aB aM pb aL X Y DT DU DB qb qx qc rD DL).PO w b b2 11 (B4 (Aj w.2 fr) E zw) I O)(nd:tr.Nodup)(hl:tr.length=7):(bq w.2 fl aS aN aE fr aT aU aB aM pb aL X Y DT DU DB qb qx qc rD DL tr).qB pw (wf w b b2) (A5 w.2) ⟨10,B4 (Aj w.2 fr) E zw⟩ I O:=
 Ab (w:=wf w b b2) (fun q=>h) (BK (V:=fun q=>[IL (Aj w.2 fr)]) (by rfl) fun q q c=>c.up) nd (fun q=>⟨hl.symm,hl.symm,fun q=>hl.symm⟩) (fun q q=>rfl)
noncomputable def cq:Bool→Flow
 | true=>.next
 | false=>.brk
def Z4(P:zp)(fr:Nat):Bool→End
 | true=>.fin (.again (Ws P fr))
 | false=>.fin (.done .next)
def gW(P:zp)(fr aT aU aE aB:Nat)(o:Bool)(aS aN:Nat)(X Y:Str)(DT DU DE DB qb qx qc:zu):Spec:=⟨Ws P fr,[fr,aT,aU,aE,aB],[H5 P aS aN aT aU aE aB X,A0 DT,A0 DU,Bt DE,A6 DB],fun A=>Z4 P fr o,fun A=>[H5 P aS aN aT aU aE aB Y,A0 qb,A0 qx,Bt DE,A6 qc],fun A=>[]⟩
variable{St:zc}(w b b2)
theorem R1(fr aT aU aE aB:Nat)(o:Bool)(aS aN:Nat)(X Y:Str)(DT DU DE DB qb qx qc:zu)(I O:zd){E:zi}(Ss:zj)(M:List (Str×zq))(e4:Nat)(hE:C5 (wf w b b2) Ss DE)(hX:X∈Ss)(uI:Ss.length < 1000)(hB:DB=A7 w.2 M e4)(hM:A' M X=none)(rX:(Ug w.2 (cq o) aS aN aE fr aT aU aB X Y DT DU DB qb qx qc).PO w b b2 11 (B4 (Aj w.2 fr) E zw) I O):(gW w.2 fr aT aU aE aB o aS aN X Y DT DU DE DB qb qx qc).PO w b b2 10 (B4 (Aj w.2 fr) E zw) I O:=Ae (Cs.bb o) (fun z D=>gW w.2 fr aT aU aE aB z aS aN X Y (gD D 0) (gD D 1) (gD D 2) (gD D 3) qb qx qc) (fun z D l=>gW w.2 fr aT aU aE aB z aS aN X Y (gD D 0) (gD D 1) (gD D 2) (gD D 3) (ud l 0 2) (ud l 0 4) (ud l 0 6)) (fun z D=>(Ag [JA 3 (gD D 2) X true,TX 4 (gD D 3) X false,bt w.2 (cq z) aS aN aE fr aT aU aB X Y (gD D 0) (gD D 1) (gD D 3) qb qx qc [0,1,2,4]])) 3 (fun z=>[]) [false,true,true,true,true] (hD 7 8 4726744) 0 [0,0] 0 [DT,DU,DE,DB] fun E0 ke=>.q (EG (w:=wf w b b2) hE (by simpa using hX) (by have:scanBound=4096:=rfl; lia)) fun y y y=>.q (ID (w:=wf w b b2) hB (by rw [hM]; rfl)) fun y y y=>.cons (TU rX (by decide) rfl) fun u2 y g2=>.pO ke (@id (eD (u2.d 2)=qb) (g2.1.1) ▸ @id (eD (u2.d 4)=qx) (g2.1.2.1) ▸ @id (eD (u2.d 6)=qc) (g2.1.2.2.1) ▸ rfl)
def eR(P:zp)(fr aT aU aE aB aN aI aL:Nat)(o:Bool)(aS xI:Nat)(np:Int)(X Y:Str)(us:zf)(k cU:Nat)(gU:Nat→zu)(pE:zu→Prop)(DT rL DU sJ qx DE sW DB rM DN qb qc rD DL pz:zu):Spec:=⟨Ws P fr,[fr,aT,aU,aE,aB,aN,aI,aL],[H5 P aS aN aT aU aE aB X,A0 DT,A0 DU,Bt DE,A6 DB,A6 DN,A9 X np xI aL,A0 DL],fun A=>Z4 P fr o,fun A=>[H5 P aS aN aT aU aE aB Y,A0 qb,A0 qx,Bt sW,A6 qc,A6 DN,A9 X np xI aL,A0 pz],fun A=>[Gz (A 1),QX rD]⟩
theorem Q'(fr aT aU aE aB aN aI aL:Nat)(o:Bool)(aS xI:Nat)(np:Int)(X Y:Str)(us:zf)(k cU:Nat)(gU:Nat→zu)(pE:zu→Prop)(DT rL DU DE DB rM DN qb qc rD DL pz:zu)(I O:zd){E:zi}(Ss:zj)(M N:List (Str×zq))(ts:zf)(e1 e4 en:Nat)(hE:C5 (wf w b b2) Ss DE)(hX:X∉Ss)(uI:Ss.length < 1000)(hp:pE=C5 (wf w b b2) (X::Ss))(hN:DN=A7 w.2 N en)(hI:A' N X=some (.ref aI))(hU:DU=.seq ⟨us⟩ cU)(uD:us.length < 1000)(hT:DT=.seq ⟨ts⟩ e1)(hk:ts.length=k)(tL:k < 1000)(uH:rL=.seq ⟨ts++[.str X 0]⟩ (e1+1))(hB:DB=A7 w.2 M e4)(hM:A' M X=none)(uL:rM=A7 w.2 (M++[(X,.int k 0)]) (e4+1))(vY:M.length < 1000)(eL:pz=DL)(rX:∀ (aM pb:Nat) (sJ:zu),sJ=.seq ⟨us++[.ref aM]⟩ (cU+1)→(Ue w.2 (cq o) aS aN aE fr aT aU aB aM pb aL X Y rL sJ rM qb (gU aM) qc rD DL).PO w b b2 11 (B4 (Aj w.2 fr) E zw) I O):Spec.px (fun (z:zu×zu)=>eR w.2 fr aT aU aE aB aN aI aL o aS xI np X Y us k cU gU pE DT rL DU .plain z.2 DE z.1 DB rM DN qb qc rD DL pz) (fun (z:zu×zu) A=>C5 (wf w b b2) (X::Ss) z.1∧z.2=gU (A 0)) (eR w.2 fr aT aU aE aB aN aI aL o aS xI np X Y us k cU gU pE DT rL DU .plain .plain DE .plain DB rM DN qb qc rD DL pz) (wf w b b2) (Al (⟨10,B4 (Aj w.2 fr) E zw⟩)) (I) (O):=by
 refine LF (Cs.bb o) (fun z D=>eR w.2 fr aT aU aE aB aN aI aL z aS xI np X Y us k cU gU pE (gD D 0) rL (gD D 1) .plain .plain (gD D 2) .plain (gD D 3) rM (gD D 4) qb qc rD (gD D 5) pz) (fun z D l=>eR w.2 fr aT aU aE aB aN aI aL z aS xI np X Y us k cU gU pE (gD D 0) (ud l 1 0) (gD D 1) (ud l 4 0) (ud l 0 4) (gD D 2) (ud l 6 0) (gD D 3) (ud l 2 0) (gD D 4) (ud l 0 2) (ud l 0 6) (ud l 0 10) (gD D 5) (ud l 0 12)) (fun z D=>[fun y=>JA 3 (gD D 2) X false,fun y=>W5 3 (gD D 2) X pE,fun y=>Bh 5 (gD D 4) X (.ref aI),fun l=>Dn 2 (gD D 1) (.seq ⟨us++[Value.ref (un l 0 0 0+1)]⟩ (cU+1)) (Value.ref (un l 0 0 0+1)),fun y=>FA 1 (gD D 0) k,fun y=>KP 4 (gD D 3) rM X (.int k 0),fun y=>Dn 1 (gD D 0) rL (.str X 0),fun l=>bq w.2 (cq z) aS aN aE fr aT aU aB (un l 4 0 0+1) (un l 4 0 0) aL X Y (ud l 0 0) (ud l 3 0) (ud l 1 0) qb (gU (un l 4 0 0+1)) qc rD (gD D 5) [0,1,2,4,9,8,7]]) 8 (fun z D l=>[(0,un l 5 0 0+1)]) (fun z=>[9,8]) [false,true,true,true,true,true,false,true] (hD 11 70 861538999409844676672357764004337607831530515982189127132481261638664566) 0 [0,0,8,0,0,0,0] 0 [DT,DU,DE,DB,DN,DL] (fun E0 ke=>?_)
 refine .q (EG (w:=wf w b b2) hE (by simpa using hX) (by have:scanBound=4096:=rfl; lia)) fun y y y=>.cons (by rw [hp]; exact OJ (w:=wf w b b2) hE hX (by have:scanBound=4096:=rfl; lia)) fun u1 y g1=>.q (AZ (w:=wf w b b2) hN hI) fun u2 y y=>.cons (Av (v:=.ref (u2.n 0 0+1)) hU rfl (by have:=AD; lia)) fun y y g3=>.q (Bz hT (by rw [hk]) (by lia)) fun y y y=>.cons (Dg (w:=wf w b b2) hB hM uL (by have:=AD; lia)) fun u5 y g5=>?_
 obtain rfl:eD (u5.d 0)=rM:=g5.1.1
 refine .cons (Av hT uH (by have:=AD; lia)) fun u6 y g6=>?_
 obtain rfl:eD (u6.d 0)=rL:=g6.1.1
 refine .cons (TS (rX _ _ _ g3.1.1) (by decide) rfl) fun u7 y g7=>.nil fun P hP=>ke _ _ ⟨(eD (u1.d 0),eD (u7.d 4)),@id (eD (u7.d 2)=qb) (g7.1.1) ▸ @id (eD (u7.d 6)=qc) (g7.1.2.2.1) ▸ @id (eD (u7.d 10)=rD) (g7.1.2.2.2.1) ▸ @id (eD (u7.d 12)=pz) (g7.1.2.2.2.2.1.trans eL.symm) ▸ rfl,hP,fun A a=>?_⟩
 try dsimp only
 have a0:A 0=u2.n 0 0+1:=a _ (.head _)
 obtain ⟨z,hz,qz,_⟩:=g1.1
 rw [hp] at hz
 have qz:eD (u1.d 0)=z:=qz
 refine ⟨by rw [qz]; exact hz,g7.1.2.1.trans (vm gU a0.symm)⟩
def nu(P:zp)(aS aN aT aU aE aB:Nat):Obj:=Bp (.dict ⟨[kE P "self" (.ref aS),kE P "n2i" (.ref aN),kE P "stack" (.ref aT),kE P "itstack" (.ref aU),kE P "seen" (.ref aE),kE P "node2stacki" (.ref aB)]⟩ 6)
def Yx(P:zp)(aS aN aT aU aE aB:Nat):Option Str→Obj
 | none=>nu P aS aN aT aU aE aB
 | some X=>H5 P aS aN aT aU aE aB X
def Vn(P:zp)(aS aN aT aU aB fr aE:Nat)(X Y:Str)(DN DE sW:zu):Spec:=
 ⟨Ws P fr,[fr,aE,aN],[H5 P aS aN aT aU aE aB X,Bt DE,A6 DN],fun q=>.fin (.done .next),fun q=>[H5 P aS aN aT aU aE aB Y,Bt sW,A6 DN],fun q=>[]⟩
def me(P:zp)(aS aN aT aU aB fr aE:Nat)(X Y:Str)(DN DE:zu)(pE:zu→Prop):A8:=KI (fun q=>some [IL (Aj P fr)]) [2,3,1] [false,true,true] [] (fun q=>Vn P aS aN aT aU aB fr aE X Y DN DE .plain) (fun q=>Vn P aS aN aT aU aB fr aE X Y DN DE) (fun z q=>pE z)
theorem Xh{w:zt}{b b2:Bool}{aS aN aT aU aB fr aE:Nat}{X Y:Str}{DN DE:zu}{pE:zu→Prop}{I O:zd}{E:zi}(h:Spec.px (Vn w.2 aS aN aT aU aB fr aE X Y DN DE) (fun z q=>pE z) (Vn w.2 aS aN aT aU aB fr aE X Y DN DE .plain) (wf w b b2) (Al ⟨10,B4 (Aj w.2 fr) E zw⟩) I O):(me w.2 aS aN aT aU aB fr aE X Y DN DE pE).qB pw (wf w b b2) (A5 w.2) ⟨9,B4 (Aj w.2 fr) E zw⟩ I O:=
 Dd (w:=wf w b b2) (fun q=>h) (fun q q=>⟨rfl,rfl,rfl⟩) (fun q q q q q=>rfl) (BK (V:=fun q=>[IL (Aj w.2 fr)]) (by rfl) fun q q c=>c.up) (by decide) (fun q=>⟨rfl,rfl,fun q q=>rfl⟩) (fun q q=>rfl)
def ff(P:zp)(aI aN fr aE:Nat)(o:Option Str)(aS aT aU aB i ln:Nat)(X Y:Str)(v:zq)(N:List (Str×zq))(en:Nat)(pE:zu→Prop)(DN pj DE sW:zu):Spec:=⟨FW P aI fr,[aI,aN,fr,aE],[Cg aN i ln en,A6 DN,Yx P aS aN aT aU aE aB o,Bt DE],fun A=>.fin (.again (FW P aI fr)),fun A=>[Cg aN ((i:Int)+1) ln en,A6 pj,H5 P aS aN aT aU aE aB Y,Bt sW],fun A=>[]⟩
theorem Yw(aI aN fr aE:Nat)(o:Option Str)(aS aT aU aB i ln:Nat)(X Y:Str)(v:zq)(N:List (Str×zq))(en:Nat)(pE:zu→Prop)(DN pj DE:zu)(I O:zd){E:zi}(Ss:zj)(hN:DN=A7 w.2 N en)(rh:N.length=ln)(hi:N[i]?=some (X,v))(hE:C5 (wf w b b2) Ss DE)(uI:Ss.length < 1000)(hX:X∉Ss)(eN:pj=DN)(uC:Spec.px (Vn w.2 aS aN aT aU aB fr aE X Y DN DE) (fun z y=>pE z) (Vn w.2 aS aN aT aU aB fr aE X Y DN DE .plain) (wf w b b2) (Al ⟨10,B4 (Aj w.2 fr) E zw⟩) I O):Spec.px (fun (sW:zu)=>ff w.2 aI aN fr aE o aS aT aU aB i ln X Y v N en pE DN pj DE sW) (fun (sW:zu) A=>pE sW) (ff w.2 aI aN fr aE o aS aT aU aB i ln X Y v N en pE DN pj DE .plain) (wf w b b2) (Al (⟨9,B4 (Aj w.2 fr) E zw⟩)) (I) (O):=by
 refine LF (Cs.oo o ⟨#[]⟩) (fun z D=>ff w.2 aI aN fr aE z aS aT aU aB i ln X Y v N en pE (gD D 0) pj (gD D 1) .plain) (fun z D l=>ff w.2 aI aN fr aE z aS aT aU aB i ln X Y v N en pE (gD D 0) (ud l 0 4) (gD D 1) (ud l 0 2)) (fun z D=>(Ag [EI 0 1 i ln en (gD D 0) (.str X 0),JA 3 (gD D 1) X false,me w.2 aS aN aT aU aB fr aE X Y (gD D 0) (gD D 1) pE])) 3 (fun z D l=>[]) (fun z=>[]) [false,true,false,true] [1,3,3,3,3,4,4] 0 [0,0] 0 [DN,DE] (fun E0 ke=>?_)
 refine .q ((by subst rh; exact D5 (w:=wf w b b2) hN hi)) fun y y y=>.q (EG (w:=wf w b b2) hE (by simpa using hX) (by have:scanBound=4096:=rfl; lia)) fun y y y=>.cons (Xh uC) fun u2 y g2=>.nil fun P hP=>ke _ _ ⟨eD (u2.d 2),@id (eD (u2.d 4)=pj) ((let ⟨z,_,h⟩:=g2.1; h.2.1).trans eN.symm) ▸ rfl,hP,fun A a=>?_⟩
 try dsimp only
 obtain ⟨z,hz,qz,_⟩:=g2.1
 have qz:eD (u2.d 2)=z:=qz
 rw [qz]; exact hz
def lL(P:zp)(aI aN fr aE:Nat)(o:Option Str)(aS aT aU aB i ln:Nat)(X:Str)(v:zq)(N:List (Str×zq))(en:Nat)(DN DE:zu):Spec:=⟨FW P aI fr,[aI,aN,fr,aE],[Cg aN i ln en,A6 DN,Yx P aS aN aT aU aE aB o,Bt DE],fun A=>.fin (.again (FW P aI fr)),fun A=>[Cg aN ((i:Int)+1) ln en,A6 DN,H5 P aS aN aT aU aE aB X,Bt DE],fun A=>[]⟩
theorem Uv(aI aN fr aE:Nat)(o:Option Str)(aS aT aU aB i ln:Nat)(X:Str)(v:zq)(N:List (Str×zq))(en:Nat)(DN DE:zu){E:zi}(Ss:zj)(hN:DN=A7 w.2 N en)(rh:N.length=ln)(hi:N[i]?=some (X,v))(hE:C5 (wf w b b2) Ss DE)(uI:Ss.length < 1000)(hX:X∈Ss)(I:zd):(lL w.2 aI aN fr aE o aS aT aU aB i ln X v N en DN DE).PI w b b2 9 (B4 (Aj w.2 fr) E zw) I:=Ae (Cs.oo o ⟨#[]⟩) (fun z D=>lL w.2 aI aN fr aE z aS aT aU aB i ln X v N en (gD D 0) (gD D 1)) (fun z D l=>lL w.2 aI aN fr aE z aS aT aU aB i ln X v N en (gD D 0) (gD D 1)) (fun z D=>(Ag [EI 0 1 i ln en (gD D 0) (.str X 0),JA 3 (gD D 1) X true])) 2 (fun z=>[]) [false,true,false,true] [1,3,3,3,3,4,4] 0 [0] 0 [DN,DE] fun E0 ke=>.q ((by subst rh; exact D5 (w:=wf w b b2) hN hi)) fun y y y=>.q (EG (w:=wf w b b2) hE (by simpa using hX) (by have:scanBound=4096:=rfl; lia)) fun y y y=>.pO ke rfl
def lM(P:zp)(aI aN:Nat)(fr i ln:Nat)(N:List (Str×zq))(en:Nat)(DN pj:zu):Spec:=⟨FW P aI fr,[aI,aN],[Cg aN i ln en,A6 DN],fun A=>.fin (.done .next),fun A=>[Je i ln en,A6 pj],fun A=>[]⟩
theorem Uw(aI aN:Nat)(fr i ln:Nat)(N:List (Str×zq))(en:Nat)(DN pj:zu)(hN:DN=A7 w.2 N en)(rh:N.length=ln)(hi:N.length≤i)(eN:pj=DN)(I:zd):(lM w.2 aI aN fr i ln N en DN pj).PI w b b2 9 St I:=Bu (fun D=>lM w.2 aI aN fr i ln N en (gD D 0) pj) (fun D l=>lM w.2 aI aN fr i ln N en (gD D 0) (ud l 0 2)) (fun D=>(Ag [BM "dict_keyiterator.__next__" 0 1 (fun X=>Cg (A4 X 1) i ln en) (Je i ln en) (A6 (gD D 0))])) 1 [] [false,true] [1,4] 0 [] 1 [DN] fun E0 ke=>.cons (by subst rh; exact HU (w:=wf w b b2) (by decide) hN hi) fun u0 q g0=>.pO ke (@id (eD (u0.d 2)=pj) (g0.1.1.trans eN.symm) ▸ rfl)
end
section
open PySem PySem.W PySem.W.X PyProof.Rows
def LZ(φ:zu→Prop):A8:=HR (fun q=>.call (.type "set") ⟨[],[]⟩) [] (fun q=>[]) true (fun q=>Bt .plain) fun q=>φ
theorem KO{w:zt}:(LZ (C5 w [])).Ok pw w (A5 w.2):=J6 fun c x hc hp=>by
 obtain ⟨ps,rfl,ha⟩:=Ak hc
 have ha:ps=[]:=xa.mp ha
 subst ha
 refine ⟨_,_,rfl,fun A s D Q E hq=>call_set_0 fun led=>?_⟩
 refine hq _ _ { cls:=.type "set",dict:=none,data:=.set #[] 0 (.fresh 0 0 led),slots:=#[] } (by exact CL (n:=s.toks)) (vp _) (xQ _ rfl) (fun q=>⟨#[],0,_,rfl,by simp,by simp,rfl,by simp⟩) rfl
end
section
open PySem PySem.W PySem.W.X
noncomputable def nT(D:zu):Obj:={ cls:=.type "dict_keyiterator",data:=D }
def JW(P:zp)(aS aN aI fr aT aU aE aB len en:Nat)(DN DE:zu)(z:Nat→zu):Spec:=
 ⟨FW P aI fr,[aI,aN,fr,aT,aU,aE,aB],[Cg aN 0 len en,A6 DN,nu P aS aN aT aU aE aB,A0 (.seq #[] 0),A0 (.seq #[] 0),Bt DE,BE [] 0],fun q=>.fin (.done .next),
  fun q=>[nT (z 0),A6 DN,Bp (z 1),A0 (z 2),A0 (z 3),Bt (z 4),A6 (z 5)],fun q=>[]⟩
noncomputable def z0:Nat→zu:=fun q=>.plain
def nA(P:zp)(aS aN len en:Nat)(DN DE:zu):A8:=KI (fun x=>some [C0 (Aj P (A4 x 3))]) [8,2,3,4,5,6,7] [true,true,true,true,true,true,true] [] (fun x=>JW P aS aN (A4 x 8) (A4 x 3) (A4 x 4) (A4 x 5) (A4 x 6) (A4 x 7) len en DN DE z0) (fun x=>JW P aS aN (A4 x 8) (A4 x 3) (A4 x 4) (A4 x 5) (A4 x 6) (A4 x 7) len en DN DE) (fun q q=>True)
theorem Y7{w:zt}{b b2:Bool}{aS aN len en:Nat}{DN DE:zu}{I O:zd}{E:zi}(h:∀ aI fr aT aU aE aB:Nat,Spec.px (JW w.2 aS aN aI fr aT aU aE aB len en DN DE) (fun q q=>True) (JW w.2 aS aN aI fr aT aU aE aB len en DN DE z0) (wf w b b2) (Al ⟨9,B4 (Aj w.2 fr) E zw⟩) I O):(nA w.2 aS aN len en DN DE).qB pw (wf w b b2) (A5 w.2) ⟨8,Ax E zw⟩ I O:=
 Dd (w:=wf w b b2) (fun q=>h _ _ _ _ _ _) (fun q q=>⟨rfl,rfl,rfl⟩) (fun q q q q q=>rfl) (BK (V:=fun x=>[C0 (Aj w.2 (A4 x 3))]) (by rfl) fun q q c=>.one c) (by decide) (fun q=>⟨rfl,rfl,fun q q=>rfl⟩) (fun q q=>rfl)
def fy(P:zp)(aS aD aN:Nat)(rn:Nat)(po nf:Int)(N:List (Str×zq))(ln en:Nat)(pS:zu→Prop)(DN pj vg:zu):Spec:=⟨.call (.ref 182) ⟨[.ref aS],[]⟩,[aS,aD,aN],[AE aD,AF P aN (.ref rn) po nf,A6 DN],fun A=>.fin (.done (.ret .none)),fun A=>[AE aD,AF P aN (.ref rn) po nf,A6 pj],fun A=>[]⟩
theorem Yu(w:zt)(b b2:Bool)(aS aD aN:Nat)(rn:Nat)(po nf:Int)(N:List (Str×zq))(ln en:Nat)(pS:zu→Prop)(DN pj:zu)(I O:zd){E:zi}(hN:DN=A7 w.2 N en)(rh:N.length=ln)(eN:pj=DN)(hp:pS=C5 (wf w b b2) [])(sj:∀ (DE:zu),C5 (wf w b b2) [] DE→∀ aI fr aT aU aE aB:Nat,Spec.px (JW w.2 aS aN aI fr aT aU aE aB ln en DN DE) (fun y y=>True) (JW w.2 aS aN aI fr aT aU aE aB ln en DN DE z0) (wf w b b2) (Al ⟨9,B4 (Aj w.2 fr) E zw⟩) I O):(fy w.2 aS aD aN rn po nf N ln en pS DN pj .plain).PO w b b2 8 (Ax E zw) I O:=Bu (fun D=>fy w.2 aS aD aN rn po nf N ln en pS (gD D 0) pj .plain) (fun D l=>fy w.2 aS aD aN rn po nf N ln en pS (gD D 0) (ud l 0 2) (ud l 2 0)) (fun D=>[fun y=>LZ pS,fun y=>KW 2 (gD D 0) ln en,fun l=>nA w.2 aS aN ln en (gD D 0) (ud l 1 0)]) 3 [] [false,false,true] (hD 11 32 1785232479129464637289964282547387) 1 [0,0] 1 [DN] fun E0 ke=>.q (by rw [hp]; exact KO) fun y y g0=>.q ((by subst rh; exact HW (w:=wf w b b2) hN)) fun y y y=>.cons (Y7 (sj _ (by have h:=g0; rw [hp] at h; exact h rfl))) fun u2 y g2=>.pO ke (@id (eD (u2.d 2)=pj) ((let ⟨z,_,h⟩:=g2.1; h.2.1).trans eN.symm) ▸ rfl)
theorem Spec.qm{S:Spec}{w:zt}{Sh:Pos→ze→Prop}{R:Lp}{f:Nat}{D:zu}(h:S.pP w Sh (fun P=>P=(f,Bp D)::R) (fun P=>P=(f,Bp D)::R))(l1:S.ad.length=S.pre.length)(l2:∀ A,(S.ch A).length=S.ad.length):(S.own f D).pP w Sh (fun P=>P=R) (fun P=>P=R):=by
 rintro P rfl
 have z:=h _ rfl
 have e1:(S.own f D).pq++P=S.pq++(f,Bp D)::P:=by
  show (S.ad++[f]).zip (S.pre++[Bp D])++P=_
  rw [wi l1,vj]; rfl
 refine (z.pU (q8:=fun L=>L=(S.own f D).pq++P) (fun L hL=>hL.trans e1) (fun q q h=>h)).qd ?_
 rintro e' L ⟨A,P',rfl,sub,he,rfl⟩
 refine ⟨(S.own f D).pV A++P,?_,⟨A,P,rfl,fun q m=>m,he,rfl⟩⟩
 show (S.pV A++(f,Bp D)::P).Perm (((S.ad++[f]).zip (S.ch A++[Bp D])++_)++P)
 rw [wi (l2 A).symm]
 unfold Spec.pV
 rw [vj,vj,vj]
 refine vy _ ?_
 exact wV
def fD(P:zp)(aS:Nat):zu:=.dict ⟨[kE P "self" (.ref aS)]⟩ 1
def fE(P:zp)(aI aN aA aK fr len nn qL:Nat)(DN qC:zu):Spec:=
 ⟨Nf P aI aA aK fr,[aI,aN,aA,aK],[C2 aN 0 len nn,A6 DN,A0 (.seq #[] 0),BE [] 0],fun q=>.fin (.done .next),
  fun q=>[Jd len len nn,A6 DN,A0 qC,BE [kE P "i" (.ref qL)] 1],fun q=>[]⟩
def mr(P:zp)(aN len nn qL:Nat)(DN qC:zu):A8:=BU [5,2,6,7] [false,true,true] [] (fun x=>fE P (A4 x 5) aN (A4 x 6) (A4 x 7) (A4 x 3) len nn qL DN qC)
variable{w:zt}{b b2:Bool}
theorem Xr{aN len nn qL:Nat}{DN qC:zu}{I:zd}{St:zc}(h:∀ aI aA aK fr:Nat,(fE w.2 aI aN aA aK fr len nn qL DN qC).PI w b b2 8 (fun q=>True) I):(mr w.2 aN len nn qL DN qC).qB pw (wf w b b2) (A5 w.2) ⟨7,St⟩ I I:=
 AL (w:=wf w b b2) (fun q=>h _ _ _ _) (by decide) (fun q=>⟨rfl,rfl,fun q=>rfl⟩) (fun q q=>rfl)
def fT(P:zp)(aS aD aN rn:Nat)(po nf:Int)(DN:zu):Spec:=
 ⟨.call (.ref 182) ⟨[.ref aS],[]⟩,[aS,aD,aN],[AE aD,AF P aN (.ref rn) po nf,A6 DN],fun q=>.fin (.done (.ret .none)),fun q=>[AE aD,AF P aN (.ref rn) po nf,A6 DN],fun q=>[]⟩
def JZ(P:zp)(fr:Nat):Env:=Br P 147 YL fr
def n9(P:zp)(aS aD aN:Nat)(po nf:Int)(DN:zu):A8:=Cm (fun x=>some [C0 (JZ P (A4 x 3))]) [0,1,2,3] [false,false,true,false] [] (fun x=>(fT P aS aD aN (A4 x 6) po nf DN).own (A4 x 3) (fD P aS))
theorem Y6{aS aD aN:Nat}{po nf:Int}{DN:zu}{E:zi}{R:Lp}(h:∀ ET rn:Nat,(fT w.2 aS aD aN rn po nf DN).PI w b b2 8 (Ax (JZ w.2 ET::E) zw) (fun P=>P=(ET,Bp (fD w.2 aS))::R)):(n9 w.2 aS aD aN po nf DN).qB pw (wf w b b2) (A5 w.2) ⟨7,Ax E zw⟩ (fun P=>P=R) (fun P=>P=R):=
 Ab (w:=wf w b b2) (fun q=>Spec.qm (h _ _) rfl (fun q=>rfl)) (BK (V:=fun x=>[C0 (JZ w.2 (A4 x 3))]) (by rfl) fun x q c=>c.app (V:=[C0 (JZ w.2 (A4 x 3))]) (E':=[JZ w.2 (A4 x 3)]) (qe:=[]) rfl rfl) (by decide) (fun q=>⟨rfl,rfl,fun q=>rfl⟩) (fun q q=>rfl)
def fB(P:zp)(aS aD aN:Nat)(N:List (Str×zq))(nn qL:Nat)(DN ve pj qC:zu):Spec:=⟨.call (.ref 147) ⟨[.ref aS],[]⟩,[aS,aD,aN],[AE aD,AF P aN .none 0 0,A6 DN],fun A=>.fin (.done (.ret .none)),fun A=>[AE aD,AF P aN (.ref (A 0)) 0 0,A6 pj],fun A=>[A0 qC]⟩
variable{St:zc}(w b b2)
theorem SI(aS aD aN:Nat)(N:List (Str×zq))(nn qL:Nat)(DN pj qC:zu){E:zi}{R:Lp}(hN:DN=A7 w.2 N nn)(eN:pj=DN)(uj:∀ aI aA aK fr:Nat,(fE w.2 aI aN aA aK fr N.length nn qL DN qC).PI w b b2 8 (fun z=>True) (fun P=>P=R))(uw:∀ ET rn:Nat,(fT w.2 aS aD aN rn 0 0 DN).PI w b b2 8 (Ax (JZ w.2 ET::E) zw) (fun P=>P=(ET,Bp (fD w.2 aS))::R)):(fB w.2 aS aD aN N nn qL DN .plain pj qC).PI w b b2 7 (Ax E zw) (fun P=>P=R):=Bu (fun D=>fB w.2 aS aD aN N nn qL (gD D 0) .plain pj qC) (fun D l=>fB w.2 aS aD aN N nn qL (gD D 0) (ud l 1 2) (ud l 0 4) (ud l 1 4)) (fun D=>[fun z=>W3 2 (gD D 0),fun z=>OF 4 2 (gD D 0) N.length nn,fun z=>mr w.2 aN N.length nn qL (gD D 0) qC,fun l=>n9 w.2 aS aD aN 0 0 (ud l 0 2)]) 4 [6] [false,false,true] (hD 10 77 44402100001000100014222010001010100014888655333320110001000142011000100014440) 2 [0,0,1] 1 [DN] fun E0 ke=>.q (OE (w:=wf w b b2) hN) fun z z z=>.q (Ma (w:=wf w b b2) hN) fun z z z=>.cons (Xr uj) fun u2 z g2=>.cons (Y6 (by (try simp only [un,ud,CI]); rw [show eD (u2.d 2)=DN from g2.1.1]; exact uw)) fun u3 z g3=>.pO ke (@id (eD (u2.d 4)=qC) (g2.1.2.1) ▸ @id (eD (u3.d 4)=pj) ((g3.1.1.trans g2.1.1).trans eN.symm) ▸ rfl)
def Ys(P:zp)(aS aD aN aR:Nat)(po nf:Int)(e:Nat)(DN:zu):Spec:=⟨.call (.ref 154) ⟨[.ref aS],[]⟩,[aS,aD,aN,aR],[AE aD,AF P aN (.ref aR) po nf,A6 DN,A0 (.seq #[] e)],fun A=>.fin (.done (.ret (.ref (A 0)))),fun A=>[AE aD,AF P aN (.ref aR) (po+0) nf,A6 DN,A0 (.seq #[] e)],fun A=>[AG (.seq #[] 0)]⟩
theorem Pc(aS aD aN aR:Nat)(po nf:Int)(e:Nat)(DN:zu)(N:List (Str×zq))(nn:Nat)(hN:DN=A7 w.2 N nn)(I:zd):(Ys w.2 aS aD aN aR po nf e DN).PI w b b2 7 St I:=Bu (fun D=>Ys w.2 aS aD aN aR po nf e (gD D 0)) (fun D l=>Ys w.2 aS aD aN aR po nf e (gD D 0)) (fun D=>(Ag [Dt 5 3])) 1 [6] [false,false,true,false] (hD 12 133 146689209108204603650657804278654659505773731939654843004968108322799325224163744515983437225118444902742516558673709349633989447515931672671692) 1000000 [] 1 [DN] fun E0 ke=>.note (BP (by decide)) fun q q q=>.pO ke rfl
def Yr(P:zp)(aS aD aN aR qZ:Nat)(X1:Str)(qn:Int)(x1 l1:Nat)(po nf:Int)(e:Nat)(DN:zu):Spec:=⟨.call (.ref 154) ⟨[.ref aS],[]⟩,[aS,aD,aN,aR,qZ],[AE aD,AF P aN (.ref aR) po nf,A6 DN,A0 (.seq #[.str X1 0] e),A9 X1 qn x1 l1],fun A=>.fin (.done (.ret (.ref (A 0)))),fun A=>[AE aD,AF P aN (.ref aR) (po+1) nf,A6 DN,A0 (.seq #[] (e+1)),A9 X1 (-1) x1 l1],fun A=>[AG (.seq #[.str X1 0] 0)]⟩
theorem Pb(aS aD aN aR qZ:Nat)(X1:Str)(qn:Int)(x1 l1:Nat)(po nf:Int)(e:Nat)(DN:zu)(N:List (Str×zq))(nn:Nat)(hN:DN=A7 w.2 N nn)(h1:A' N X1=some (.ref qZ))(I:zd):(Yr w.2 aS aD aN aR qZ X1 qn x1 l1 po nf e DN).PI w b b2 7 St I:=Bu (fun D=>Yr w.2 aS aD aN aR qZ X1 qn x1 l1 po nf e (gD D 0)) (fun D l=>Yr w.2 aS aD aN aR qZ X1 qn x1 l1 po nf e (gD D 0)) (fun D=>(Ag [Dt 6 3,Bh 2 (gD D 0) X1 (.ref qZ)])) 2 [7] [false,false,true,false,false] (hD 13 174 31786687317317392159934706744996232846468837673806175034992953698645400886986284838391996379453911231990803629697437070468007964524391467998458976161477622926839246778794730274677128820061762376) 10 [] 1 [DN] fun E0 ke=>.note (BP (by decide)) fun z z z=>.q (AZ (w:=wf w b b2) hN h1) fun z z z=>.pO ke rfl
def Yq(P:zp)(aS aD aN aR qZ qu:Nat)(X1 X2:Str)(qn rG:Int)(x1 l1 x2 l2:Nat)(po nf:Int)(e:Nat)(DN:zu):Spec:=⟨.call (.ref 154) ⟨[.ref aS],[]⟩,[aS,aD,aN,aR,qZ,qu],[AE aD,AF P aN (.ref aR) po nf,A6 DN,A0 (.seq #[.str X1 0,.str X2 0] e),A9 X1 qn x1 l1,A9 X2 rG x2 l2],fun A=>.fin (.done (.ret (.ref (A 0)))),fun A=>[AE aD,AF P aN (.ref aR) (po+2) nf,A6 DN,A0 (.seq #[] (e+1)),A9 X1 (-1) x1 l1,A9 X2 (-1) x2 l2],fun A=>[AG (.seq #[.str X1 0,.str X2 0] 0)]⟩
theorem Pa(aS aD aN aR qZ qu:Nat)(X1 X2:Str)(qn rG:Int)(x1 l1 x2 l2:Nat)(po nf:Int)(e:Nat)(DN:zu)(N:List (Str×zq))(nn:Nat)(hN:DN=A7 w.2 N nn)(h1:A' N X1=some (.ref qZ))(h2:A' N X2=some (.ref qu))(I:zd):(Yq w.2 aS aD aN aR qZ qu X1 X2 qn rG x1 l1 x2 l2 po nf e DN).PI w b b2 7 St I:=Bu (fun D=>Yq w.2 aS aD aN aR qZ qu X1 X2 qn rG x1 l1 x2 l2 po nf e (gD D 0)) (fun D l=>Yq w.2 aS aD aN aR qZ qu X1 X2 qn rG x1 l1 x2 l2 po nf e (gD D 0)) (fun D=>(Ag [Dt 7 3,Bh 2 (gD D 0) X1 (.ref qZ),Bh 2 (gD D 0) X2 (.ref qu)])) 3 [8] [false,false,true,false,false,false] (hD 14 215 1336398380246122558498815581993975111197791673759551677906875551285048777708798265491947128145714796303859405679866677297920749717867336920726805885277515663791515130426711062643085654591425173759883009902190369041471211616095666166331566125586390) 10 [3] 1 [DN] fun E0 ke=>.note (BP (by decide)) fun z z z=>.q (AZ (w:=wf w b b2) hN h1) fun z z z=>.q (AZ (w:=wf w b b2) hN h2) fun z z z=>.pO ke rfl
def Yp(P:zp)(aS aD aN aR qZ qu rR:Nat)(X1 X2 X3:Str)(qn rG sA:Int)(x1 l1 x2 l2 x3 l3:Nat)(po nf:Int)(e:Nat)(DN:zu):Spec:=⟨.call (.ref 154) ⟨[.ref aS],[]⟩,[aS,aD,aN,aR,qZ,qu,rR],[AE aD,AF P aN (.ref aR) po nf,A6 DN,A0 (.seq #[.str X1 0,.str X2 0,.str X3 0] e),A9 X1 qn x1 l1,A9 X2 rG x2 l2,A9 X3 sA x3 l3],fun A=>.fin (.done (.ret (.ref (A 0)))),fun A=>[AE aD,AF P aN (.ref aR) (po+3) nf,A6 DN,A0 (.seq #[] (e+1)),A9 X1 (-1) x1 l1,A9 X2 (-1) x2 l2,A9 X3 (-1) x3 l3],fun A=>[AG (.seq #[.str X1 0,.str X2 0,.str X3 0] 0)]⟩
theorem PZ(aS aD aN aR qZ qu rR:Nat)(X1 X2 X3:Str)(qn rG sA:Int)(x1 l1 x2 l2 x3 l3:Nat)(po nf:Int)(e:Nat)(DN:zu)(N:List (Str×zq))(nn:Nat)(hN:DN=A7 w.2 N nn)(h1:A' N X1=some (.ref qZ))(h2:A' N X2=some (.ref qu))(h3:A' N X3=some (.ref rR))(I:zd):(Yp w.2 aS aD aN aR qZ qu rR X1 X2 X3 qn rG sA x1 l1 x2 l2 x3 l3 po nf e DN).PI w b b2 7 St I:=Bu (fun D=>Yp w.2 aS aD aN aR qZ qu rR X1 X2 X3 qn rG sA x1 l1 x2 l2 x3 l3 po nf e (gD D 0)) (fun D l=>Yp w.2 aS aD aN aR qZ qu rR X1 X2 X3 qn rG sA x1 l1 x2 l2 x3 l3 po nf e (gD D 0)) (fun D=>(Ag [Dt 8 3,Bh 2 (gD D 0) X1 (.ref qZ),Bh 2 (gD D 0) X2 (.ref qu),Bh 2 (gD D 0) X3 (.ref rR)])) 4 [9] [false,false,true,false,false,false,false] (hD 15 256 6516969486238681057127623305402651122134380843215420057887717715155360872224762241473110071176334709598118540967613967954499240100727602359634236103594710865469492395112456127563893638434982300689375173291829488930280036862651429637243787037515787318732863103184880490060275462791811709875901244610795) 10 [3,3] 1 [DN] fun E0 ke=>.note (BP (by decide)) fun z z z=>.q (AZ (w:=wf w b b2) hN h1) fun z z z=>.q (AZ (w:=wf w b b2) hN h2) fun z z z=>.q (AZ (w:=wf w b b2) hN h3) fun z z z=>.pO ke rfl
def Yo(P:zp)(aS aD aN aR qZ qu rR su:Nat)(X1 X2 X3 X4:Str)(qn rG sA tE:Int)(x1 l1 x2 l2 x3 l3 x4 l4:Nat)(po nf:Int)(e:Nat)(DN:zu):Spec:=⟨.call (.ref 154) ⟨[.ref aS],[]⟩,[aS,aD,aN,aR,qZ,qu,rR,su],[AE aD,AF P aN (.ref aR) po nf,A6 DN,A0 (.seq #[.str X1 0,.str X2 0,.str X3 0,.str X4 0] e),A9 X1 qn x1 l1,A9 X2 rG x2 l2,A9 X3 sA x3 l3,A9 X4 tE x4 l4],fun A=>.fin (.done (.ret (.ref (A 0)))),fun A=>[AE aD,AF P aN (.ref aR) (po+4) nf,A6 DN,A0 (.seq #[] (e+1)),A9 X1 (-1) x1 l1,A9 X2 (-1) x2 l2,A9 X3 (-1) x3 l3,A9 X4 (-1) x4 l4],fun A=>[AG (.seq #[.str X1 0,.str X2 0,.str X3 0,.str X4 0] 0)]⟩
theorem PY(aS aD aN aR qZ qu rR su:Nat)(X1 X2 X3 X4:Str)(qn rG sA tE:Int)(x1 l1 x2 l2 x3 l3 x4 l4:Nat)(po nf:Int)(e:Nat)(DN:zu)(N:List (Str×zq))(nn:Nat)(hN:DN=A7 w.2 N nn)(h1:A' N X1=some (.ref qZ))(h2:A' N X2=some (.ref qu))(h3:A' N X3=some (.ref rR))(h4:A' N X4=some (.ref su))(I:zd):(Yo w.2 aS aD aN aR qZ qu rR su X1 X2 X3 X4 qn rG sA tE x1 l1 x2 l2 x3 l3 x4 l4 po nf e DN).PI w b b2 7 St I:=Bu (fun D=>Yo w.2 aS aD aN aR qZ qu rR su X1 X2 X3 X4 qn rG sA tE x1 l1 x2 l2 x3 l3 x4 l4 po nf e (gD D 0)) (fun D l=>Yo w.2 aS aD aN aR qZ qu rR su X1 X2 X3 X4 qn rG sA tE x1 l1 x2 l2 x3 l3 x4 l4 po nf e (gD D 0)) (fun D=>(Ag [Dt 9 3,Bh 2 (gD D 0) X1 (.ref qZ),Bh 2 (gD D 0) X2 (.ref qu),Bh 2 (gD D 0) X3 (.ref rR),Bh 2 (gD D 0) X4 (.ref su)])) 5 [10] [false,false,true,false,false,false,false,false] (hD 16 297 2399621098205844436326972291762422102987148166371046436134952540023075811299875144142155807840689575065295152609225336799883184569526409333830850406002905333774740164597516265887355513011352437771011121040626576191776332058883835541148238610079604053615106230844997361245255356426822288076478779691994432695414031352987859140596901955529379300848706655459728) 10 [3,3,3] 1 [DN] fun E0 ke=>.note (BP (by decide)) fun z z z=>.q (AZ (w:=wf w b b2) hN h1) fun z z z=>.q (AZ (w:=wf w b b2) hN h2) fun z z z=>.q (AZ (w:=wf w b b2) hN h3) fun z z z=>.q (AZ (w:=wf w b b2) hN h4) fun z z z=>.pO ke rfl
theorem Ym{p:zv}{w:zt}(a b:Int)(t u:Nat):Bm p w (.call (.builtin "int.__eq__") ⟨[.int a t,.int b u],[]⟩) (Az (decide (a=b))):=
 CJ (T:=.pure (.done (.ret (.bool (decide (a=b)))))) (by kernel_rfl) (by kernel_rfl) (fun q q q=>by rw [← Aq]; kernel_rfl) (Ff (R:=Az _) rfl)
def Y9(a b:Int)(v:Bool):A8:=En (.call (.builtin "int.__eq__") ⟨[.int a 0,.int b 0],[]⟩) fun q=>.ok (.ret (.bool v))
theorem Lf{p:zv}{w:zt}{kt:KT}{a b:Int}{v:Bool}(h:decide (a=b)=v):(Y9 a b v).Ok p w kt:=BG fun c hc=>by
 obtain ⟨t,u,rfl⟩:=Hi hc
 intro s k g l cd pc rest
 obtain ⟨s',res,e,G,go⟩:=Ym (p:=p) (w:=w) a b t u s k g l cd pc rest
 exact ⟨s',res,⟨0,by rw [e,h]⟩,G,go⟩
def V9(P:zp):Stmt:=(CM (EW (YK P))).getD 2 (.Pass default)
def ZE(P:zp):Stmt:=(EU (V9 P)).getD 4 (.Pass default)
def d6(P:zp)(fr:Nat):Env:=Br P 175 YK fr
def ZC(P:zp)(aI fr:Nat):Code:=.forLoop (IV (V9 P)) (.ref aI) (EU (V9 P)) (IW (V9 P)) (d6 P fr)
def VG(P:zp)(aI fr:Nat):Code:=.forLoop (IV (ZE P)) (.ref aI) (EU (ZE P)) (IW (ZE P)) (d6 P fr)
def Py(P:zp)(aS aT aN:Nat)(X:Str)(aI:Nat):Option (Str×Nat)→Obj
 | none=>Bp (.dict ⟨[kE P "self" (.ref aS),kE P "nodes" (.ref aT),kE P "n2i" (.ref aN),kE P "node" (.str X 0),kE P "nodeinfo" (.ref aI),kE P "stat" (.int (-1) 0)]⟩ 6)
 | some (Y,aJ)=>Bp (.dict ⟨[kE P "self" (.ref aS),kE P "nodes" (.ref aT),kE P "n2i" (.ref aN),kE P "node" (.str X 0),kE P "nodeinfo" (.ref aI),kE P "stat" (.int (-1) 0),kE P "successor" (.str Y 0),kE P "successor_info" (.ref aJ)]⟩ 8)
def lW(P:zp)(aS aT aN:Nat):Option (Str×Nat×Option (Str×Nat))→Obj
 | none=>Bp (.dict ⟨[kE P "self" (.ref aS),kE P "nodes" (.ref aT),kE P "n2i" (.ref aN)]⟩ 3)
 | some (X,aI,o)=>Py P aS aT aN X aI o
noncomputable def lX:Option (Str×Nat×Option (Str×Nat))→Option (Str×Nat)
 | none=>none
 | some (_,_,o)=>o
def fW(P:zp)(F1 F2:Obj)(pb aL fr aN aR aD aS:Nat)(po nf:Int)(DL DN DR qE DI:zu):Spec:=
 ⟨VG P pb fr,[pb,aL,fr,aN,aR,aD,aS],[AV aL 0,A0 DL,F1,A6 DN,A0 DR,AF P aN (.ref aR) po nf,AE aD],fun q=>.fin (.done .next),fun q=>[{ cls:=.type "list_iterator",data:=DI },A0 DL,F2,A6 DN,A0 qE,AF P aN (.ref aR) po nf,AE aD],fun q=>[]⟩
def nC(P:zp)(F1 F2:Obj)(aL fr aN aR aD aS:Nat)(po nf:Int)(DL DN DR qE DI:zu):A8:=BU [9,5,2,3,8,7,6] [true,true,false,true,true] [] (fun x=>fW P F1 F2 (A4 x 9) aL fr aN aR aD aS po nf DL DN DR qE DI)
theorem YA{w:zt}{b b2:Bool}{F1 F2:Obj}{aL fr aN aR aD aS:Nat}{po nf:Int}{DL DN DR qE DI:zu}{I O:zd}{St:zc}(h:∀ pb,(fW w.2 F1 F2 pb aL fr aN aR aD aS po nf DL DN DR qE DI).PO w b b2 9 (fun q=>True) I O):(nC w.2 F1 F2 aL fr aN aR aD aS po nf DL DN DR qE DI).qB pw (wf w b b2) (A5 w.2) ⟨8,St⟩ I O:=
 AL (w:=wf w b b2) (fun q=>h _) (by decide) (fun q=>⟨rfl,rfl,fun q=>rfl⟩) (fun q q=>rfl)
def VB(P:zp)(names:zf)(fr pb aT aS aD aN aR:Nat)(po nf qI:Int)(DN DR qE DF:zu)(k:Nat):Spec:=
 ⟨ZC P pb fr,[pb,aT,fr,aS,aD,aN,aR],[RH aT 0,AG (.seq ⟨names⟩ 0),lW P aS aT aN none,AE aD,AF P aN (.ref aR) po nf,A6 DN,A0 DR],fun q=>.fin (.done .next),fun q=>[a7 k,AG (.seq ⟨names⟩ 0),Bp DF,AE aD,AF P aN (.ref aR) po qI,A6 DN,A0 qE],fun q=>[]⟩
def la(P:zp)(pb aL fr aN aJ aR aD aS:Nat)(aT aI i xJ lJ:Nat)(X Y:Str)(o:Option (Str×Nat))(nq po nf:Int)(DL DN DR qE:zu):Spec:=⟨VG P pb fr,[pb,aL,fr,aN,aJ,aR,aD,aS],[AV aL i,A0 DL,Py P aS aT aN X aI o,A6 DN,A9 Y nq xJ lJ,A0 DR,AF P aN (.ref aR) po nf,AE aD],fun A=>.fin (.again (VG P pb fr)),fun A=>[AV aL ((i:Int)+1),A0 DL,Py P aS aT aN X aI (some (Y,aJ)),A6 DN,A9 Y (nq-1) xJ lJ,A0 DR,AF P aN (.ref aR) po nf,AE aD],fun A=>[]⟩
theorem VH(pb aL fr aN aJ aR aD aS:Nat)(aT aI i xJ lJ:Nat)(X Y:Str)(o:Option (Str×Nat))(nq po nf:Int)(DL DN DR qE:zu)(N:List (Str×zq))(nn:Nat)(hN:DN=A7 w.2 N nn)(vs:zf)(e:Nat)(hL:DL=.seq ⟨vs⟩ e)(hi:vs[i]?=some (.str Y 0))(hJ:A' N Y=some (.ref aJ))(hq:decide (nq-1=0)=false)(I:zd):(la w.2 pb aL fr aN aJ aR aD aS aT aI i xJ lJ X Y o nq po nf DL DN DR qE).PI w b b2 9 St I:=Ae (Cs.oo o (⟨#[]⟩,0)) (fun z D=>la w.2 pb aL fr aN aJ aR aD aS aT aI i xJ lJ X Y z nq po nf (gD D 0) (gD D 1) (gD D 2) qE) (fun z D l=>la w.2 pb aL fr aN aJ aR aD aS aT aI i xJ lJ X Y z nq po nf (gD D 0) (gD D 1) (gD D 2) qE) (fun z D=>(Ag [Au 0 1 i (gD D 0) (.str Y 0),Bh 3 (gD D 1) Y (.ref aJ),Y9 (nq-1) 0 false])) 3 (fun z=>[]) [false,true,false,true,false,true,false,false] (hD 7 88 170323072839741141710476663897445645630691307067729787594146335553763621350) 0 [0,7] 0 [DL,DN,DR] fun E0 ke=>.q (AQ hL hi) fun y y y=>.q (AZ (w:=wf w b b2) hN hJ) fun y y y=>.q (Lf hq) fun y y y=>.pO ke rfl
def lY(P:zp)(pb aL fr aN aJ aR aD aS:Nat)(aT aI i xJ lJ:Nat)(X Y:Str)(o:Option (Str×Nat))(nq po nf:Int)(DL DN DR qE:zu):Spec:=⟨VG P pb fr,[pb,aL,fr,aN,aJ,aR,aD,aS],[AV aL i,A0 DL,Py P aS aT aN X aI o,A6 DN,A9 Y nq xJ lJ,A0 DR,AF P aN (.ref aR) po nf,AE aD],fun A=>.fin (.again (VG P pb fr)),fun A=>[AV aL ((i:Int)+1),A0 DL,Py P aS aT aN X aI (some (Y,aJ)),A6 DN,A9 Y (nq-1) xJ lJ,A0 qE,AF P aN (.ref aR) po nf,AE aD],fun A=>[]⟩
theorem VE(pb aL fr aN aJ aR aD aS:Nat)(aT aI i xJ lJ:Nat)(X Y:Str)(o:Option (Str×Nat))(nq po nf:Int)(DL DN DR qE:zu)(N:List (Str×zq))(nn:Nat)(hN:DN=A7 w.2 N nn)(vs:zf)(e:Nat)(hL:DL=.seq ⟨vs⟩ e)(hi:vs[i]?=some (.str Y 0))(hJ:A' N Y=some (.ref aJ))(hq:decide (nq-1=0)=true)(rs:zf)(er:Nat)(hR:DR=.seq ⟨rs⟩ er)(v9:qE=.seq ⟨rs++[.str Y 0]⟩ (er+1))(vX:rs.length < 1000)(I:zd):(lY w.2 pb aL fr aN aJ aR aD aS aT aI i xJ lJ X Y o nq po nf DL DN DR qE).PI w b b2 9 St I:=Ae (Cs.oo o (⟨#[]⟩,0)) (fun z D=>lY w.2 pb aL fr aN aJ aR aD aS aT aI i xJ lJ X Y z nq po nf (gD D 0) (gD D 1) (gD D 2) qE) (fun z D l=>lY w.2 pb aL fr aN aJ aR aD aS aT aI i xJ lJ X Y z nq po nf (gD D 0) (gD D 1) (gD D 2) (ud l 0 0)) (fun z D=>(Ag [Au 0 1 i (gD D 0) (.str Y 0),Bh 3 (gD D 1) Y (.ref aJ),Y9 (nq-1) 0 true,Dn 5 (gD D 2) qE (.str Y 0)])) 4 (fun z=>[]) [false,true,false,true,false,true,false,false] (hD 10 106 3666670880008000835050000050000000000050005350500000500000000505050005505000005000000000005000533344433331) 0 [0,7,1] 0 [DL,DN,DR] fun E0 ke=>.q (AQ hL hi) fun y y y=>.q (AZ (w:=wf w b b2) hN hJ) fun y y y=>.q (Lf hq) fun y y y=>.cons (Av hR v9 (by have:=AD; lia)) fun u3 y g3=>.pO ke (@id (eD (u3.d 0)=qE) (g3.1.1) ▸ rfl)
def lZ(P:zp)(pb aL:Nat)(fr i:Nat)(DL pz:zu):Spec:=⟨VG P pb fr,[pb,aL],[AV aL i,A0 DL],fun A=>.fin (.done .next),fun A=>[Bn i,A0 pz],fun A=>[]⟩
theorem VF(pb aL:Nat)(fr i:Nat)(DL pz:zu)(vs:zf)(e:Nat)(hL:DL=.seq ⟨vs⟩ e)(hi:vs.length≤i)(eL:pz=DL)(I:zd):(lZ w.2 pb aL fr i DL pz).PI w b b2 9 St I:=Bu (fun D=>lZ w.2 pb aL fr i (gD D 0) pz) (fun D l=>lZ w.2 pb aL fr i (gD D 0) (ud l 0 2)) (fun D=>(Ag [BM "list_iterator.__next__" 0 1 (fun X=>AV (A4 X 1) i) (Bn i) (A0 (gD D 0))])) 1 [] [false,true] [1,4] 0 [] 1 [DL] fun E0 ke=>.cons (Ay (by decide) hL hi) fun u0 q g0=>.pO ke (@id (eD (u0.d 2)=pz) (g0.1.1.trans eL.symm) ▸ rfl)
def lU(P:zp)(pb aT fr aN aI aL aS aD aR:Nat)(i xI:Nat)(X:Str)(st:Option (Str×Nat×Option (Str×Nat)))(o:Option (Str×Nat))(po nf:Int)(DT DN pj DL pz DR qE DI:zu):Spec:=⟨ZC P pb fr,[pb,aT,fr,aN,aI,aL,aS,aD,aR],[RH aT i,AG DT,lW P aS aT aN st,A6 DN,A9 X (-1) xI aL,A0 DL,AE aD,AF P aN (.ref aR) po nf,A0 DR],fun A=>.fin (.again (ZC P pb fr)),fun A=>[RH aT ((i:Int)+1),AG DT,Py P aS aT aN X aI o,A6 pj,A9 X (-2) xI aL,A0 pz,AE aD,AF P aN (.ref aR) po (nf+1),A0 qE],fun A=>[]⟩
theorem V7(pb aT fr aN aI aL aS aD aR:Nat)(i xI:Nat)(X:Str)(st:Option (Str×Nat×Option (Str×Nat)))(o:Option (Str×Nat))(po nf:Int)(DT DN pj DL pz DR qE DI:zu)(I O:zd)(N:List (Str×zq))(nn:Nat)(hN:DN=A7 w.2 N nn)(ts:zf)(et:Nat)(hT:DT=.seq ⟨ts⟩ et)(hi:ts[i]?=some (.str X 0))(hX:(A' N X).getD .none=.ref aI)(eN:pj=DN)(eL:pz=DL)(rX:∀ pb,(fW w.2 (Py w.2 aS aT aN X aI (lX st)) (Py w.2 aS aT aN X aI o) pb aL fr aN aR aD aS po nf DL DN DR qE DI).PO w b b2 9 (fun y=>True) I O):(lU w.2 pb aT fr aN aI aL aS aD aR i xI X st o po nf DT DN pj DL pz DR qE DI).PO w b b2 8 St I O:=Ae ((Cs.ua st).pp (Cs.oi o)) (fun z D=>lU w.2 pb aT fr aN aI aL aS aD aR i xI X z.1 z.2 po nf (gD D 0) (gD D 1) pj (gD D 2) pz (gD D 3) qE DI) (fun z D l=>lU w.2 pb aT fr aN aI aL aS aD aR i xI X z.1 z.2 po nf (gD D 0) (gD D 1) (ud l 0 6) (gD D 2) (ud l 0 2) (gD D 3) (ud l 0 8) (ud l 0 0)) (fun z D=>(Ag [LX 0 1 i (gD D 0) (.str X 0),FU 3 (gD D 1) X (.ref aI),nC w.2 (Py w.2 aS aT aN X aI (lX z.1)) (Py w.2 aS aT aN X aI z.2) aL fr aN aR aD aS po nf (gD D 2) (gD D 1) (gD D 3) qE DI])) 3 (fun z=>[]) [false,true,false,true,false,true,false,false,true] (hD 12 129 11908126799783562274848946898682090030465850188307365086732571032873718383708974296726027009071533517701352436750545751884495122010227657237) 0 [0,8] 0 [DT,DN,DL,DR] fun E0 ke=>.q (KL hT hi) fun y y y=>.q (BO (w:=wf w b b2) hN hX) fun y y y=>.cons (YA rX) fun u2 y g2=>.pO ke (@id (eD (u2.d 0)=DI) (g2.1.1) ▸ @id (eD (u2.d 2)=pz) (g2.1.2.1.trans eL.symm) ▸ @id (eD (u2.d 6)=pj) (g2.1.2.2.1.trans eN.symm) ▸ @id (eD (u2.d 8)=qE) (g2.1.2.2.2.1) ▸ rfl)
def lV(P:zp)(pb aT:Nat)(fr i:Nat)(DT t6:zu):Spec:=⟨ZC P pb fr,[pb,aT],[RH aT i,AG DT],fun A=>.fin (.done .next),fun A=>[a7 i,AG t6],fun A=>[]⟩
theorem V8(pb aT:Nat)(fr i:Nat)(DT t6:zu)(vs:zf)(e:Nat)(hT:DT=.seq ⟨vs⟩ e)(hi:vs.length≤i)(vI:t6=DT)(I:zd):(lV w.2 pb aT fr i DT t6).PI w b b2 8 St I:=Bu (fun D=>lV w.2 pb aT fr i (gD D 0) t6) (fun D l=>lV w.2 pb aT fr i (gD D 0) (ud l 0 2)) (fun D=>(Ag [BM "tuple_iterator.__next__" 0 1 (fun X=>RH (A4 X 1) i) (a7 i) (AG (gD D 0))])) 1 [] [false,true] [1,4] 0 [] 1 [DT] fun E0 ke=>.cons (Mc (by decide) hT hi) fun u0 q g0=>.pO ke (@id (eD (u0.d 2)=t6) (g0.1.1.trans vI.symm) ▸ rfl)
noncomputable def fb(aS:Nat):Obj:={ cls:=.type "method",data:=.fields #[.ref 175,.ref aS] }
def j3(P:zp)(names:zf)(fr it tu aS aD aN aR:Nat)(po nf qI:Int)(DN DR qE:zu)(k:Nat)(nums:zl):A8:=KI (fun q=>none) nums [false,false,true,false,false,true,true] [] (fun x=>VB P names (A4 x fr) (A4 x it) (A4 x tu) aS aD aN aR po nf qI DN DR qE .plain k) (fun x z=>VB P names (A4 x fr) (A4 x it) (A4 x tu) aS aD aN aR po nf qI DN DR qE z k) (fun q q=>True)
theorem OT{w:zt}{b b2:Bool}{names:zf}{fr it tu aS aD aN aR:Nat}{po nf qI:Int}{DN DR qE:zu}{k:Nat}{nums:zl}{I O:zd}{St:zc}(h:∀ fr it tu,Spec.px (fun z=>VB w.2 names fr it tu aS aD aN aR po nf qI DN DR qE z k) (fun q q=>True) (VB w.2 names fr it tu aS aD aN aR po nf qI DN DR qE .plain k) (wf w b b2) (Al ⟨8,fun q=>True⟩) I O)(nd:nums.Nodup)(hl:nums.length=7):(j3 w.2 names fr it tu aS aD aN aR po nf qI DN DR qE k nums).qB pw (wf w b b2) (A5 w.2) ⟨7,St⟩ I O:=
 Dd (w:=wf w b b2) (fun q=>h _ _ _) (fun q q=>⟨rfl,rfl,rfl⟩) (fun q q q q q=>rfl) (CO (by rfl)) nd (fun q=>⟨hl.symm,hl.symm,fun q q=>hl.symm⟩) (fun q q=>rfl)
theorem WA{α:Type}{l:List α}(h:l≠[])(k:l.length≤4):l.length∈[1,2,3,4]:=by
 have:=zA.mpr h
 simp; lia
def dc(P:zp)(pv aS aD aN aR:Nat)(nm:zm)(L:zl)(po nf qI:Int)(DN pj DR qE:zu):Spec:=⟨.call (.ref pv) ⟨(L.map fun c=>.str (nm c) 0),[]⟩,[pv,aS,aD,aN,aR],[fb aS,AE aD,AF P aN (.ref aR) po nf,A6 DN,A0 DR],fun A=>.fin (.done (.ret .none)),fun A=>[fb aS,AE aD,AF P aN (.ref aR) po qI,A6 pj,A0 qE],fun A=>[]⟩
theorem ZG(pv aS aD aN aR:Nat)(nm:zm)(L:zl)(po nf qI:Int)(DN pj DR qE:zu)(I O:zd)(qf:L≠[])(hl:L.length≤4)(eN:pj=DN)(rX:∀ fr it tu,Spec.px (fun z=>VB w.2 (L.map fun c=>.str (nm c) 0) fr it tu aS aD aN aR po nf qI DN DR qE z L.length) (fun q q=>True) (VB w.2 (L.map fun c=>.str (nm c) 0) fr it tu aS aD aN aR po nf qI DN DR qE .plain L.length) (wf w b b2) (Al ⟨8,fun q=>True⟩) I O):(dc w.2 pv aS aD aN aR nm L po nf qI DN pj DR qE).PO w b b2 7 St I O:=Ae (Cs.len L [1,2,3,4] (WA qf hl)) (fun z D=>dc w.2 pv aS aD aN aR nm z po nf qI (gD D 0) pj (gD D 1) qE) (fun z D l=>dc w.2 pv aS aD aN aR nm z po nf qI (gD D 0) (ud l 0 10) (gD D 1) (ud l 0 12)) (fun z D=>(Ag [j3 w.2 (z.map fun c=>.str (nm c) 0) 6 7 5 aS aD aN aR po nf qI (gD D 0) (gD D 1) qE z.length [7,5,6,1,2,3,4]])) 1 (fun z=>[]) [false,false,false,true,true] (hD 10 39 866677730220002000273022000200027777701) 3 [] 1020 [DN,DR] fun E0 ke=>.cons (OT rX (by decide) rfl) fun u0 q g0=>.pO ke (@id (eD (u0.d 10)=pj) ((let ⟨z,_,h⟩:=g0.1; h.2.1).trans eN.symm) ▸ @id (eD (u0.d 12)=qE) ((let ⟨z,_,h⟩:=g0.1; h.2.2.1)) ▸ rfl)
def dm(P:zp)(aS aD aN aR:Nat)(X:Str)(po nf qI:Int)(DN pj DR qE:zu):Spec:=⟨.call (.ref 175) ⟨[.ref aS,.str X 0],[]⟩,[aS,aD,aN,aR],[AE aD,AF P aN (.ref aR) po nf,A6 DN,A0 DR],fun A=>.fin (.done (.ret .none)),fun A=>[AE aD,AF P aN (.ref aR) po qI,A6 pj,A0 qE],fun A=>[]⟩
theorem ZF(aS aD aN aR:Nat)(X:Str)(po nf qI:Int)(DN pj DR qE:zu)(I O:zd)(eN:pj=DN)(rX:∀ fr it tu,Spec.px (fun z=>VB w.2 [.str X 0] fr it tu aS aD aN aR po nf qI DN DR qE z 1) (fun q q=>True) (VB w.2 [.str X 0] fr it tu aS aD aN aR po nf qI DN DR qE .plain 1) (wf w b b2) (Al ⟨8,fun q=>True⟩) I O):(dm w.2 aS aD aN aR X po nf qI DN pj DR qE).PO w b b2 7 St I O:=Bu (fun D=>dm w.2 aS aD aN aR X po nf qI (gD D 0) pj (gD D 1) qE) (fun D l=>dm w.2 aS aD aN aR X po nf qI (gD D 0) (ud l 0 10) (gD D 1) (ud l 0 12)) (fun D=>(Ag [j3 w.2 [.str X 0] 5 6 4 aS aD aN aR po nf qI (gD D 0) (gD D 1) qE 1 [6,4,5,0,1,2,3]])) 1 [] [false,false,true,true] (hD 9 38 1546045984043635733677993529401325352) 3 [] 20 [DN,DR] fun E0 ke=>.cons (OT rX (by decide) rfl) fun u0 q g0=>.pO ke (@id (eD (u0.d 10)=pj) ((let ⟨z,_,h⟩:=g0.1; h.2.1).trans eN.symm) ▸ @id (eD (u0.d 12)=qE) ((let ⟨z,_,h⟩:=g0.1; h.2.2.1)) ▸ rfl)
section
theorem Ap{i n m:Nat}(h:i+(n+1)=m):i < m:=h ▸ Nat.lt_add_of_pos_right (Nat.succ_pos n)
theorem Ci{i n m:Nat}(h:i+(n+1)=m):i+1+n=m:=(xt i 1 n).trans h
section
variable{w:zt}{Sh:Pos→ze→Prop}{C:Code}{Pre q8:zd}{pQ ph:End→Lp→Prop}
theorem DZ.out(h:DZ w Sh C Pre pQ)(k:∀ e L,pQ e L→∃ L',L.Perm L'∧ph e L'):DZ w Sh C Pre ph:=by
 intro c s pc pN L hp hc H hs
 obtain ⟨e,s',L1,qF,pos',go,po,H',F⟩:=h c s pc pN L hp hc H hs
 obtain ⟨L2,p,qN⟩:=k _ L1 po
 refine ⟨e,s',L2,qF,pos',go,qN,H'.perm p,F.life,F.gens,F.drawn,F.os,F.old,fun q m=>F.new q (p.mem_iff.mpr m)⟩
theorem DZ.qT(h:DZ w Sh C Pre pQ)(k:∀ L,q8 L→∃ L0,Pre L0∧L.Perm L0):DZ w Sh C q8 pQ:=by
 intro c s pc pN L hp hc H hs
 obtain ⟨L0,hp0,p⟩:=k L hp
 obtain ⟨e,s',L1,qF,pos',go,po,H',F⟩:=h c s pc pN L0 hp0 hc (H.perm p) hs
 exact ⟨e,s',L1,qF,pos',go,po,H',F.life,F.gens,F.drawn,F.os,fun b o e n=>F.old b o e fun m=>n ((p.map _).mem_iff.mpr m),fun q m=>(F.new q m).imp (fun a=>(p.map _).mem_iff.mpr a) id⟩
end
structure GA where
 aI:Nat→Nat
 aX:Nat→Nat
 aL:Nat→Nat
structure GS where
 ord:zl
 np:Nat→Int
 sc:Nat→zl
def Du(nm:zm)(G:GS)(A:GA)(c:Nat):Lp:=
 [(A.aI c,A9 (nm c) (G.np c) (A.aX c) (A.aL c)),(A.aL c,A0 (.seq ⟨(G.sc c).map fun d=>.str (nm d) 0⟩ (G.sc c).length))]
noncomputable def Ar(nm:zm)(A:GA)(l:zl):List (Str×zq):=l.map fun c=>(nm c,.ref (A.aI c))
theorem Mr{α β:Type}[DecidableEq α](f:α→List β):∀ {l:List α} {c:α},c∈l→(l.flatMap f).Perm (f c++(l.erase c).flatMap f):=by
 intro l c h
 have p:=z4 h
 exact (p.flatMap_right f)
set_option tactic.hygienic true in
theorem CY{nm:zm}(inj:∀ a b,nm a=nm b→a=b)(A:GA):∀ {l:zl} {c:Nat},A' (Ar nm A l) (nm c)=if c∈l then some (.ref (A.aI c)) else none
 | [],c=>rfl
 | d::l,c=>by
  have ih:=CY inj A (l:=l) (c:=c)
  have e:A' (Ar nm A (d::l)) (nm c)=if nm d==nm c then some (.ref (A.aI d)) else A' (Ar nm A l) (nm c):=by
   unfold A' Ar
   rw [vu,z7]
   split<;>rename_i h<;>simp only [] at h<;>rw [h]<;>rfl
  rw [e,ih]
  by_cases h:d=c
  ·subst h
   rw [wD (by simp),wD (.head _)]
  ·have hn:(nm d==nm c)=false:=by
    have:nm d≠nm c:=fun e=>h (inj _ _ e)
    simpa using this
   rw [hn,w2 (by decide)]
   by_cases hc:c∈l
   ·rw [wD hc,wD (.tail _ hc)]
   ·rw [w2 hc,w2 (fun m=>by cases m with | head=>exact h rfl | tail _ m=>exact hc m)]
end
section
def AK(w:zt)(Sh:Pos→ze→Prop)(C:Code)(Pre:zd)(pQ:End→Lp→Prop):Prop:=
 ∀ L0,Pre L0→DZ w Sh C (fun L=>L=L0) (fun e L'=>pQ e L'∧∀ a∈L0.map (·.1),a∈L'.map (·.1))
abbrev AO(n:Nat)(St:zc):=AK (wf w b b2) (Al ⟨n,St⟩)
section
variable{w:zt}{Sh:Pos→ze→Prop}{C:Code}{Pre q8:zd}{pQ ph:End→Lp→Prop}
theorem AK.pU(h:AK w Sh C Pre pQ)(h1:∀ L,q8 L→∃ L0,L.Perm L0∧Pre L0)(h2:∀ e L,pQ e L→∃ L',L.Perm L'∧ph e L'):AK w Sh C q8 ph:=by
 intro L0 hp
 obtain ⟨L1,p,hp1⟩:=h1 L0 hp
 refine ((h L1 hp1).out fun e L ⟨po,k⟩=>?_).qT fun L e=>⟨L1,rfl,e ▸ p⟩
 obtain ⟨L',p',po'⟩:=h2 e L po
 exact ⟨L',p',po',fun a m=>(p'.map _).mem_iff.mp (k a ((p.map _).mem_iff.mp m))⟩
theorem AK.again{sV:Code→Lp→Prop}(qq:∀ p p' pN,Sh p pN→Sh p' pN)(h:AK w Sh C Pre (fun e L=>∃ c,e=.fin (.again c)∧Ba c=true∧sV c L))(k:∀ c,AK w Sh (eC c) (sV c) pQ):AK w Sh C Pre pQ:=by
 intro L0 hp
 refine DZ.again (sV:=fun c L=>sV c L∧∀ a∈L0.map (·.1),a∈L.map (·.1)) qq ((h L0 hp).pU (fun L e=>e) fun e L ⟨⟨c,he,hq,hm⟩,hk⟩=>.inl ⟨c,he,hq,hm,hk⟩) fun c cc s pc pN L ⟨hm,hk⟩ hcc H hs=>?_
 obtain ⟨e,s',L',qF,pos',go,⟨po,hk2⟩,H',F⟩:=k c L hm cc s pc pN L rfl hcc H hs
 exact ⟨e,s',L',qF,pos',go,⟨po,fun a m=>hk2 a (hk a m)⟩,H',F⟩
theorem El{S:Spec}(hp:S.pre.length=S.ad.length):S.pq.map (·.1)=S.ad:=wm (by lia)
theorem KA{S:Spec}{A:zo}(hc:(S.ch A).length=S.ad.length):(S.pV A).map (·.1)=S.ad++(List.range (S.nw A).length).map A:=by
 unfold Spec.pV
 rw [vl,wm (by lia),wm (by simp)]
theorem Spec.pP.k{S:Spec}{I O:zd}(h:S.pP w Sh I O)(hp:S.pre.length=S.ad.length:=by rfl)(hc:∀ A,(S.ch A).length=S.ad.length:=by exact fun q=>rfl):AK w Sh S.C (fun L=>∃ P,I P∧L=S.pq++P) (fun e L'=>∃ A P',O P'∧e=S.fin A∧L'=S.pV A++P'):=by
 rintro L0 ⟨P,hI,rfl⟩
 refine (h P hI).pU (fun L e=>e) ?_
 rintro e L ⟨A,P',hO,sub,he,rfl⟩
 refine ⟨⟨A,P',hO,he,rfl⟩,fun a m=>?_⟩
 rw [vl,El hp] at m
 rw [vl,KA (hc A)]
 rcases wY.mp m with m | m
 ·exact vq _ (vq _ m)
 ·exact vt _ (sub a m)
theorem Spec.pP.kp{S:Spec}{R:Lp}(h:S.pP w Sh (fun L=>L=R) (fun L=>L=R))(h1:∀ L,q8 L→L.Perm (S.pq++R))(h2:∀ A,∃ L',(S.pV A++R).Perm L'∧ph (S.fin A) L')(hp:S.pre.length=S.ad.length:=by rfl)(hc:∀ A,(S.ch A).length=S.ad.length:=by exact fun q=>rfl):AK w Sh S.C q8 ph:=
 (h.k hp hc).pU (fun L p=>⟨_,h1 L p,R,rfl,rfl⟩) fun e L ⟨A,P',a,b,c⟩=>by subst a b c; exact h2 A
theorem Spec.pP.kq{S:Spec}{I O:zd}(h:S.pP w Sh I O)(h1:∀ L,q8 L→∃ P,L.Perm (S.pq++P)∧I P)(h2:∀ A P',O P'→∃ L',(S.pV A++P').Perm L'∧ph (S.fin A) L')(hp:S.pre.length=S.ad.length:=by rfl)(hc:∀ A,(S.ch A).length=S.ad.length:=by exact fun z=>rfl):AK w Sh S.C q8 ph:=
 (h.k hp hc).pU (fun L p=>let ⟨P,q,i⟩:=h1 L p; ⟨_,q,P,i,rfl⟩) fun e L ⟨A,P',o,b,c⟩=>by subst b c; exact h2 A P' o
theorem AK.go{C1:Code}{M:zd}(qq:∀ p p' pN,Sh p pN→Sh p' pN)(hq:Ba C1=true)(h:AK w Sh C Pre (fun e L=>e=.fin (.again C1)∧M L))(k:AK w Sh (eC C1) M pQ):AK w Sh C Pre pQ:=
 .again (sV:=fun c L=>c=C1∧M L) qq (h.pU (fun L h=>⟨L,.refl _,h⟩) fun e L ⟨a,b⟩=>⟨L,.refl _,C1,a,hq,rfl,b⟩) fun c L0 ⟨a,b⟩=>by subst a; exact k L0 b
theorem Spec.pP.tT{S:Spec}{R:Lp}{C1:Code}{M:zd}(h:S.pP w Sh (fun L=>L=R) (fun L=>L=R))(qq:∀ p p' pN,Sh p pN→Sh p' pN)(hq:Ba C1=true)(hf:∀ A,S.fin A=.fin (.again C1))(x:∀ A,∃ L',(S.pV A++R).Perm L'∧M L')(k:AK w Sh (eC C1) M pQ)(hp:S.pre.length=S.ad.length:=by rfl)(hc:∀ A,(S.ch A).length=S.ad.length:=by exact fun q=>rfl):AK w Sh S.C (fun L=>∃ P,P=R∧L=S.pq++P) pQ:=
 .go qq hq ((h.k hp hc).pU (fun L p=>⟨L,.refl _,p⟩) fun e L ⟨A,P',a,b,c⟩=>by subst a b c; exact let ⟨L',p,m⟩:=x A; ⟨L',p,hf A,m⟩) k
end
end
section
inductive We (pQ:End→Lp→Lp→Prop) (L0:Lp) (e:End) (L':Lp):Prop
 | mk (Lk Ln:Lp) (q:L'.Perm (Lk++Ln)) (po:pQ e Lk Ln) (k:∀ a∈L0.map (·.1),a∈Lk.map (·.1)):We pQ L0 e L'
def Dp(w:zt)(Sh:Pos→ze→Prop)(C:Code)(Pre:zd)(pQ:End→Lp→Lp→Prop):Prop:=
 ∀ L0,Pre L0→DZ w Sh C (fun L=>L=L0) (We pQ L0)
def Spec.qp(S:Spec)(A:zo):Lp:=((List.range (S.nw A).length).map A).zip (S.nw A)
section
variable{w:zt}{Sh:Pos→ze→Prop}{C:Code}{Pre q8:zd}{ph:End→Lp→Prop}{pQ:End→Lp→Lp→Prop}
theorem Dp.pU{sa:End→Lp→Lp→Prop}(h:Dp w Sh C Pre pQ)(h1:∀ L,q8 L→∃ L0,L.Perm L0∧Pre L0)(h2:∀ e Lk Ln,pQ e Lk Ln→∃ tg,Lk.Perm tg∧sa e tg Ln):Dp w Sh C q8 sa:=by
 intro L0 hp
 obtain ⟨L1,p,hp1⟩:=h1 L0 hp
 refine ((h L1 hp1).pU (fun L h=>h) ?_).qT fun L e=>⟨L1,rfl,e ▸ p⟩
 rintro e L ⟨Lk,Ln,q,po,k⟩
 obtain ⟨tg,p',po'⟩:=h2 e Lk Ln po
 exact ⟨tg,Ln,q.trans (.append_right _ p'),po',fun a m=>(p'.map _).mem_iff.mp (k a ((p.map _).mem_iff.mp m))⟩
theorem Dp.k(h:Dp w Sh C Pre pQ)(h2:∀ e Lk Ln,pQ e Lk Ln→ph e (Lk++Ln)):AK w Sh C Pre ph:=by
 intro L0 hp
 refine (h L0 hp).out ?_
 rintro e L ⟨Lk,Ln,q,po,k⟩
 refine ⟨Lk++Ln,q,h2 _ _ _ po,fun a m=>?_⟩
 rw [vl]; exact vq _ (k a m)
theorem Dp.kk(h:Dp w Sh C Pre pQ):AK w Sh C Pre (fun e L=>∃ Lk Ln,pQ e Lk Ln∧L=Lk++Ln):=h.k fun q q q p=>⟨_,_,p,rfl⟩
theorem AK.n0(h:AK w Sh C Pre ph):Dp w Sh C Pre (fun e Lk Ln=>ph e Lk∧Ln=[]):=by
 intro L0 hp
 refine (h L0 hp).pU (fun L e=>e) ?_
 rintro e L ⟨po,k⟩
 exact ⟨L,[],by rw [w9],⟨po,rfl⟩,k⟩
theorem Spec.pW.n{Z:Type}{F:Z→Spec}{O:Z→(Nat→Nat)→Lp→Prop}{S:Spec}{I:zd}(h:Spec.pW F O S w Sh I)(hp:S.pre.length=S.ad.length:=by rfl)(hF:∀ z,(F z).ad=S.ad:=by exact fun q=>rfl)(hc:∀ z A,((F z).ch A).length=S.ad.length:=by exact fun q q=>rfl) :
  Dp w Sh S.C (fun L=>∃ P,I P∧L=S.pq++P) (fun e Lk Ln=>∃ z A P',O z A P'∧e=(F z).fin A∧Lk=S.ad.zip ((F z).ch A)++P'∧Ln=(F z).qp A):=by
 rintro L0 ⟨P,hI,rfl⟩
 refine (h P hI).pU (fun L e=>e) ?_
 rintro e L ⟨z,A,P',hO,sub,he,rfl⟩
 refine ⟨S.ad.zip ((F z).ch A)++P',(F z).qp A,?_,⟨z,A,P',hO,he,rfl,rfl⟩,fun a m=>?_⟩
 ·unfold Spec.pV Spec.qp
  rw [hF,vj,vj]
  exact .append_left _ wJ
 ·rw [vl,El hp] at m
  rw [vl,wm (by rw [hc]; exact vp _)]
  rcases wY.mp m with m | m
  ·exact vq _ m
  ·exact vt _ (sub a m)
theorem Spec.pW.kq{Z:Type}{F:Z→Spec}{O:Z→(Nat→Nat)→Lp→Prop}{S:Spec}{I:zd}(h:Spec.pW F O S w Sh I)(h1:∀ L,Pre L→∃ P,L.Perm (S.pq++P)∧I P)(h2:∀ z A P',O z A P'→∃ L',((S.ad.zip ((F z).ch A)++P')++(F z).qp A).Perm L'∧ph ((F z).fin A) L')(hp:S.pre.length=S.ad.length:=by rfl)(hF:∀ z,(F z).ad=S.ad:=by exact fun y=>rfl)(hc:∀ z A,((F z).ch A).length=S.ad.length:=by exact fun y y=>rfl):AK w Sh S.C Pre ph:=
 (h.n hp hF hc).kk.pU (fun L p=>let ⟨P,q,i⟩:=h1 L p; ⟨_,q,P,i,rfl⟩) fun e L ⟨Lk,Ln,⟨z,A,P',o,b,c,d⟩,e⟩=>by subst e d c b; exact h2 z A P' o
theorem Spec.px.d{Z:Type}{F:Z→Spec}{φ:Z→(Nat→Nat)→Prop}{S:Spec}{I O:zd}(h:Spec.px F φ S w Sh I O):Spec.pW F (fun z A P'=>φ z A∧O P') S w Sh I:=
 fun P hI=>(h P hI).pU (fun q e=>e) fun e L ⟨z,A,P',a,b,c,d,g⟩=>⟨z,A,P',⟨a,b⟩,c,d,g⟩
theorem Spec.pW.z{Z:Type}{F:Z→Spec}{φ:Z→(Nat→Nat)→Prop}{S:Spec}{I O:zd}(h:Spec.pW F (fun z A P'=>φ z A∧O P') S w Sh I):Spec.px F φ S w Sh I O:=
 fun P hI=>(h P hI).pU (fun q e=>e) fun e L ⟨z,A,P',⟨a,b⟩,c,d,g⟩=>⟨z,A,P',a,b,c,d,g⟩
theorem Spec.pP.d{S:Spec}{I O:zd}(h:S.pP w Sh I O):Spec.pW (fun _:Unit=>S) (fun q q P'=>O P') S w Sh I:=
 fun P hI=>(h P hI).pU (fun q e=>e) fun e L ⟨A,P',a,b,c,d⟩=>⟨(),A,P',a,b,c,d⟩
theorem Spec.pW.p{S:Spec}{I O:zd}(h:Spec.pW (fun _:Unit=>S) (fun q q P'=>O P') S w Sh I):S.pP w Sh I O:=
 fun P hI=>(h P hI).pU (fun q e=>e) fun e L ⟨_,A,P',a,b,c,d⟩=>⟨A,P',a,b,c,d⟩
theorem Dp.tB{Z:Type}{F:Z→Spec}{O:Z→(Nat→Nat)→Lp→Prop}{S:Spec}{I:zd}(h:Dp w Sh S.C Pre pQ)
  (h1:∀ P,I P→∃ L0,(S.pq++P).Perm L0∧Pre L0) (h2:∀ e Lk Ln,pQ e Lk Ln→∃ z A P' Lx,O z A (P'++Lx)∧e=(F z).fin A∧Lk.Perm (S.ad.zip ((F z).ch A)++P')∧Ln.Perm ((F z).qp A++Lx)) (hp:S.pre.length=S.ad.length:=by rfl) (hF:∀ z,(F z).ad=S.ad:=by exact fun y=>rfl) (hc:∀ z A,((F z).ch A).length=S.ad.length:=by exact fun y y=>rfl):Spec.pW F O S w Sh I:=by
 intro P hI c s pc pN L eL hC H hs
 subst eL
 obtain ⟨L0,p,hp0⟩:=h1 P hI
 obtain ⟨e,s',L',qF,pos',go,⟨Lk,Ln,q,po,k⟩,H',Fr'⟩:=h L0 hp0 c s pc pN L0 rfl hC (H.perm p) hs
 obtain ⟨z,A,P',Lx,hO,he,p2,pn⟩:=h2 _ _ _ po
 have p3:L'.Perm ((F z).pV A++(P'++Lx)):=by
  refine q.trans ((p2.append pn).trans ?_)
  unfold Spec.pV Spec.qp
  rw [hF,vj,vj]
  refine .append_left _ ?_
  rw [← vj,← vj]
  exact .append_right _ wJ
 refine ⟨e,s',(F z).pV A++(P'++Lx),qF,pos',go,⟨z,A,P'++Lx,hO,fun a m=>?_,he,rfl⟩,H'.perm p3,Fr'.life,Fr'.gens,Fr'.drawn,Fr'.os,fun b o e n=>Fr'.old b o e fun m=>n ((p.map _).mem_iff.mpr m),fun q m=>(Fr'.new q (p3.mem_iff.mpr m)).imp (fun a=>(p.map _).mem_iff.mpr a) id⟩
 have m1:a∈(S.pq++P).map (·.1):=by rw [vl]; exact vt _ m
 have m2:=(p2.map (·.1)).mem_iff.mp (k a ((p.map _).mem_iff.mp m1))
 rw [vl,wm (by rw [hc]; exact vp _)] at m2
 rcases wY.mp m2 with m2 | m2
 ·exfalso
  have nd:=H.nd
  rw [vl,El hp] at nd
  exact (x5.mp nd).2.2 a m2 a m rfl
 ·rw [vl]; exact vq _ m2
theorem Dp.toD{Z:Type}{F:Z→Spec}{O:Z→(Nat→Nat)→Lp→Prop}{S:Spec}{I:zd}(h:Dp w Sh S.C Pre pQ)
  (h1:∀ P,I P→∃ L0,(S.pq++P).Perm L0∧Pre L0) (h2:∀ e Lk Ln,pQ e Lk Ln→∃ z A P',O z A P'∧e=(F z).fin A∧Lk.Perm (S.ad.zip ((F z).ch A)++P')∧Ln=(F z).qp A) (hp:S.pre.length=S.ad.length:=by rfl) (hF:∀ z,(F z).ad=S.ad:=by exact fun q=>rfl) (hc:∀ z A,((F z).ch A).length=S.ad.length:=by exact fun q q=>rfl):Spec.pW F O S w Sh I:=
 h.tB h1 (fun e Lk Ln p=>let ⟨z,A,P',a,b,c,d⟩:=h2 e Lk Ln p; ⟨z,A,P',[],by rw [w9]; exact a,b,c,by rw [w9,d]⟩) hp hF hc
theorem AK.toD{Z:Type}{F:Z→Spec}{O:Z→(Nat→Nat)→Lp→Prop}{S:Spec}{I:zd}(h:AK w Sh S.C Pre ph)
  (h1:∀ P,I P→∃ L0,(S.pq++P).Perm L0∧Pre L0) (h2:∀ e L,ph e L→∃ z A P',O z A P'∧e=(F z).fin A∧L.Perm ((F z).pV A++P')) (hp:S.pre.length=S.ad.length:=by rfl) (hF:∀ z,(F z).ad=S.ad:=by exact fun q=>rfl) (hc:∀ z A,((F z).ch A).length=S.ad.length:=by exact fun q q=>rfl) (hn:∀ z A,(F z).nw A=[]:=by exact fun q q=>rfl):Spec.pW F O S w Sh I:=
 h.n0.toD h1 (fun e Lk Ln p=>let ⟨z,A,P',a,b,c⟩:=h2 e Lk p.1; ⟨z,A,P',a,b,by unfold Spec.pV at c; rw [hF,hn] at c; simpa using c,by rw [p.2]; unfold Spec.qp; rw [hn]; rfl⟩) hp hF hc
theorem AK.sR{w:zt}{Sh:Pos→ze→Prop}{Pre:zd}{pQ:End→Lp→Prop}{S:Spec}{I O:zd}(h:AK w Sh S.C Pre pQ)
  (h1:∀ P,I P→∃ L0,(S.pq++P).Perm L0∧Pre L0) (h2:∀ e L,pQ e L→∃ A P',O P'∧e=S.fin A∧L.Perm (S.pV A++P')) (hp:S.pre.length=S.ad.length:=by rfl) (hc:∀ A,(S.ch A).length=S.ad.length:=by exact fun q=>rfl) (hn:∀ A,S.nw A=[]:=by exact fun q=>rfl):S.pP w Sh I O:=by
 have d:=AK.toD (Z:=Unit) (F:=fun q=>S) (O:=fun q q P'=>O P') (I:=I) h h1 (fun e L po=>let ⟨A,P',a,b,c⟩:=h2 e L po; ⟨(),A,P',a,b,c⟩) hp (fun q=>rfl) (fun q=>hc) (fun q=>hn)
 intro P hI
 exact (d P hI).pU (fun q h=>h) fun e L ⟨_,A,P',a,b,c,d⟩=>⟨A,P',a,b,c,d⟩
end
end
section
noncomputable def AB(nm:zm)(l:zl):zf:=l.map fun c=>.str (nm c) 0
noncomputable def AM(G:GS)(l:zl):zl:=l.filter fun c=>G.np c==0
def JK(nm:zm)(G:GS)(A:GA)(R:Lp):Lp:=G.ord.flatMap (Du nm G A)++R
theorem HO{G:GS}{l:zl}{c:Nat}:AM G (l++[c])=if G.np c=0 then AM G l++[c] else AM G l:=by
 unfold AM
 rw [List.filter_append]
 by_cases h:G.np c=0
 ·simp [h]
 ·simp [h]
section
variable{w:zt}{b b2:Bool}{nm:zm}{G:GS}(A:GA)(R:Lp)(aI aN aA aK fr:Nat)
def KH(P:zp)(nm:zm)(G:GS)(A:GA)(R:Lp)(aI aN aA aK:Nat)(It:Obj)(l:zl)(k:Option Nat):Lp:=
 [(aI,It),(aN,A6 (A7 P (Ar nm A G.ord) G.ord.length)),(aA,A0 (.seq ⟨AB nm (AM G l)⟩ (AM G l).length)),(aK,kO P k)]++JK nm G A R
theorem Od{c:Nat}(hc:c∈G.ord):∃ T,(JK nm G A R).Perm ((A.aI c,A9 (nm c) (G.np c) (A.aX c) (A.aL c))::T):=
 ⟨_,xA _ (Mr _ hc)⟩
theorem oW{α:Type}(a b c d x:α)(T:List α):([a,b,c,d]++(x::T)).Perm ([a,b,c,d,x]++T):=by simp
theorem LU{i:Nat}{c:Nat}(hi:G.ord[i]?=some c)(hn:0≤G.np c)(hs:G.ord.length < 1000)(k:Option Nat) :
  AO w b b2 8 (fun q=>True) (ES w.2 aI aA aK fr)
   (fun L=>L.Perm (KH w.2 nm G A R aI aN aA aK (C2 aN i G.ord.length G.ord.length) (G.ord.take i) k))
   (fun e L=>e=.fin (.again (ES w.2 aI aA aK fr))∧L.Perm (KH w.2 nm G A R aI aN aA aK (C2 aN ((i:Int)+1) G.ord.length G.ord.length) (G.ord.take (i+1)) (some (A.aI c)))):=by
 have hm:c∈G.ord:=wW hi
 obtain ⟨T,hT⟩:=Od (nm:=nm) A R hm
 have hN:(Ar nm A G.ord)[i]?=some (nm c,.ref (A.aI c)):=by unfold Ar; rw [wI,hi]; rfl
 have hlen:(Ar nm A G.ord).length=G.ord.length:=by simp [Ar]
 have htk:G.ord.take (i+1)=G.ord.take i++[c]:=by rw [y9,hi]; rfl
 have hsm:(AB nm (AM G (G.ord.take i))).length≤sizeLine:=by
  have h1:(AM G (G.ord.take i)).length≤(G.ord.take i).length:=xy _ _
  have h2:(G.ord.take i).length≤G.ord.length:=by simp; lia
  have:=AD
  unfold AB; rw [vh]; lia
 have pm:∀ {It:Obj} {l:zl} {k:Option Nat} {v:Int},G.np c=v→(KH w.2 nm G A R aI aN aA aK It l k).Perm ([(aI,It),(aN,A6 (A7 w.2 (Ar nm A G.ord) G.ord.length)),(aA,A0 (.seq ⟨AB nm (AM G l)⟩ (AM G l).length)),(aK,kO w.2 k),(A.aI c,A9 (nm c) v (A.aX c) (A.aL c))]++T):=by
  rintro It l k _ rfl
  exact (vy _ hT).trans (oW _ _ _ _ _ _)
 by_cases h0:G.np c=0
 ·have e2:AM G (G.ord.take (i+1))=AM G (G.ord.take i)++[c]:=by rw [htk,HO,wD h0]
  have eD2:(Data.seq ⟨AB nm (AM G (G.ord.take (i+1)))⟩ (AM G (G.ord.take (i+1))).length)=.seq ⟨AB nm (AM G (G.ord.take i))++[.str (nm c) 0]⟩ ((AM G (G.ord.take i)).length+1):=by
   rw [e2]; unfold AB; simp
  exact (Sd w b b2 aI aN aA aK (A.aI c) fr i G.ord.length (A.aX c) (A.aL c) (nm c) k (Ar nm A G.ord) G.ord.length _ _ _ rfl hlen hN _ _ rfl eD2 hsm (fun L=>L=T)).kp (fun q p=>p.trans (pm h0)) fun q=>⟨_,(pm h0).symm,rfl,.refl _⟩
 ·have e2:AM G (G.ord.take (i+1))=AM G (G.ord.take i):=by rw [htk,HO,w2 h0]
  obtain ⟨m,hm2⟩:∃ m:Nat,G.np c=((m+1:Nat):Int):=by
   obtain ⟨m,h⟩:=yk hn
   cases m with
   | zero=>exact absurd h h0
   | succ m=>exact ⟨m,h⟩
  unfold KH
  rw [e2]
  exact (Sb w b b2 aI aN aA aK (A.aI c) fr i G.ord.length (A.aX c) (A.aL c) m (nm c) k (Ar nm A G.ord) G.ord.length _ (.seq ⟨AB nm (AM G (G.ord.take i))⟩ (AM G (G.ord.take i)).length) rfl hlen hN (fun L=>L=T)).kp (fun q p=>p.trans (pm hm2)) fun q=>⟨_,(pm hm2).symm,rfl,.refl _⟩
theorem SY(hn:∀ c,0≤G.np c)(hs:G.ord.length < 1000):∀ (n i:Nat) (a:Nat),i+n=G.ord.length→
  AO w b b2 8 (fun q=>True) (ES w.2 aI aA aK fr)
   (fun L=>L.Perm (KH w.2 nm G A R aI aN aA aK (C2 aN i G.ord.length G.ord.length) (G.ord.take i) (some a)))
   (fun e L=>e=.fin (.done .next)∧L.Perm (KH w.2 nm G A R aI aN aA aK (Jd G.ord.length G.ord.length G.ord.length) G.ord (some ((G.ord.drop i).foldl (fun q c=>A.aI c) a)))):=by
 intro n
 induction n with
 | zero=>
  intro i a hi
  have hi:i=G.ord.length:=by lia
  subst hi
  have hlen:(Ar nm A G.ord).length=G.ord.length:=by simp [Ar]
  rw [xC,yG]
  exact (Sa w b b2 aI aN aA aK fr a G.ord.length G.ord.length (Ar nm A G.ord) G.ord.length _ _ (.seq ⟨AB nm (AM G G.ord)⟩ (AM G G.ord).length) rfl hlen (by rw [hlen]; exact vp _) rfl (fun L=>L=JK nm G A R)).kp (fun q p=>p) fun q=>⟨_,.refl _,rfl,.refl _⟩
 | succ n ih=>
  intro i a hi
  have hlt:i < G.ord.length:=Ap hi
  have hp:G.ord[i]?=some G.ord[i]:=w0 hlt
  have hd:G.ord.drop i=G.ord[i]::G.ord.drop (i+1):=wH hlt
  rw [hd]
  exact AK.go (fun q q q h=>h) (by kernel_rfl) (LU A R aI aN aA aK fr hp (hn _) hs (some a)) (ih (i+1) (A.aI G.ord[i]) (Ci hi))
theorem Xd(hn:∀ c,0≤G.np c)(hs:G.ord.length < 1000){c0:Nat}{rest:zl}(ho:G.ord=c0::rest) :
  (fE w.2 aI aN aA aK fr G.ord.length G.ord.length (rest.foldl (fun q c=>A.aI c) (A.aI c0)) (A7 w.2 (Ar nm A G.ord) G.ord.length) (.seq ⟨AB nm (AM G G.ord)⟩ (AM G G.ord).length)).PI w b b2 8 (fun q=>True) (fun L=>L=JK nm G A R):=by
 have hp:G.ord[0]?=some c0:=by rw [ho]; rfl
 have hlen:(Ar nm A G.ord).length=G.ord.length:=by simp [Ar]
 have hd:G.ord.drop 1=rest:=by rw [ho]; rfl
 have h0:=LU (w:=w) (b:=b) (b2:=b2) (nm:=nm) A R aI aN aA aK fr hp (hn _) hs none
 have h1:=SY (w:=w) (b:=b) (b2:=b2) (nm:=nm) A R aI aN aA aK fr hn hs (G.ord.length-1) 1 (A.aI c0) (by rw [ho]; exact yH _ _)
 rw [hd] at h1
 have hz:=Spec.pP.tT (M:=fun L=>L.Perm (KH w.2 nm G A R aI aN aA aK (C2 aN ((0:Nat):Int) G.ord.length G.ord.length) (G.ord.take 0) none)) (Se w b b2 aI aN aA aK fr G.ord.length G.ord.length (A7 w.2 (Ar nm A G.ord) G.ord.length) (.seq ⟨AB nm (AM G (G.ord.take 0))⟩ (AM G (G.ord.take 0)).length) (fun L=>L=JK nm G A R)) (fun q q q h=>h) (by kernel_rfl) (fun q=>rfl) (fun q=>⟨_,.refl _,.refl _⟩) (AK.go (fun q q q h=>h) (by kernel_rfl) h0 h1)
 refine AK.sR hz ?_ ?_
 ·rintro P rfl
  exact ⟨_,.refl _,_,rfl,rfl⟩
 ·rintro e L ⟨rfl,p⟩
  exact ⟨fun q=>0,JK nm G A R,rfl,rfl,p⟩
end
end
noncomputable def upd{β:Type}(f:Nat→β)(c:Nat)(v:β)(d:Nat):β:=if d=c then v else f d
theorem E8{β:Type}(f:Nat→β)(c:Nat)(v:β):upd f c v c=v:=wD rfl
theorem BL{β:Type}(f:Nat→β){c d:Nat}(v:β)(h:d≠c):upd f c v d=f d:=w2 h
theorem Dj{α β:Type}{f g:α→List β}:∀ {l:List α},(∀ d∈l,g d=f d)→l.flatMap g=l.flatMap f
 | [],_=>rfl
 | a::m,h=>by rw [wO,wO,h a (.head _),Dj (fun d hd=>h d (.tail _ hd))]
def GA.set(A:GA)(x a b c:Nat):GA:=⟨upd A.aI x a,upd A.aX x b,upd A.aL x c⟩
theorem Tw{nm:zm}{A:GA}{l:zl}{x a b c:Nat}(h:x∉l):Ar nm (A.set x a b c) (l++[x])=Ar nm A l++[(nm x,.ref a)]:=by
 unfold Ar
 rw [vl]
 congr 1
 ·refine List.map_congr_left fun d hd=>?_
  have:d≠x:=fun e=>h (e ▸ hd)
  simp only [GA.set,BL _ _ this]
 ·simp [GA.set,E8]
theorem Tx{nm:zm}{G G':GS}{A:GA}{x a b c d:Nat}(h:d≠x)(h1:G'.np d=G.np d)(h2:G'.sc d=G.sc d):Du nm G' (A.set x a b c) d=Du nm G A d:=by
 unfold Du GA.set
 simp only [BL _ _ h,h1,h2]
noncomputable def Cr(nm:zm)(G:GS)(c:Nat):zu:=.seq ⟨(G.sc c).map fun d=>.str (nm d) 0⟩ (G.sc c).length
def cO(nm:zm)(G:GS)(A:GA)(c:Nat):Lp:=(G.ord.erase c).map fun c=>(A.aL c,A0 (Cr nm G c))
def Im(nm:zm)(G:GS)(A:GA):Lp:=G.ord.map fun c=>(A.aL c,A0 (Cr nm G c))
theorem BC{α β:Type}[DecidableEq α](f:α→β){l:List α}{c:α}(h:c∈l):(l.map f).Perm (f c::(l.erase c).map f):=(z4 h).map f
def PS(nm:zm)(G:GS)(A:GA):Lp:=G.ord.map fun c=>(A.aI c,A9 (nm c) (G.np c) (A.aX c) (A.aL c))
theorem Bi{nm:zm}{G:GS}{A:GA}{R:Lp}:(G.ord.flatMap (Du nm G A)++R).Perm (PS nm G A++(Im nm G A++R)):=by
 have h:∀ l:zl,(l.flatMap (Du nm G A)).Perm (l.map (fun c=>(A.aI c,A9 (nm c) (G.np c) (A.aX c) (A.aL c)))++l.map (fun c=>(A.aL c,A0 (Cr nm G c)))):=by
  intro l
  induction l with
  | nil=>exact .refl _
  | cons c l ih=>
   rw [wO,vu,vu]
   refine (vy _ ih).trans ?_
   unfold Du Cr
   classical
   rw [List.perm_iff_count]; intro a
   simp only [List.count_cons,List.count_append,List.count_nil]; lia
 refine ((h G.ord).append_right R).trans (.of_eq ?_)
 rw [vj]; rfl
theorem HP{α:Type}[DecidableEq α]{ord:List α}:∀ {l:List α},l.Nodup→(∀ c∈l,c∈ord)→∃ rest,ord.Perm (l++rest)
 | [],_,_=>⟨ord,.refl _⟩
 | c::l,nd,h=>by
  obtain ⟨nc,nd⟩:=wZ.mp nd
  obtain ⟨rest,p⟩:=HP nd (fun d hd=>h d (.tail _ hd))
  have m:c∈l++rest:=p.mem_iff.mp (h c (.head _))
  have m:c∈rest:=(wY.mp m).resolve_left nc
  refine ⟨rest.erase c,p.trans ?_⟩
  refine (vy _ (z4 m)).trans ?_
  exact wV
theorem Pl{α β:Type}[DecidableEq α]{f g:α→List β}{ord l:List α}(no:ord.Nodup)(nl:l.Nodup)(hl:∀ c∈l,c∈ord)(hg:∀ d∈ord,d∉l→g d=f d):∃ rest,(ord.flatMap f).Perm (l.flatMap f++rest)∧(ord.flatMap g).Perm (l.flatMap g++rest):=by
 obtain ⟨rest,p⟩:=HP nl hl
 refine ⟨rest.flatMap f,?_,?_⟩
 ·rw [← wo]; exact p.flatMap_right f
 ·have e:rest.flatMap g=rest.flatMap f:=Dj fun d hd=>by
   have hm:d∈ord:=p.mem_iff.mpr (vt _ hd)
   have nd:=p.nodup_iff.mp no
   exact hg d hm fun m=>(x5.mp nd).2.2 d m d hd rfl
  rw [← e,← wo]; exact p.flatMap_right g
section
noncomputable def BH(l:zl)(G:GS):GS:={ G with np:=fun c=>if c∈l then -1 else G.np c }
def nh(P:zp)(nm:zm)(G:GS)(A:GA)(R:Lp)(aS aD aN aR:Nat)(po nf:Int)(DR:zu):Lp:=
 [(aS,AE aD),(aD,AF P aN (.ref aR) po nf),(aN,A6 (A7 P (Ar nm A G.ord) G.ord.length)),(aR,A0 DR)]++(G.ord.flatMap (Du nm G A)++R)
noncomputable def Fp(l:zl)(e:Nat):Nat:=if l=[] then e else e+1
def lB(P:zp)(nm:zm)(A:GA)(np:Nat→Int)(aS aD aN aR:Nat)(l:zl)(po nf:Int)(e:Nat)(DN:zu):Spec:=
 ⟨.call (.ref 154) ⟨[.ref aS],[]⟩,[aS,aD,aN,aR]++l.map A.aI,[AE aD,AF P aN (.ref aR) po nf,A6 DN,A0 (.seq ⟨AB nm l⟩ e)]++l.map (fun c=>A9 (nm c) (np c) (A.aX c) (A.aL c)),fun A1=>.fin (.done (.ret (.ref (A1 0)))),fun q=>[AE aD,AF P aN (.ref aR) (po+(l.length:Nat)) nf,A6 DN,A0 (.seq #[] (Fp l e))]++l.map (fun c=>A9 (nm c) (-1) (A.aX c) (A.aL c)),fun q=>[AG (.seq ⟨AB nm l⟩ 0)]⟩
theorem Uo(nm:zm)(A:GA)(np:Nat→Int)(aS aD aN aR:Nat)(po nf:Int)(e:Nat)(l:zl)(hl:l.length≤4)(DN:zu)(N:List (Str×zq))(nn:Nat)(hN:DN=A7 w.2 N nn)(h:∀ c∈l,A' N (nm c)=some (.ref (A.aI c)))(I:zd):(lB w.2 nm A np aS aD aN aR l po nf e DN).PI w b b2 7 St I:=by
 rcases l with _ | ⟨c1,_ | ⟨c2,_ | ⟨c3,_ | ⟨c4,_ | ⟨c5,l⟩⟩⟩⟩⟩
 ·exact Pc w b b2 aS aD aN aR po nf e DN N nn hN I
 ·exact Pb w b b2 aS aD aN aR (A.aI c1) (nm c1) (np c1) (A.aX c1) (A.aL c1) po nf e DN N nn hN (h c1 (.head _)) I
 ·exact Pa w b b2 aS aD aN aR (A.aI c1) (A.aI c2) (nm c1) (nm c2) (np c1) (np c2) (A.aX c1) (A.aL c1) (A.aX c2) (A.aL c2) po nf e DN N nn hN (h c1 (.head _)) (h c2 (.tail _ (.head _))) I
 ·exact PZ w b b2 aS aD aN aR (A.aI c1) (A.aI c2) (A.aI c3) (nm c1) (nm c2) (nm c3) (np c1) (np c2) (np c3) (A.aX c1) (A.aL c1) (A.aX c2) (A.aL c2) (A.aX c3) (A.aL c3) po nf e DN N nn hN (h c1 (.head _)) (h c2 (.tail _ (.head _))) (h c3 (.tail _ (.tail _ (.head _)))) I
 ·exact PY w b b2 aS aD aN aR (A.aI c1) (A.aI c2) (A.aI c3) (A.aI c4) (nm c1) (nm c2) (nm c3) (nm c4) (np c1) (np c2) (np c3) (np c4) (A.aX c1) (A.aL c1) (A.aX c2) (A.aL c2) (A.aX c3) (A.aL c3) (A.aX c4) (A.aL c4) po nf e DN N nn hN (h c1 (.head _)) (h c2 (.tail _ (.head _))) (h c3 (.tail _ (.tail _ (.head _)))) (h c4 (.tail _ (.tail _ (.tail _ (.head _))))) I
 ·simp at hl
theorem N'{α:Type}[DecidableEq α](f g:Nat→α)(h:Nat→List α)(hh:∀ c,h c=[f c,g c]):∀ l:zl,(l.flatMap h).Perm (l.map f++l.map g)
 | []=>.refl _
 | c::l=>by
  have ih:=N' f g h hh l
  rw [List.perm_iff_count] at ih ⊢; intro z
  have ih:=ih z
  simp only [wO,vu,hh,List.count_cons,List.count_append,List.count_nil] at ih ⊢; lia
theorem Vx{α:Type}{a F T R i s:List α}(h:F.Perm ((i++s)++T)):(a++(F++R)).Perm ((a++i)++(s++(T++R))):=
 FQ [a,F,R,i,s,T] (.r [0,1] (.l 2)) (.a (.r [0] (.l 3)) (.r [4,5] (.l 2))) (.l 1) (.a (.r [3] (.l 4)) (.l 5)) h rfl
section
variable{w:zt}{b b2:Bool}{nm:zm}{G:GS}(inj:∀ a b,nm a=nm b→a=b)(A:GA)(R:Lp)(no:G.ord.Nodup)
include inj no
theorem Yt{St:zc}(aS aD aN aR:Nat)(po nf:Int)(l:zl)(e:Nat)(nd:l.Nodup)(ho:∀ c∈l,c∈G.ord)(hl:l.length≤4) :
  Dp (wf w b b2) (Al ⟨7,St⟩) (.call (.ref 154) ⟨[.ref aS],[]⟩) (fun L=>L.Perm (nh w.2 nm G A R aS aD aN aR po nf (.seq ⟨AB nm l⟩ e)))
   (fun e' Lk Ln=>∃ A1:Nat→Nat,e'=.fin (.done (.ret (.ref (A1 0))))∧Lk.Perm (nh w.2 nm (BH l G) A R aS aD aN aR (po+l.length) nf (.seq #[] (Fp l e)))∧Ln=[(A1 0,AG (.seq ⟨AB nm l⟩ 0))]):=by
 classical
 obtain ⟨T,p1,p2⟩:=Pl (f:=Du nm G A) (g:=Du nm (BH l G) A) no nd ho (fun d q hd=>by unfold Du BH; simp only [w2 hd])
 have q1:=N' (fun c=>(A.aI c,A9 (nm c) (G.np c) (A.aX c) (A.aL c))) (fun c=>(A.aL c,A0 (Cr nm G c))) (Du nm G A) (fun q=>rfl) l
 have q2:(l.flatMap (Du nm (BH l G) A)).Perm (l.map (fun c=>(A.aI c,A9 (nm c) (-1) (A.aX c) (A.aL c)))++l.map (fun c=>(A.aL c,A0 (Cr nm G c)))):=by
  rw [Dj (g:=Du nm (BH l G) A) (f:=fun c=>[(A.aI c,A9 (nm c) (-1) (A.aX c) (A.aL c)),(A.aL c,A0 (Cr nm G c))]) (fun c hc=>by unfold Du BH; simp only [wD hc]; rfl)]
  exact N' _ _ _ (fun q=>rfl) l
 have z1:∀ (f:Nat→Obj),(l.map A.aI).zip (l.map f)=l.map fun c=>(A.aI c,f c):=fun f=>by rw [List.zip_map']
 refine (Spec.pW.n (Spec.pP.d (Uo w b b2 nm A G.np aS aD aN aR po nf e l hl (A7 w.2 (Ar nm A G.ord) G.ord.length) (Ar nm A G.ord) G.ord.length rfl (fun c m=>by rw [CY inj,wD (ho c m)]) (fun L=>L=l.map (fun c=>(A.aL c,A0 (Cr nm G c)))++(T++R)))) (by simp [lB]) (fun q=>rfl) (fun q q=>by simp [lB])).pU ?_ ?_
 ·intro L p
  refine ⟨_,p.trans ((Vx (p1.trans (q1.append_right _))).trans (.of_eq ?_)),_,rfl,rfl⟩
  show _=([(aS,_),(aD,_),(aN,_),(aR,_)]++(l.map A.aI).zip (l.map _))++_
  rw [z1]
 ·rintro e' Lk Ln ⟨_,A1,P',rfl,rfl,rfl,rfl⟩
  refine ⟨_,.refl _,A1,rfl,.trans (.of_eq ?_) (Vx (p2.trans (q2.append_right _))).symm,rfl⟩
  show ([(aS,_),(aD,_),(aN,_),(aR,_)]++(l.map A.aI).zip (l.map _))++_=_
  rw [z1]; rfl
def Uq(P:zp)(aS aD aN aR:Nat)(po qN nf:Int)(DG:zu):Spec:=
 ⟨.call (.ref 154) ⟨[.ref aS],[]⟩,[aS,aD],[AE aD,AF P aN (.ref aR) po nf],fun A=>.fin (.done (.ret (.ref (A 0)))),fun q=>[AE aD,AF P aN (.ref aR) qN nf],fun q=>[AG DG]⟩
def RG(P:zp)(nm:zm)(aN aR:Nat)(R0:Lp)(G:GS)(l:zl)(e:Nat)(L:Lp):Prop:=
 ∃ A M,L.Perm ([(aN,A6 (A7 P (Ar nm A G.ord) G.ord.length)),(aR,A0 (.seq ⟨AB nm l⟩ e))]++(G.ord.flatMap (Du nm G A)++(M++R0)))
theorem Kh{St:zc}(aS aD aN aR:Nat)(R0:Lp)(po nf:Int){l:zl}(e:Nat)(nd:l.Nodup)(ho:∀ c∈l,c∈G.ord)(hl:l.length≤4) :
  (Uq w.2 aS aD aN aR po (po+l.length) nf (.seq ⟨AB nm l⟩ 0)).PO w b b2 7 St (RG w.2 nm aN aR R0 G l e) (RG w.2 nm aN aR R0 (BH l G) [] (Fp l e)):=by
 intro P hQ
 obtain ⟨A,M,pm⟩:=hQ
 have h:=Yt (St:=St) (w:=w) (b:=b) (b2:=b2) inj A (M++R0) no aS aD aN aR po nf l e nd ho hl
 refine (Spec.pW.p (S:=Uq w.2 aS aD aN aR po (po+l.length) nf (.seq ⟨AB nm l⟩ 0)) (O:=RG w.2 nm aN aR R0 (BH l G) [] (Fp l e)) (Dp.toD (I:=fun L=>L=P) h ?_ ?_)) P rfl
 ·rintro P' rfl
  exact ⟨_,vy _ pm,.refl _⟩
 ·rintro e' Lk Ln ⟨A1,rfl,pm2,rfl⟩
  exact ⟨(),A1,[(aN,A6 (A7 w.2 (Ar nm A G.ord) G.ord.length)),(aR,A0 (.seq #[] (Fp l e)))]++((BH l G).ord.flatMap (Du nm (BH l G) A)++(M++R0)),⟨A,M,.refl _⟩,rfl,pm2,rfl⟩
end
end
section
def JT(nm:zm)(A:GA)(f:Nat→Int)(l:zl):Lp:=l.map fun c=>(A.aI c,A9 (nm c) (f c) (A.aX c) (A.aL c))
theorem GR{α β:Type}{f g:α→β}:∀ {l:List α},(∀ c∈l,f c=g c)→l.map f=l.map g
 | [],_=>rfl
 | a::l,h=>by rw [vu,vu,h a (.head _),GR fun c m=>h c (.tail _ m)]
theorem Hd{nm:zm}{A:GA}{f g:Nat→Int}{l:zl}(h:∀ c∈l,f c=g c):JT nm A f l=JT nm A g l:=
 GR fun c m=>by rw [h c m]
theorem PR(nm:zm)(A:GA)(f:Nat→Int){l:zl}{y:Nat}(h:y∈l)(nd:l.Nodup)(v:Int):∃ T,(JT nm A f l).Perm ((A.aI y,A9 (nm y) (f y) (A.aX y) (A.aL y))::T)∧(JT nm A (upd f y v) l).Perm ((A.aI y,A9 (nm y) v (A.aX y) (A.aL y))::T):=by
 refine ⟨JT nm A f (l.erase y),BC _ h,?_⟩
 have p:=BC (fun c=>(A.aI c,A9 (nm c) (upd f y v c) (A.aX c) (A.aL c))) h
 rw [show upd f y v y=v from E8 f y v] at p
 have e:JT nm A (upd f y v) (l.erase y)=JT nm A f (l.erase y):=Hd fun c m=>BL f v fun e=>by subst e; exact List.Nodup.not_mem_erase nd m
 rw [← e]; exact p
def FY:zl→(Nat→Int)→zl→Nat→(Nat→Int)×zl×Nat
 | [],f,q,e=>(f,q,e)
 | y::l,f,q,e=>if f y-1=0 then FY l (upd f y (f y-1)) (q++[y]) (e+1) else FY l (upd f y (f y-1)) q e
theorem Q5(y:Nat)(l:zl)(f:Nat→Int)(q:zl)(e:Nat):FY (y::l) f q e=if f y-1=0 then FY l (upd f y (f y-1)) (q++[y]) (e+1) else FY l (upd f y (f y-1)) q e:=rfl
theorem Ez{X:Nat}:∀ {l:zl} {f:Nat→Int} {q:zl} {e:Nat},X∉l→(FY l f q e).1 X=f X
 | [],_,_,_,_=>rfl
 | y::l,f,q,e,h=>by
  have hn:X≠y:=fun e=>h (by subst e; exact .head _)
  have hl:X∉l:=fun m=>h (.tail _ m)
  rw [Q5]
  split
  ·rw [Ez hl,BL _ _ hn]
  ·rw [Ez hl,BL _ _ hn]
theorem Ib:∀ {l:zl} {f:Nat→Int} {q:zl} {e:Nat},(FY l f q e).2.1.length≤q.length+l.length
 | [],_,_,_=>vp _
 | y::l,f,q,e=>by
  rw [Q5]
  split
  ·have:=Ib (l:=l) (f:=upd f y (f y-1)) (q:=q++[y]) (e:=e+1)
   rw [vn,xe] at this
   rw [vr,yH l.length]; exact this
  ·exact vv Ib (xk (y7 _) _)
noncomputable def GV(l:zl)(y:Option Nat):Option Nat:=l.foldl (fun q y=>some y) y
noncomputable def oY(nm:zm)(A:GA)(y:Option Nat):Option (Str×Nat):=y.map fun y=>(nm y,A.aI y)
def cx(P:zp)(nm:zm)(A:GA)(aS aT aN X:Nat)(y:Option Nat):Obj:=Py P aS aT aN (nm X) (A.aI X) (oY nm A y)
def fX(P:zp)(nm:zm)(G:GS)(A:GA)(R:Lp)(aS aT aN aR aD fr pb:Nat)(po nf:Int)(X:Nat)(It:Obj)(y0:Option Nat)(f:Nat→Int)(q:zl)(e:Nat):Lp:=
 [(pb,It),(A.aL X,A0 (Cr nm G X)),(fr,cx P nm A aS aT aN X y0),(aN,A6 (A7 P (Ar nm A G.ord) G.ord.length)),(aR,A0 (.seq ⟨AB nm q⟩ e)),(aD,AF P aN (.ref aR) po nf),(aS,AE aD)]++(JT nm A f (G.ord.erase X)++R)
theorem SU{α:Type}(i l f n r d s j:α)(T R:List α){F:List α}(h:F.Perm (j::T)):([i,l,f,n,r,d,s]++(F++R)).Perm ([i,l,f,n,j,r,d,s]++(T++R)):=
 FQ [[i],[l],[f],[n],[r],[d],[s],F,R,[j],T] (.a (.q [0,1,2,3,4,5,6]) (.r [7] (.l 8))) (.a (.q [0,1,2,3,9,4,5,6]) (.r [10] (.l 8))) (.l 7) (.r [9] (.l 10)) h rfl
section
variable{w:zt}{b b2:Bool}{nm:zm}{G:GS}(inj:∀ a b,nm a=nm b→a=b)(A:GA)(R:Lp)(no:G.ord.Nodup)(aS aT aN aR aD fr:Nat)(po nf:Int)
include inj no
theorem VC(pb X:Nat){i y:Nat}(hi:(G.sc X)[i]?=some y)(hy:y∈G.ord)(ub:y≠X)(y0:Option Nat)(f:Nat→Int)(q:zl)(e:Nat)(hq:q.length < 1000) :
  AO w b b2 9 (fun z=>True) (VG w.2 pb fr) (fun L=>L.Perm (fX w.2 nm G A R aS aT aN aR aD fr pb po nf X (AV (A.aL X) i) y0 f q e))
   (fun e' L=>e'=.fin (.again (VG w.2 pb fr))∧L.Perm (fX w.2 nm G A R aS aT aN aR aD fr pb po nf X (AV (A.aL X) ((i:Int)+1)) (some y) (upd f y (f y-1)) (if f y-1=0 then q++[y] else q) (if f y-1=0 then e+1 else e))):=by
 have hm:y∈G.ord.erase X:=(List.mem_erase_of_ne ub).mpr hy
 obtain ⟨T,p1,p2⟩:=PR nm A f hm (no.erase X) (f y-1)
 have hv:((G.sc X).map fun d=>Value.str (nm d) 0)[i]?=some (.str (nm y) 0):=by rw [wI,hi]; rfl
 have lk:A' (Ar nm A G.ord) (nm y)=some (.ref (A.aI y)):=by rw [CY inj,wD hy]
 by_cases hz:f y-1=0
 ·rw [wD hz,wD hz]
  have e2:(Data.seq ⟨AB nm (q++[y])⟩ (e+1))=.seq ⟨AB nm q++[.str (nm y) 0]⟩ (e+1):=by unfold AB; simp
  exact Spec.pP.kp (VE w b b2 pb (A.aL X) fr aN (A.aI y) aR aD aS aT (A.aI X) i (A.aX y) (A.aL y) (nm X) (nm y) (oY nm A y0) (f y) po nf (Cr nm G X) _ (.seq ⟨AB nm q⟩ e) (.seq ⟨AB nm (q++[y])⟩ (e+1)) (Ar nm A G.ord) G.ord.length rfl _ _ rfl hv lk (wj hz) _ _ rfl e2 (by simp [AB]; lia) (fun L=>L=T++R)) (fun z p=>p.trans (SU _ _ _ _ _ _ _ _ _ _ p1)) fun A1=>⟨_,.refl _,rfl,(SU _ _ _ _ _ _ _ _ _ _ p2).symm⟩
 ·rw [w2 hz,w2 hz]
  exact Spec.pP.kp (VH w b b2 pb (A.aL X) fr aN (A.aI y) aR aD aS aT (A.aI X) i (A.aX y) (A.aL y) (nm X) (nm y) (oY nm A y0) (f y) po nf (Cr nm G X) _ (.seq ⟨AB nm q⟩ e) .plain (Ar nm A G.ord) G.ord.length rfl _ _ rfl hv lk (wg hz) (fun L=>L=T++R)) (fun z p=>p.trans (SU _ _ _ _ _ _ _ _ _ _ p1)) fun A1=>⟨_,.refl _,rfl,(SU _ _ _ _ _ _ _ _ _ _ p2).symm⟩
theorem VD(pb X:Nat)(hX:X∉G.sc X)(hc:∀ d∈G.sc X,d∈G.ord):∀ (n i:Nat) (y0:Option Nat) (f:Nat→Int) (q:zl) (e:Nat),i+n=(G.sc X).length→q.length+n < 1000→
  AO w b b2 9 (fun y=>True) (VG w.2 pb fr) (fun L=>L.Perm (fX w.2 nm G A R aS aT aN aR aD fr pb po nf X (AV (A.aL X) i) y0 f q e))
   (fun e' L=>e'=.fin (.done .next)∧L.Perm (fX w.2 nm G A R aS aT aN aR aD fr pb po nf X (Bn ((G.sc X).length:Nat)) (GV ((G.sc X).drop i) y0) (FY ((G.sc X).drop i) f q e).1 (FY ((G.sc X).drop i) f q e).2.1 (FY ((G.sc X).drop i) f q e).2.2)):=by
 intro n
 induction n with
 | zero=>
  intro i y0 f q e hi hq
  have hi:i=(G.sc X).length:=by lia
  subst hi
  rw [xC]
  exact Spec.pP.kp (VF w b b2 pb (A.aL X) fr (G.sc X).length (Cr nm G X) (Cr nm G X) _ _ rfl (by simp) rfl (fun L=>L=[(fr,cx w.2 nm A aS aT aN X y0),(aN,A6 (A7 w.2 (Ar nm A G.ord) G.ord.length)),(aR,A0 (.seq ⟨AB nm q⟩ e)),(aD,AF w.2 aN (.ref aR) po nf),(aS,AE aD)]++(JT nm A f (G.ord.erase X)++R))) (fun y p=>p) fun A1=>⟨_,.refl _,rfl,.refl _⟩
 | succ n ih=>
  intro i y0 f q e hi hq
  have hlt:i < (G.sc X).length:=Ap hi
  have hp:(G.sc X)[i]?=some (G.sc X)[i]:=w0 hlt
  have hd:(G.sc X).drop i=(G.sc X)[i]::(G.sc X).drop (i+1):=wH hlt
  have hmem:(G.sc X)[i]∈G.sc X:=zT hlt
  have hs:=VC (w:=w) (b:=b) (b2:=b2) inj A R no aS aT aN aR aD fr po nf pb X hp (hc _ hmem) (fun e=>hX (Eq.subst (motive:=fun z=>z∈G.sc X) e hmem)) y0 f q e (by lia)
  have hq2:(if f (G.sc X)[i]-1=0 then q++[(G.sc X)[i]] else q).length+n < 1000:=by
   split
   ·rw [vn,wQ]; lia
   ·lia
  have hI:=ih (i+1) (some (G.sc X)[i]) (upd f (G.sc X)[i] (f (G.sc X)[i]-1)) (if f (G.sc X)[i]-1=0 then q++[(G.sc X)[i]] else q) (if f (G.sc X)[i]-1=0 then e+1 else e) (Ci hi) hq2
  have eD:FY ((G.sc X).drop i) f q e=FY ((G.sc X).drop (i+1)) (upd f (G.sc X)[i] (f (G.sc X)[i]-1)) (if f (G.sc X)[i]-1=0 then q++[(G.sc X)[i]] else q) (if f (G.sc X)[i]-1=0 then e+1 else e):=by
   rw [hd]
   rw [Q5]
   split<;>rfl
  have eL:GV ((G.sc X).drop i) y0=GV ((G.sc X).drop (i+1)) (some (G.sc X)[i]):=by rw [hd]; rfl
  rw [eD,eL]
  exact AK.go (fun y y y h=>h) (by kernel_rfl) hs (hI)
theorem ZD(X:Nat)(hX:X∉G.sc X)(hc:∀ d∈G.sc X,d∈G.ord)(y0:Option Nat)(f:Nat→Int)(q:zl)(e:Nat)(hq:q.length+(G.sc X).length < 1000)(pb:Nat) :
  (fW w.2 (cx w.2 nm A aS aT aN X y0) (cx w.2 nm A aS aT aN X (GV (G.sc X) y0)) pb (A.aL X) fr aN aR aD aS po nf (Cr nm G X) (A7 w.2 (Ar nm A G.ord) G.ord.length) (.seq ⟨AB nm q⟩ e) (.seq ⟨AB nm (FY (G.sc X) f q e).2.1⟩ (FY (G.sc X) f q e).2.2) (Bn ((G.sc X).length:Nat)).data).pP (wf w b b2) (Al ⟨9,fun z=>True⟩)
   (fun L=>L.Perm (JT nm A f (G.ord.erase X)++R)) (fun L=>L.Perm (JT nm A (FY (G.sc X) f q e).1 (G.ord.erase X)++R)):=by
 have h:=VD (w:=w) (b:=b) (b2:=b2) inj A R no aS aT aN aR aD fr po nf pb X hX hc (G.sc X).length 0 y0 f q e (by lia) hq
 rw [yr] at h
 refine AK.sR h ?_ ?_
 ·intro L p
  exact ⟨_,vy _ p,.refl _⟩
 ·rintro e' L ⟨rfl,p⟩
  exact ⟨fun z=>0,_,.refl _,rfl,p⟩
end
end
section
def cz(P:zp)(nm:zm)(A:GA)(aS aT aN:Nat)(st:Option (Nat×Option Nat)):Obj:=lW P aS aT aN (st.map fun s=>(nm s.1,A.aI s.1,oY nm A s.2))
noncomputable def a8:Option (Nat×Option Nat)→Option Nat
 | none=>none
 | some (_,y)=>y
def dB(P:zp)(nm:zm)(G:GS)(A:GA)(R:Lp)(aS aT aN aR aD fr pb:Nat)(po:Int)(ts:zl)(It:Obj)(st:Option (Nat×Option Nat))(f:Nat→Int)(q:zl)(e:Nat)(nf:Int):Lp:=
 [(pb,It),(aT,AG (.seq ⟨AB nm ts⟩ 0)),(fr,cz P nm A aS aT aN st),(aS,AE aD),(aD,AF P aN (.ref aR) po nf),(aN,A6 (A7 P (Ar nm A G.ord) G.ord.length)),(aR,A0 (.seq ⟨AB nm q⟩ e))]++(JT nm A f G.ord++(Im nm G A++R))
theorem bH{α:Type}(t u f s d n q i l:α)(F' L' R:List α){F L:List α}(h:F.Perm (i::F'))(h2:L.Perm (l::L')):([t,u,f,s,d,n,q]++(F++(L++R))).Perm ([t,u,f,n,i,l,s,d,q]++(F'++(L'++R))):=
 FQ [[t],[u],[f],[s],[d],[n],[q],F,L,R,[i],[l],F',L'] (.a (.q [0,1,2,3,4,5,6]) (.r [7,8] (.l 9))) (.a (.q [0,1,2,5,10,11,3,4,6]) (.r [12,13] (.l 9))) (.r [7] (.l 8)) (.a (.r [10] (.l 12)) (.r [11] (.l 13))) (h.append h2) rfl
def Ea(sc:Nat→zl):zl→(Nat→Int)→zl→Nat→Option ((Nat→Int)×zl×Nat)
 | [],f,q,e=>some (f,q,e)
 | X::l,f,q,e=>if f X=-1∧X∉sc X then Ea sc l (FY (sc X) (upd f X (-2)) q e).1 (FY (sc X) (upd f X (-2)) q e).2.1 (FY (sc X) (upd f X (-2)) q e).2.2 else none
theorem ZK(sc:Nat→zl)(X:Nat)(l:zl)(f:Nat→Int)(q:zl)(e:Nat):Ea sc (X::l) f q e=if f X=-1∧X∉sc X then Ea sc l (FY (sc X) (upd f X (-2)) q e).1 (FY (sc X) (upd f X (-2)) q e).2.1 (FY (sc X) (upd f X (-2)) q e).2.2 else none:=rfl
def gu(sc:Nat→zl):zl→Option (Nat×Option Nat)→Option (Nat×Option Nat)
 | [],st=>st
 | X::l,st=>gu sc l (some (X,GV (sc X) (a8 st)))
section
variable{w:zt}{b b2:Bool}{nm:zm}{G:GS}(inj:∀ a b,nm a=nm b→a=b)(A:GA)(R:Lp)(no:G.ord.Nodup)(qO:∀ c∈G.ord,∀ d∈G.sc c,d∈G.ord)(aS aT aN aR aD fr:Nat)(po:Int)(ts:zl)
include inj no qO
theorem V5(pb:Nat){i X:Nat}(hi:ts[i]?=some X)(sP:X∈G.ord)(st:Option (Nat×Option Nat))(f:Nat→Int)(q:zl)(e:Nat)(nf:Int)(hf:f X=-1)(hX:X∉G.sc X)(hq:q.length+(G.sc X).length < 1000) :
  AO w b b2 8 (fun z=>True) (ZC w.2 pb fr) (fun L=>L.Perm (dB w.2 nm G A R aS aT aN aR aD fr pb po ts (RH aT i) st f q e nf))
   (fun e' L=>e'=.fin (.again (ZC w.2 pb fr))∧L.Perm (dB w.2 nm G A R aS aT aN aR aD fr pb po ts (RH aT ((i:Int)+1)) (some (X,GV (G.sc X) (a8 st))) (FY (G.sc X) (upd f X (-2)) q e).1 (FY (G.sc X) (upd f X (-2)) q e).2.1 (FY (G.sc X) (upd f X (-2)) q e).2.2 (nf+1))):=by
 have hv:(AB nm ts)[i]?=some (.str (nm X) 0):=by unfold AB; rw [wI,hi]; rfl
 have lk:(A' (Ar nm A G.ord) (nm X)).getD .none=.ref (A.aI X):=by rw [CY inj,wD sP]; rfl
 have p1:=BC (fun c=>(A.aI c,A9 (nm c) (f c) (A.aX c) (A.aL c))) sP
 rw [hf] at p1
 have p2:=BC (fun c=>(A.aI c,A9 (nm c) ((FY (G.sc X) (upd f X (-2)) q e).1 c) (A.aX c) (A.aL c))) sP
 rw [Ez hX,E8] at p2
 have pl:=BC (fun c=>(A.aL c,A0 (Cr nm G c))) sP
 have ec:JT nm A (upd f X (-2)) (G.ord.erase X)=JT nm A f (G.ord.erase X):=Hd fun c m=>BL f (-2) fun e=>by subst e; exact List.Nodup.not_mem_erase no m
 have rX:=fun y0 pb=>ZD (w:=w) (b:=b) (b2:=b2) inj A (cO nm G A X++R) no aS aT aN aR aD fr po nf X hX (qO X sP) y0 (upd f X (-2)) q e hq pb
 rw [ec] at rX
 have e1:oY nm A (a8 st)=lX (st.map fun s=>(nm s.1,A.aI s.1,oY nm A s.2)):=by cases st<;>rfl
 have h:=rX (a8 st)
 unfold cx at h
 rw [e1] at h
 refine (Spec.pP.k (V7 w b b2 pb aT fr aN (A.aI X) (A.aL X) aS aD aR i (A.aX X) (nm X) _ _ po nf (.seq ⟨AB nm ts⟩ 0) (A7 w.2 (Ar nm A G.ord) G.ord.length) (A7 w.2 (Ar nm A G.ord) G.ord.length) (Cr nm G X) (Cr nm G X) (.seq ⟨AB nm q⟩ e) _ _ _ _ (Ar nm A G.ord) G.ord.length rfl (AB nm ts) 0 rfl hv lk rfl rfl h)).pU ?_ ?_
 ·intro L p
  exact ⟨_,p.trans (bH _ _ _ _ _ _ _ _ _ _ _ _ p1 pl),_,.refl _,rfl⟩
 ·rintro e' L ⟨A1,P',hP,rfl,rfl⟩
  exact ⟨_,.refl _,rfl,(vy _ hP).trans (bH _ _ _ _ _ _ _ _ _ _ _ _ p2 pl).symm⟩
set_option tactic.hygienic true in
theorem V6(pb:Nat)(uE:∀ c∈ts,c∈G.ord)(qY:∀ c,(G.sc c).length < 20):∀ (n i:Nat) (st:Option (Nat×Option Nat)) (f:Nat→Int) (q:zl) (e:Nat) (nf:Int) (r:(Nat→Int)×zl×Nat),i+n=ts.length→q.length+n*20 < 900→Ea G.sc (ts.drop i) f q e=some r→
  AO w b b2 8 (fun z=>True) (ZC w.2 pb fr) (fun L=>L.Perm (dB w.2 nm G A R aS aT aN aR aD fr pb po ts (RH aT i) st f q e nf))
   (fun e' L=>e'=.fin (.done .next)∧L.Perm (dB w.2 nm G A R aS aT aN aR aD fr pb po ts (a7 (ts.length:Nat)) (gu G.sc (ts.drop i) st) r.1 r.2.1 r.2.2 (nf+n))):=by
 intro n
 induction n with
 | zero=>
  intro i st f q e nf r hi hq hr
  have hi:i=ts.length:=by lia
  subst hi
  rw [xC] at hr ⊢
  cases hr
  refine (Spec.pP.k (V8 w b b2 pb aT fr ts.length (.seq ⟨AB nm ts⟩ 0) (.seq ⟨AB nm ts⟩ 0) (AB nm ts) 0 rfl (by simp [AB]) rfl (fun L=>L=[(fr,cz w.2 nm A aS aT aN st),(aS,AE aD),(aD,AF w.2 aN (.ref aR) po nf),(aN,A6 (A7 w.2 (Ar nm A G.ord) G.ord.length)),(aR,A0 (.seq ⟨AB nm q⟩ e))]++(JT nm A f G.ord++(Im nm G A++R))))).pU ?_ ?_
  ·intro L p
   exact ⟨_,p,_,rfl,rfl⟩
  ·rintro e' L ⟨A1,P',rfl,rfl,rfl⟩
   refine ⟨_,.refl _,rfl,.of_eq ?_⟩
   rw [show nf+((0:Nat):Int)=nf by lia]; rfl
 | succ n ih=>
  intro i st f q e nf r hi hq hr
  have hlt:i < ts.length:=Ap hi
  have hp:ts[i]?=some ts[i]:=w0 hlt
  have hd:ts.drop i=ts[i]::ts.drop (i+1):=wH hlt
  rw [hd] at hr ⊢
  rw [ZK] at hr
  split at hr
  ·rename_i hh
   have h2:=qY ts[i]
   have h3:=Ib (l:=G.sc ts[i]) (f:=upd f ts[i] (-2)) (q:=q) (e:=e)
   have hs:=V5 (w:=w) (b:=b) (b2:=b2) inj A R no qO aS aT aN aR aD fr po ts pb hp (uE _ (zT hlt)) st f q e nf hh.1 hh.2 (by lia)
   have hI:=ih (i+1) (some (ts[i],GV (G.sc ts[i]) (a8 st))) _ _ _ (nf+1) r (Ci hi) (by lia) hr
   have en:nf+1+(n:Int)=nf+((n+1:Nat):Int):=by lia
   rw [en] at hI
   exact AK.go (fun z z z h=>h) (by kernel_rfl) hs (hI)
  ·cases hr
theorem Pz(pb:Nat)(uE:∀ c∈ts,c∈G.ord)(qY:∀ c,(G.sc c).length < 20)(hl:ts.length < 20)(f:Nat→Int)(q:zl)(e:Nat)(nf:Int)(hq:q.length < 20){r:(Nat→Int)×zl×Nat}(hr:Ea G.sc ts f q e=some r) :
  (VB w.2 (AB nm ts) fr pb aT aS aD aN aR po nf (nf+ts.length) (A7 w.2 (Ar nm A G.ord) G.ord.length) (.seq ⟨AB nm q⟩ e) (.seq ⟨AB nm r.2.1⟩ r.2.2) (cz w.2 nm A aS aT aN (gu G.sc ts none)).data ts.length).pP (wf w b b2) (Al ⟨8,fun z=>True⟩)
   (fun L=>L.Perm (JT nm A f G.ord++(Im nm G A++R))) (fun L=>L.Perm (JT nm A r.1 G.ord++(Im nm G A++R))):=by
 have h:=V6 (w:=w) (b:=b) (b2:=b2) inj A R no qO aS aT aN aR aD fr po ts pb uE qY ts.length 0 none f q e nf r (by lia) (by lia) (by rw [yr]; exact hr)
 rw [yr] at h
 have eO:∀ st,cz w.2 nm A aS aT aN st=Bp (cz w.2 nm A aS aT aN st).data:=by
  rintro (_ | ⟨X,_ | y⟩)<;>rfl
 refine AK.sR h ?_ ?_
 ·intro L p
  exact ⟨_,vy _ p,.refl _⟩
 ·rintro e' L ⟨rfl,p⟩
  refine ⟨fun z=>0,_,.refl _,rfl,p.trans (.of_eq ?_)⟩
  unfold dB
  rw [eO]; rfl
end
end
section
def dA(P:zp)(names:zf)(pv aS aD aN aR:Nat)(po nf qI:Int):Spec:=
 ⟨.call (.ref pv) ⟨names,[]⟩,[pv,aS,aD],[fb aS,AE aD,AF P aN (.ref aR) po nf],fun q=>.fin (.done (.ret .none)),fun q=>[fb aS,AE aD,AF P aN (.ref aR) po qI],fun q=>[]⟩
theorem Spec.pP.z{Z:Type}{F:Z→Spec}{S0:Spec}{w:zt}{Sh:Pos→ze→Prop}{I O:zd}(z:Z)(h:(F z).pP w Sh I O)(hC:(F z).C=S0.C)(hp:(F z).pq=S0.pq):Spec.px F (fun q q=>True) S0 w Sh I O:=by
 intro P hI
 have h:=h P hI
 rw [hC,hp] at h
 exact h.pU (fun q e=>e) fun e L ⟨A,P',a,b,c,d⟩=>⟨z,A,P',True.intro,a,b,c,d⟩
def dH(P:zp)(X:Str)(aS aD aN aR:Nat)(po nf qI:Int):Spec:=
 ⟨.call (.ref 175) ⟨[.ref aS,.str X 0],[]⟩,[aS,aD],[AE aD,AF P aN (.ref aR) po nf],fun q=>.fin (.done (.ret .none)),fun q=>[AE aD,AF P aN (.ref aR) po qI],fun q=>[]⟩
section
variable{w:zt}{b b2:Bool}{nm:zm}{G:GS}(inj:∀ a b,nm a=nm b→a=b)(no:G.ord.Nodup)(qO:∀ c∈G.ord,∀ d∈G.sc c,d∈G.ord)
include inj no qO
theorem ZA{St:zc}(pv aS aD aN aR:Nat)(R0:Lp)(po nf:Int){l:zl}(ho:∀ c∈l,c∈G.ord)(hl:l.length≤4)(qf:l≠[])(qY:∀ c,(G.sc c).length < 20)(q:zl)(e:Nat)(hq:q.length < 20){r:(Nat→Int)×zl×Nat}(hr:Ea G.sc l G.np q e=some r) :
  (dA w.2 (AB nm l) pv aS aD aN aR po nf (nf+l.length)).PO w b b2 7 St (RG w.2 nm aN aR R0 G q e) (RG w.2 nm aN aR R0 { G with np:=r.1 } r.2.1 r.2.2):=by
 intro P hQ
 obtain ⟨A,M,pm⟩:=hQ
 have hk:=fun fr it tu=>Pz (w:=w) (b:=b) (b2:=b2) inj A (M++R0) no qO aS tu aN aR aD fr po l it ho qY (by lia) G.np q e nf hq hr
 have hk2:=Spec.pP.k (ZG (St:=St) w b b2 pv aS aD aN aR nm l po nf _ _ _ _ _ _ _ qf hl rfl (fun fr it tu=>Spec.pP.z _ (hk fr it tu) rfl rfl))
 refine (AK.sR (S:=dA w.2 (AB nm l) pv aS aD aN aR po nf (nf+l.length)) (I:=fun L=>L=P) hk2 ?_ ?_) P rfl
 ·rintro P' rfl
  exact ⟨_,(vy _ (pm.trans (vy _ Bi))),_,.refl _,rfl⟩
 ·rintro e' L ⟨A1,P',hP,rfl,rfl⟩
  exact ⟨fun y=>0,[(aN,A6 (A7 w.2 (Ar nm A G.ord) G.ord.length)),(aR,A0 (.seq ⟨AB nm r.2.1⟩ r.2.2))]++P',⟨A,M,vy _ (hP.trans (Bi (G:={ G with np:=r.1 })).symm)⟩,rfl,.refl _⟩
theorem dG{St:zc}(aS aD aN aR:Nat)(R0:Lp)(po nf:Int){c:Nat}(ho:c∈G.ord)(qY:∀ c,(G.sc c).length < 20)(q:zl)(e:Nat)(hq:q.length < 20){r:(Nat→Int)×zl×Nat}(hr:Ea G.sc [c] G.np q e=some r) :
  (dH w.2 (nm c) aS aD aN aR po nf (nf+1)).PO w b b2 7 St (RG w.2 nm aN aR R0 G q e) (RG w.2 nm aN aR R0 { G with np:=r.1 } r.2.1 r.2.2):=by
 intro P hQ
 obtain ⟨A,M,pm⟩:=hQ
 have hk:=fun fr it tu=>Pz (w:=w) (b:=b) (b2:=b2) inj A (M++R0) no qO aS tu aN aR aD fr po [c] it (fun x m=>by cases m with | head=>exact ho | tail _ m=>cases m) qY (show 1 < 20 by decide) G.np q e nf hq hr
 have hk2:=Spec.pP.k (ZF (St:=St) w b b2 aS aD aN aR (nm c) po nf (nf+1) _ _ _ _ _ _ rfl (fun fr it tu=>Spec.pP.z _ (hk fr it tu) rfl rfl))
 refine (AK.sR (S:=dH w.2 (nm c) aS aD aN aR po nf (nf+1)) (I:=fun L=>L=P) hk2 ?_ ?_) P rfl
 ·rintro P' rfl
  exact ⟨_,(vy _ (pm.trans (vy _ Bi))),_,.refl _,rfl⟩
 ·rintro e' L ⟨A1,P',hP,rfl,rfl⟩
  exact ⟨fun y=>0,[(aN,A6 (A7 w.2 (Ar nm A G.ord) G.ord.length)),(aR,A0 (.seq ⟨AB nm r.2.1⟩ r.2.2))]++P',⟨A,M,vy _ (hP.trans (Bi (G:={ G with np:=r.1 })).symm)⟩,rfl,.refl _⟩
end
end
section
variable{w:zt}{Sh:Pos→ze→Prop}{C:Code}{Pre q8:zd}{pQ ph:End→Lp→Prop}
theorem DZ.drop(h:DZ w Sh C Pre pQ)(k:∀ e L,pQ e L→∃ L' M,L.Perm (L'++M)∧ph e L'):DZ w Sh C Pre ph:=by
 intro c s pc pN L hp hc H hs
 obtain ⟨e,s',L1,qF,pos',go,po,H',F⟩:=h c s pc pN L hp hc H hs
 obtain ⟨L2,M,p,qN⟩:=k _ L1 po
 exact ⟨e,s',L2,qF,pos',go,qN,(H'.perm p).left,F.life,F.gens,F.drawn,F.os,F.old,fun q m=>F.new q (p.mem_iff.mpr (vq _ m))⟩
inductive Wg {Z:Type} (F:Z→Spec) (O:Z→(Nat→Nat)→Lp→Prop) (P:Lp) (e:End) (L:Lp):Prop
 | mk (z:Z) (A:zo) (P' M:Lp) (o:O z A P') (sub:∀ a∈P.map (·.1),a∈P'.map (·.1)) (he:e=(F z).fin A) (p:L.Perm (((F z).pV A++P')++M)):Wg F O P e L
theorem AK.tn{Z:Type}{F:Z→Spec}{O:Z→(Nat→Nat)→Lp→Prop}{S:Spec}{I:zd}(h:∀ P,I P→AK w Sh S.C (fun L=>L=S.pq++P) (Wg F O P)):Spec.pW F O S w Sh I:=
 fun P hI=>(h P hI _ rfl).drop fun e L ⟨⟨z,A,P',M,o,sub,he,p⟩,_⟩=>⟨_,M,p,z,A,P',o,sub,he,rfl⟩
end
noncomputable def qT(sc:Nat→zl):List (Nat×Nat)→Nat×Option Nat
 | []=>(0,none)
 | (c,i)::s=>match (sc c)[i]? with
  | some y=>(0,some y)
  | none=>((qT sc s).1+1,(qT sc s).2)
theorem M0(sc:Nat→zl)(c i:Nat)(s:List (Nat×Nat)):qT sc ((c,i)::s)=(match (sc c)[i]? with
  | some y=>(0,some y)
  | none=>((qT sc s).1+1,(qT sc s).2)):=rfl
noncomputable def E5:List (Nat×Nat)→List (Nat×Nat)
 | []=>[]
 | (c,i)::s=>(c,i+1)::s
structure It where
 c:Nat
 i:Nat
 aM:Nat
 pb:Nat
noncomputable def It.ci(x:It):Nat×Nat:=(x.c,x.i)
noncomputable def BF:List It→List It
 | []=>[]
 | x::t=>{ x with i:=x.i+1 }::t
theorem Ji(t:List It):(BF t).map It.ci=E5 (t.map It.ci):=by cases t<;>rfl
theorem VT(t:List It):(BF t).map (·.c)=t.map (·.c):=by cases t<;>rfl
theorem VS(t:List It):(BF t).map (fun x=>Value.ref x.aM)=t.map (fun x=>Value.ref x.aM):=by cases t<;>rfl
def Ub(A:GA)(x:It):Lp:=[(x.aM,Gz x.pb),(x.pb,AV (A.aL x.c) x.i)]
def cn(x:It):Lp:=[(x.aM,Gz x.pb),(x.pb,Bn x.i)]
noncomputable def Ky(nm:zm):zl→List (Str×zq)
 | []=>[]
 | c::s=>Ky nm s++[(nm c,.int s.length 0)]
theorem Ij(nm:zm):∀ l,(Ky nm l).length=l.length
 | []=>rfl
 | c::s=>by show (Ky nm s++_).length=_; rw [vn,Ij nm s]; rfl
theorem Lq{N M:List (Str×zq)}{x:Str}:A' (N++M) x=(A' N x).or (A' M x):=by
 unfold A'
 rw [List.find?_append]
 cases N.find? fun q=>q.1==x<;>rfl
theorem Ee{nm:zm}(inj:∀ a b,nm a=nm b→a=b){X:Nat}:∀ {l:zl},X∉l→A' (Ky nm l) (nm X)=none
 | [],_=>rfl
 | c::s,h=>by
  show A' (Ky nm s++_) _=_
  rw [Lq,Ee inj (fun m=>h (.tail _ m))]
  have:nm c≠nm X:=fun e=>h (by rw [inj _ _ e]; exact .head _)
  unfold A'; rw [yt (by simpa using this)]; rfl
section
variable{w:zt}{b b2:Bool}{nm:zm}{G:GS}(A:GA)(R:Lp){Ev:zi}(hE:AW Ev R)(aS aN aE fr aT aU aB:Nat)
def WK(P:zp)(nm:zm)(G:GS)(A:GA)(R:Lp)(aS aN aE fr aT aU aB:Nat)(X:Nat)(t:List It)(eT eU eB:Nat)(E:Lp):Lp:=
 [(fr,H5 P aS aN aT aU aE aB (nm X)),(aT,A0 (.seq ⟨AB nm (t.map (·.c)).reverse⟩ eT)),(aU,A0 (.seq ⟨(t.map (fun x=>Value.ref x.aM)).reverse⟩ eU)),(aB,A6 (A7 P (Ky nm (t.map (·.c))) eB))]++(E++(t.flatMap (Ub A)++(Im nm G A++R)))
theorem bG{α:Type}(f T U B m i l:α)(E S s' R:List α){s:List α}(h:s.Perm (l::s')):([f,T,U,B]++(E++(([m,i]++S)++(s++R)))).Perm ([f,T,U,m,i,l]++(B::(E++(S++(s'++R))))):=
 FQ [[f],[T],[U],[B],E,[m],[i],S,s,R,[l],s'] (.a (.q [0,1,2,3]) (.r [4] (.a (.a (.q [5,6]) (.l 7)) (.r [8] (.l 9))))) (.a (.q [0,1,2,5,6,10]) (.r [3,4,7,11] (.l 9))) (.l 8) (.r [10] (.l 11)) h rfl
theorem ie{α:Type}(f T U B m i l:α)(E S s' R:List α){s:List α}(h:s.Perm (l::s')):([f,T,U,B]++(E++(([m,i]++S)++(s++R)))).Perm ([f,T,U,m,i,l,B]++(E++(S++(s'++R)))):=
 FQ [[f],[T],[U],[B],E,[m],[i],S,s,R,[l],s'] (.a (.q [0,1,2,3]) (.r [4] (.a (.a (.q [5,6]) (.l 7)) (.r [8] (.l 9))))) (.a (.q [0,1,2,5,6,10,3]) (.r [4,7,11] (.l 9))) (.l 8) (.r [10] (.l 11)) h rfl
theorem bF{α:Type}(f T U B m i l:α)(E S s' R:List α){s:List α}(h:s.Perm (l::s')):([f,T,U,m,i,l,B]++(E++(S++(s'++R)))).Perm ([f,T,U,B]++((E++[m,i])++(S++(s++R)))):=
 FQ [[f],[T],[U],[m],[i],[l],[B],E,S,s',R,s] (.a (.q [0,1,2,3,4,5,6]) (.r [7,8,9] (.l 10))) (.a (.q [0,1,2,6]) (.a (.a (.l 7) (.q [3,4])) (.r [8,11] (.l 10)))) (.r [5] (.l 9)) (.l 11) h.symm rfl
variable(X:Nat)
theorem l6{St:zc}{x:It}{t:List It}{y:Nat}(hx:x.c∈G.ord)(hy:(G.sc x.c)[x.i]?=some y)(hl:t.length < 1000)(eT eU eB:Nat)(E:Lp) :
  AO w b b2 11 St (ND w.2 fr) (fun L=>L.Perm (WK w.2 nm G A R aS aN aE fr aT aU aB X (x::t) eT eU eB E))
   (fun e L=>e=.fin (.done .next)∧L.Perm (WK w.2 nm G A R aS aN aE fr aT aU aB y (BF (x::t)) eT eU eB E)):=by
 have hp:=BC (fun c=>(A.aL c,A0 (Cr nm G c))) hx
 have hls:((G.sc x.c).map fun d=>Value.str (nm d) 0)[x.i]?=some (.str (nm y) 0):=by rw [wI,hy]; rfl
 refine Spec.pP.kp (Uj w b b2 fr aT aU x.aM x.pb (A.aL x.c) aS aN aE aB (nm X) (nm y) t.length x.i (.seq ⟨AB nm ((x::t).map (·.c)).reverse⟩ eT) (.seq ⟨((x::t).map (fun x=>Value.ref x.aM)).reverse⟩ eU) (Cr nm G x.c) (Cr nm G x.c) _ (t.map (fun x=>Value.ref x.aM)).reverse _ eT eU _ rfl (by simp [AB]) (by lia) (by rw [vu,x6]) (by simp; lia) rfl hls rfl (fun L=>L=(aB,A6 (A7 w.2 (Ky nm ((x::t).map (·.c))) eB))::(E++(t.flatMap (Ub A)++(cO nm G A x.c++R))))) (fun q p=>p.trans (bG _ _ _ _ _ _ _ _ _ _ _ hp)) fun A1=>⟨_,.refl _,rfl,?_⟩
 unfold WK
 rw [VT,VS]
 exact (bG _ _ _ _ _ _ _ _ _ _ _ hp).symm
include hE in
theorem l5{x:It}{t:List It}(inj:∀ a b,nm a=nm b→a=b)(hx:x.c∈G.ord)(hy:(G.sc x.c)[x.i]?=none)(hl:t.length < 1000)(hn:x.c∉t.map (·.c))(eT eU eB:Nat)(E:Lp) :
  AO w b b2 11 (B4 (Aj w.2 fr) Ev zw) (ND w.2 fr) (fun L=>L.Perm (WK w.2 nm G A R aS aN aE fr aT aU aB X (x::t) eT eU eB E))
   (fun e L=>e=.fin (.again (ND w.2 fr))∧L.Perm (WK w.2 nm G A R aS aN aE fr aT aU aB X t (eT+1) (eU+1) (eB+1) (E++cn x))):=by
 have hp:=BC (fun c=>(A.aL c,A0 (Cr nm G c))) hx
 have hi:((G.sc x.c).map fun d=>Value.str (nm d) 0).length≤x.i:=by rw [vh]; exact List.getElem?_eq_none_iff.mp hy
 exact Spec.pP.kp (Ui w b b2 fr aT aU x.aM x.pb (A.aL x.c) aB aS aN aE (nm X) (nm x.c) t.length x.i (.seq ⟨AB nm ((x::t).map (·.c)).reverse⟩ eT) (.seq ⟨((x::t).map (fun x=>Value.ref x.aM)).reverse⟩ eU) (Cr nm G x.c) (Cr nm G x.c) (A7 w.2 (Ky nm ((x::t).map (·.c))) eB) (.seq ⟨AB nm (t.map (·.c)).reverse⟩ (eT+1)) (.seq ⟨(t.map (fun x=>Value.ref x.aM)).reverse⟩ (eU+1)) (A7 w.2 (Ky nm (t.map (·.c))) (eB+1)) (AB nm (t.map (·.c)).reverse) (t.map (fun x=>Value.ref x.aM)).reverse _ eT eU _ eB (Ky nm (t.map (·.c))) (.int (t.map (·.c)).length 0) (by rw [vu,x6]; unfold AB; rw [vl]; rfl) rfl (by simp [AB]) hl (by rw [vu,x6]) rfl (by simp; lia) rfl hi rfl (by rw [vu]; rfl) (Ee inj hn) rfl (by rw [Ij]; simp; lia) (hE.mono fun q m=>vt E (vt (t.flatMap (Ub A)) (vt (cO nm G A x.c) m)))) (fun z p=>p.trans (ie _ _ _ _ _ _ _ _ _ _ _ hp)) fun A1=>⟨_,.refl _,rfl,bF _ _ _ _ _ _ _ _ _ _ _ hp⟩
def lK(o:Option Nat):Flow:=cq o.isSome
include hE in
theorem M1(inj:∀ a b,nm a=nm b→a=b):∀ (t:List It) (eT eU eB:Nat) (E:Lp),(∀ x∈t,x.c∈G.ord)→(t.map (·.c)).Nodup→t.length < 1000→
  AO w b b2 11 (B4 (Aj w.2 fr) Ev zw) (ND w.2 fr) (fun L=>L.Perm (WK w.2 nm G A R aS aN aE fr aT aU aB X t eT eU eB E))
   (fun e L=>e=.fin (.done (lK (qT G.sc (t.map It.ci)).2))∧L.Perm (WK w.2 nm G A R aS aN aE fr aT aU aB ((qT G.sc (t.map It.ci)).2.getD X) (BF (t.drop (qT G.sc (t.map It.ci)).1)) (eT+(qT G.sc (t.map It.ci)).1) (eU+(qT G.sc (t.map It.ci)).1) (eB+(qT G.sc (t.map It.ci)).1) (E++(t.take (qT G.sc (t.map It.ci)).1).flatMap cn))):=by
 intro t
 induction t with
 | nil=>
  intro eT eU eB E _ _ _
  have e:(qT G.sc (([]:List It).map It.ci))=(0,none):=rfl
  rw [e]
  refine Spec.pP.kp (Uh w b b2 fr aT aS aN aE aB aU (nm X) _ eT rfl (fun L=>L=[(aU,A0 (.seq ⟨[]⟩ eU)),(aB,A6 (A7 w.2 [] eB))]++(E++([]++(Im nm G A++R))))) (fun q p=>p) fun A1=>⟨_,.refl _,rfl,.of_eq ?_⟩
  unfold WK
  simp [BF,Spec.pV,fS]
  exact ⟨rfl,rfl⟩
 | cons x t ih=>
  intro eT eU eB E hc nd hl
  obtain ⟨nx,nd'⟩:=wZ.mp (show (x.c::t.map (·.c)).Nodup from nd)
  cases hy:(G.sc x.c)[x.i]? with
  | some y=>
   have e:qT G.sc ((x::t).map It.ci)=(0,some y):=by
    show qT G.sc ((x.c,x.i)::t.map It.ci)=_
    rw [M0,hy]
   rw [e]
   refine (l6 A R aS aN aE fr aT aU aB X (hc x (.head _)) hy (by simp at hl; lia) eT eU eB E).pU (fun L h=>⟨L,.refl _,h⟩) fun e L ⟨h1,h2⟩=>⟨L,.refl _,h1,?_⟩
   simpa using h2
  | none=>
   have e:qT G.sc ((x::t).map It.ci)=((qT G.sc (t.map It.ci)).1+1,(qT G.sc (t.map It.ci)).2):=by
    show qT G.sc ((x.c,x.i)::t.map It.ci)=_
    rw [M0,hy]
   rw [e]
   refine AK.go (fun q q q h=>h) (by kernel_rfl) (l5 (w:=w) (b:=b) (b2:=b2) A R hE aS aN aE fr aT aU aB X inj (hc x (.head _)) hy (by simp at hl; lia) nx eT eU eB E) ((ih (eT+1) (eU+1) (eB+1) (E++cn x) (fun x m=>hc x (.tail _ m)) nd' (by simp at hl; lia)).pU (fun L h=>⟨L,.refl _,h⟩) fun e L ⟨h1,h2⟩=>⟨L,.refl _,h1,?_⟩)
   rw [List.drop_succ_cons,List.take_succ_cons,wO,← vj,yH _ 1,← xe,← xe,← xe]
   exact h2
end
section
def MZ(sc:Nat→zl)(k:List (Nat×Nat)→zl→Nat→Option (zl×Nat))(s:List (Nat×Nat))(S:zl)(X:Nat):Option (zl×Nat):=match qT sc s with
 | (p,some y)=>k (E5 (s.drop p)) S y
 | (p,none)=>some (S,X)
def out(sc:Nat→zl):Nat→List (Nat×Nat)→zl→Nat→Option (zl×Nat)
 | 0,_,_,_=>none
 | n+1,s,S,X=>
  if X∈S then
   if X∈s.map (·.1) then none
   else MZ sc (out sc n) s S X
  else MZ sc (out sc n) ((X,0)::s) (X::S) X
inductive QL (sc:Nat→zl) (n:Nat) (s:List (Nat×Nat)) (S:zl) (X:Nat) (res:zl×Nat):Prop
 | y (p:Nat) (y:Nat) (ho:qT sc s=(p,some y)) (h:out sc n (E5 (s.drop p)) S y=some res):QL sc n s S X res
 | n (p:Nat) (ho:qT sc s=(p,none)) (h:res=(S,X)):QL sc n s S X res
theorem O5{sc:Nat→zl}{n:Nat}{s:List (Nat×Nat)}{S:zl}{X:Nat}{res:zl×Nat}(h:MZ sc (out sc n) s S X=some res):QL sc n s S X res:=by
 unfold MZ at h
 rcases e:qT sc s with ⟨p,_ | y⟩<;>rw [e] at h
 ·exact .n p e (x8 h).symm
 ·exact .y p y e h
inductive ZS (sc:Nat→zl) (n:Nat) (s:List (Nat×Nat)) (S:zl) (X:Nat) (res:zl×Nat):Prop
 | old (hX:X∈S) (hn:X∉s.map (·.1)) (h:QL sc n s S X res):ZS sc n s S X res
 | new (hX:X∉S) (h:QL sc n ((X,0)::s) (X::S) X res):ZS sc n s S X res
theorem Vy{sc:Nat→zl}{n:Nat}{s:List (Nat×Nat)}{S:zl}{X:Nat}{res:zl×Nat}(h:out sc (n+1) s S X=some res):ZS sc n s S X res:=by
 have h:(if X∈S then if X∈s.map (·.1) then none else MZ sc (out sc n) s S X else MZ sc (out sc n) ((X,0)::s) (X::S) X)=some res:=h
 by_cases hX:X∈S
 ·rw [wD hX] at h
  by_cases hn:X∈s.map (·.1)
  ·rw [wD hn] at h; cases h
  ·rw [w2 hn] at h; exact .old hX hn (O5 h)
 ·rw [w2 hX] at h; exact .new hX (O5 h)
def Vj(nm:zm)(t:List It)(e:Nat):zu:=.seq ⟨AB nm (t.map (·.c)).reverse⟩ e
noncomputable def QP(t:List It)(e:Nat):zu:=.seq ⟨(t.map (fun x=>Value.ref x.aM)).reverse⟩ e
def Vl(P:zp)(nm:zm)(t:List It)(e:Nat):zu:=A7 P (Ky nm (t.map (·.c))) e
def o7(P:zp)(nm:zm)(G:GS)(A:GA)(aS aN aE fr aT aU aB:Nat)(X:Nat)(t:List It)(eT eU eB:Nat)(DE:zu)(R:Lp):Lp:=
 [(fr,H5 P aS aN aT aU aE aB (nm X)),(aT,A0 (Vj nm t eT)),(aU,A0 (QP t eU)),(aE,Bt DE),(aB,A6 (Vl P nm t eB)),(aN,A6 (A7 P (Ar nm A G.ord) G.ord.length))]++(t.flatMap (Ub A)++(PS nm G A++(Im nm G A++R)))
theorem iY{α:Type}{L Q S l:List α}(f T U B:α)(h:L.Perm (S++(l++Q))):([f,T,U,B]++L).Perm ([f,T,U,B]++([]++(S++(l++Q)))):=h.append_left _
theorem iX{α:Type}(f T U B:α)(E S l Q:List α):([f,T,U,B]++(([]++E)++(S++(l++Q)))).Perm ([f,T,U,B]++(S++(l++(E++Q)))):=
 Dm [[f],[T],[U],[B],E,S,l,Q] (.a (.q [0,1,2,3]) (.a (.a (.n) (.l 4)) (.r [5,6] (.l 7)))) (.a (.q [0,1,2,3]) (.r [5,6,4] (.l 7))) rfl
theorem ik{α:Type}{L S l' Q l:List α}(f T U B m i k:α)(h:L.Perm (S++(l'++Q)))(hl:l.Perm (k::l')):([f,T,U,B,m,i,k]++L).Perm ([f,T,U,B]++([]++(([m,i]++S)++(l++Q)))):=
 FQ [[f],[T],[U],[B],[m],[i],[k],L,S,l,Q,l'] (.a (.q [0,1,2,3,4,5,6]) (.l 7)) (.a (.q [0,1,2,3]) (.a (.n) (.a (.a (.q [4,5]) (.l 8)) (.r [9] (.l 10))))) (.r [7,6] (.l 11)) (.a (.r [8,11] (.l 10)) (.l 9)) (h.append hl.symm) rfl
theorem ij{α:Type}{l' S l:List α}(Q:List α)(f T U B m i k:α)(hl:l.Perm (k::l')):([f,T,U,B]++(([]++[])++(([m,i]++S)++(l++Q)))).Perm ([f,T,U,B,m,i,k]++(S++(l'++Q))):=
 FQ [[f],[T],[U],[B],[m],[i],S,l,Q,[k],l'] (.a (.q [0,1,2,3]) (.a (.a (.n) (.n)) (.a (.a (.q [4,5]) (.l 6)) (.r [7] (.l 8))))) (.a (.q [0,1,2,3,4,5,9]) (.r [6,10] (.l 8))) (.l 7) (.r [9] (.l 10)) hl rfl
theorem ig{α:Type}{l' S l:List α}(E Q:List α)(f T U B m i k:α)(hl:l.Perm (k::l')):([f,T,U,B]++(([]++([m,i]++E))++(S++(l++Q)))).Perm ([f,T,U,B,m,i,k]++((E++S)++(l'++Q))):=
 FQ [[f],[T],[U],[B],[m],[i],E,S,l,Q,[k],l'] (.a (.q [0,1,2,3]) (.a (.a (.n) (.a (.q [4,5]) (.l 6))) (.r [7,8] (.l 9)))) (.a (.q [0,1,2,3,4,5,10]) (.a (.r [6] (.l 7)) (.r [11] (.l 9)))) (.l 8) (.r [10] (.l 11)) hl rfl
def gr(A:GA)(t:List It):Nat→Lp
 | 0=>t.flatMap (Ub A)
 | p+1=>(t.take p).flatMap cn++(BF (t.drop p)).flatMap (Ub A)
def rD(a:Nat):Nat→zu
 | 0=>(AV a ((0+1:Nat):Int)).data
 | _+1=>(Bn ((0:Nat):Int)).data
section
variable{w:zt}{b b2:Bool}{nm:zm}{G:GS}(inj:∀ a b,nm a=nm b→a=b)(A:GA){Ev:zi}(aS aN aE fr aT aU aB:Nat)
include inj
theorem lA(Q:Lp)(hE:AW Ev Q)(X:Nat)(t:List It)(eT eU eB:Nat)(hc:∀ x∈t,x.c∈G.ord)(nd:(t.map (·.c)).Nodup)(hl:t.length < 1000){p:Nat}{o:Option Nat}(e:qT G.sc (t.map It.ci)=(p,o)) :
  (Ug w.2 (lK o) aS aN aE fr aT aU aB (nm X) (nm (o.getD X)) (Vj nm t eT) (QP t eU) (Vl w.2 nm t eB) (Vj nm (BF (t.drop p)) (eT+p)) (QP (BF (t.drop p)) (eU+p)) (Vl w.2 nm (BF (t.drop p)) (eB+p))).pP (wf w b b2) (Al ⟨11,B4 (Aj w.2 fr) Ev zw⟩)
   (fun L=>L.Perm (t.flatMap (Ub A)++(Im nm G A++Q))) (fun L=>L.Perm ((BF (t.drop p)).flatMap (Ub A)++(Im nm G A++((t.take p).flatMap cn++Q)))):=by
 have h:=M1 (w:=w) (b:=b) (b2:=b2) A Q hE aS aN aE fr aT aU aB X inj t eT eU eB [] hc nd hl
 rw [e] at h
 refine AK.sR h ?_ ?_
 ·intro L p
  exact ⟨_,iY _ _ _ _ p,.refl _⟩
 ·rintro e L ⟨rfl,p⟩
  exact ⟨fun q=>0,_,.refl _,rfl,p.trans (iX _ _ _ _ _ _ _ _)⟩
theorem l9(Q:Lp)(hE:AW Ev Q)(X:Nat)(t:List It)(eT eU eB:Nat)(hX:X∈G.ord)(hc:∀ x∈t,x.c∈G.ord)(nd:(X::t.map (·.c)).Nodup)(hl:t.length+1 < 1000){p:Nat}{o:Option Nat}(e:qT G.sc ((X,0)::t.map It.ci)=(p,o))(aM pb:Nat) :
  (Ue w.2 (lK o) aS aN aE fr aT aU aB aM pb (A.aL X) (nm X) (nm (o.getD X)) (.seq ⟨AB nm (t.map (·.c)).reverse++[.str (nm X) 0]⟩ eT) (.seq ⟨(t.map (fun x=>Value.ref x.aM)).reverse++[.ref aM]⟩ eU) (A7 w.2 (Ky nm (t.map (·.c))++[(nm X,.int (t.length:Nat) 0)]) eB) (Vj nm (BF ((⟨X,0,0,0⟩::t).drop p)) (eT+p)) (QP (BF ((⟨X,0,aM,0⟩::t).drop p)) (eU+p)) (Vl w.2 nm (BF ((⟨X,0,0,0⟩::t).drop p)) (eB+p)) (rD (A.aL X) p) (Cr nm G X)).pP (wf w b b2) (Al ⟨11,B4 (Aj w.2 fr) Ev zw⟩)
   (fun L=>L.Perm (t.flatMap (Ub A)++(cO nm G A X++Q))) (fun L=>L.Perm (gr A t p++(cO nm G A X++Q))):=by
 have e1:Vj nm (⟨X,0,aM,pb⟩::t) eT=.seq ⟨AB nm (t.map (·.c)).reverse++[.str (nm X) 0]⟩ eT:=by
  unfold Vj AB; rw [vu,x6,vl]; rfl
 have e2:QP (⟨X,0,aM,pb⟩::t) eU=.seq ⟨(t.map (fun x=>Value.ref x.aM)).reverse++[.ref aM]⟩ eU:=by
  unfold QP; rw [vu,x6]
 have e3:Vl w.2 nm (⟨X,0,aM,pb⟩::t) eB=A7 w.2 (Ky nm (t.map (·.c))++[(nm X,.int (t.length:Nat) 0)]) eB:=by
  unfold Vl; rw [vu]; show A7 _ (Ky nm (t.map (·.c))++[(nm X,.int ((t.map (·.c)).length:Nat) 0)]) _=_; rw [vh]
 rw [← e1,← e2,← e3]
 clear e1 e2 e3
 have h:=M1 (w:=w) (b:=b) (b2:=b2) A Q hE aS aN aE fr aT aU aB X inj (⟨X,0,aM,pb⟩::t) eT eU eB [] (fun x m=>by cases m with | head=>exact hX | tail _ m=>exact hc x m) nd (by simpa using hl)
 rw [show (⟨X,0,aM,pb⟩::t:List It).map It.ci=(X,0)::t.map It.ci from rfl,e] at h
 have hp:=BC (fun c=>(A.aL c,A0 (Cr nm G c))) hX
 refine AK.sR h (fun L p=>⟨_,ik _ _ _ _ _ _ _ p hp,.refl _⟩) fun e L ⟨e1,q⟩=>?_
 cases p with
 | zero=>exact ⟨fun z=>0,_,.refl _,e1,q.trans (ij _ _ _ _ _ _ _ _ hp)⟩
 | succ p=>exact ⟨fun z=>0,_,.refl _,e1,q.trans (ig _ _ _ _ _ _ _ _ _ hp)⟩
end
def d8(P:zp)(fr:Nat)(o:Option Nat):End:=Z4 P fr o.isSome
inductive WS (w':zt) (nm:zm) (G:GS) (A:GA) (R0:Lp) (aS aN aE fr aT aU aB:Nat) (X:Nat) (s:List (Nat×Nat)) (S:zl) (L:Lp):Prop
 | mk (t:List It) (DE:zu) (M:Lp) (eT eU eB:Nat) (h0:t.map It.ci=s) (h1:C5 w' (S.map nm) DE) (h2:L.Perm (o7 w'.params nm G A aS aN aE fr aT aU aB X t eT eU eB DE (M++R0))):WS w' nm G A R0 aS aN aE fr aT aU aB X s S L
theorem iW{α:Type}(f T U E B N:α)(S I l R:List α):([f,T,U,E,B,N]++(S++(I++(l++R)))).Perm ([f,T,U,E,B]++(S++(l++(N::(I++R))))):=
 Dm [[f],[T],[U],[E],[B],[N],S,I,l,R] (.a (.q [0,1,2,3,4,5]) (.r [6,7,8] (.l 9))) (.a (.q [0,1,2,3,4]) (.r [6,8,5,7] (.l 9))) rfl
theorem iV{α:Type}{L:List α}(f T U E B N:α)(S I l M R e:List α)(h:L.Perm (S++(l++(e++(N::(I++(M++R))))))):([f,T,U,E,B]++L).Perm ([f,T,U,E,B,N]++(S++(I++(l++((e++M)++R))))):=
 FQ [[f],[T],[U],[E],[B],L,[N],S,I,l,e,M,R] (.a (.q [0,1,2,3,4]) (.l 5)) (.a (.q [0,1,2,3,4,6]) (.r [7,8,9] (.a (.r [10] (.l 11)) (.l 12)))) (.l 5) (.r [7,9,10,6,8,11] (.l 12)) h rfl
theorem iU{α:Type}(f T U E B N i l:α)(S R I' l':List α){I L:List α}(hI:I.Perm (i::I'))(hl:L.Perm (l::l')):([f,T,U,E,B,N]++(S++(I++(L++R)))).Perm ([f,T,U,E,B,N,i,l]++(S++(l'++(I'++R)))):=
 FQ [[f],[T],[U],[E],[B],[N],S,I,L,R,[i],[l],l',I'] (.a (.q [0,1,2,3,4,5]) (.r [6,7,8] (.l 9))) (.a (.q [0,1,2,3,4,5,10,11]) (.r [6,12,13] (.l 9))) (.r [7] (.l 8)) (.a (.r [10] (.l 13)) (.r [11] (.l 12))) (hI.append hl) rfl
theorem iT{α:Type}{P':List α}(f T U E B N i l m n:α)(S R I' l':List α){I L:List α}(hI:I.Perm (i::I'))(hl:L.Perm (l::l'))(hP:P'.Perm (S++(l'++(I'++R)))):([f,T,U,E,B,N,i,l]++P'++[m,n]).Perm ([f,T,U,E,B,N]++(([m,n]++S)++(I++(L++R)))):=
 FQ [[f],[T],[U],[E],[B],[N],[i],[l],P',[m],[n],S,I,L,R,I',l'] (.a (.a (.q [0,1,2,3,4,5,6,7]) (.l 8)) (.q [9,10])) (.a (.q [0,1,2,3,4,5]) (.a (.a (.q [9,10]) (.l 11)) (.r [12,13] (.l 14)))) (.a (.a (.r [6] (.l 15)) (.r [7] (.l 16))) (.l 8)) (.a (.r [12] (.l 13)) (.r [11,16,15] (.l 14))) ((hI.symm.append hl.symm).append hP) rfl
theorem iS{α:Type}{P':List α}(f T U E B N i l m n:α)(S M R I' l' e:List α){I L:List α}(hI:I.Perm (i::I'))(hl:L.Perm (l::l'))(hP:P'.Perm ((e++S)++(l'++(I'++(M++R))))):([f,T,U,E,B,N,i,l]++P'++[m,n]).Perm ([f,T,U,E,B,N]++(S++(I++(L++(([m,n]++(e++M))++R))))):=
 FQ [[f],[T],[U],[E],[B],[N],[i],[l],P',[m],[n],S,I,L,e,M,R,I',l'] (.a (.a (.q [0,1,2,3,4,5,6,7]) (.l 8)) (.q [9,10])) (.a (.q [0,1,2,3,4,5]) (.r [11,12,13] (.a (.a (.q [9,10]) (.r [14] (.l 15))) (.l 16)))) (.a (.a (.r [6] (.l 17)) (.r [7] (.l 18))) (.l 8)) (.a (.r [12] (.l 13)) (.a (.r [14] (.l 11)) (.r [18,17,15] (.l 16)))) ((hI.symm.append hl.symm).append hP) rfl
theorem IK{nm:zm}(inj:∀ a b,nm a=nm b→a=b){X:Nat}{S:zl}:nm X∈S.map nm↔X∈S:=
 ⟨fun h=>let ⟨y,hy,e⟩:=wC.mp h; inj _ _ e ▸ hy,fun h=>vo h⟩
theorem Z2{α:Type}{P:α→Prop}{a:α}(h:P a):∀ x,x=a→P x:=fun q e=>e ▸ h
theorem QB(s:List (Nat×Nat)):(E5 s).map (·.1)=s.map (·.1):=by cases s<;>rfl
theorem Jh(s:List (Nat×Nat)):(E5 s).length=s.length:=by cases s<;>rfl
theorem Ga{sc:Nat→zl}:∀ {s:List (Nat×Nat)},(qT sc s).2=none→s.drop (qT sc s).1=[]
 | [],_=>rfl
 | (c,i)::s,h=>by
  rw [M0] at h ⊢
  cases hy:(sc c)[i]? with
  | some y=>rw [hy] at h; cases h
  | none=>rw [hy] at h; exact Ga (s:=s) h
theorem GZ{sc:Nat→zl}{y:Nat}:∀ {s:List (Nat×Nat)},(qT sc s).2=some y→∃ c∈s.map (·.1),y∈sc c
 | [],h=>by cases h
 | (c,i)::s,h=>by
  rw [M0] at h
  cases hy:(sc c)[i]? with
  | some z=>
   rw [hy] at h
   cases h
   exact ⟨c,.head _,wW hy⟩
  | none=>
   rw [hy] at h
   obtain ⟨d,m,e⟩:=GZ (s:=s) h
   exact ⟨d,.tail _ m,e⟩
structure Kw(G:GS)(n:Nat)(s:List (Nat×Nat))(S:zl)(X:Nat):Prop where
 ord:∀ c∈s.map (·.1),c∈G.ord
 nd:(s.map (·.1)).Nodup
 sub:∀ c∈s.map (·.1),c∈S
 ls:s.length+n < 999
 lS:S.length+n < 999
 hX:X∈G.ord
theorem Kw.B{G:GS}{n:Nat}{s:List (Nat×Nat)}{S:zl}{X Y:Nat}(h:Kw G (n+1) s S X)(p:Nat)(hY:Y∈G.ord):Kw G n (E5 (s.drop p)) S Y:=by
 have e:(E5 (s.drop p)).map (·.1)=(s.map (·.1)).drop p:=by rw [QB,xh]
 have hs:∀ c∈(E5 (s.drop p)).map (·.1),c∈s.map (·.1):=fun c m=>List.mem_of_mem_drop (e ▸ m)
 exact ⟨fun c m=>h.ord c (hs c m),by rw [e]; exact h.nd.sublist (List.drop_sublist _ _),fun c m=>h.sub c (hs c m),by rw [Jh,xc]; exact wb (xq (Nat.sub_le _ _) (y7 n)) h.ls,wb (y7 _) h.lS,hY⟩
theorem Kw.C{G:GS}{n:Nat}{s:List (Nat×Nat)}{S:zl}{X Y:Nat}(h:Kw G (n+1) s S X)(hn:X∉S)(p:Nat)(hY:Y∈G.ord):Kw G n (E5 (((X,0)::s).drop p)) (X::S) Y:=by
 have e:(E5 (((X,0)::s).drop p)).map (·.1)=(X::s.map (·.1)).drop p:=by rw [QB,xh]; rfl
 have hs:∀ c∈(E5 (((X,0)::s).drop p)).map (·.1),c∈X::s.map (·.1):=fun c m=>List.mem_of_mem_drop (e ▸ m)
 refine ⟨fun c m=>?_,?_,fun c m=>?_,by rw [Jh,xc]; exact wb (yB (Nat.sub_le _ _) n) (by rw [vr,xt]; exact h.ls),by rw [vr,xt]; exact h.lS,hY⟩
 ·cases hs c m with
  | head=>exact h.hX
  | tail _ m=>exact h.ord c m
 ·rw [e]; exact List.Nodup.sublist (List.drop_sublist _ _) (wZ.mpr ⟨fun m=>hn (h.sub _ m),h.nd⟩)
 ·cases hs c m with
  | head=>exact .head _
  | tail _ m=>exact .tail _ (h.sub c m)
section
variable{w:zt}{b b2:Bool}{nm:zm}{G:GS}(inj:∀ a b,nm a=nm b→a=b)(A:GA)(R0:Lp){Ev:zi}(hE:AW Ev R0)(aS aN aE fr aT aU aB:Nat)
include inj hE
theorem W0{X:Nat}{s:List (Nat×Nat)}{S:zl}(hX:X∈S)(hn:X∉s.map (·.1))(hc:∀ c∈s.map (·.1),c∈G.ord)(nd:(s.map (·.1)).Nodup)(hl:s.length < 1000)(hS:S.length < 1000){p:Nat}{o:Option Nat}(e:qT G.sc s=(p,o)) :
  AO w b b2 10 (B4 (Aj w.2 fr) Ev zw) (Ws w.2 fr) (WS (wf w b b2) nm G A R0 aS aN aE fr aT aU aB X s S)
   (fun e L=>e=d8 w.2 fr o∧WS (wf w b b2) nm G A R0 aS aN aE fr aT aU aB (o.getD X) (E5 (s.drop p)) S L):=by
 rintro L0 ⟨t,DE,M,eT,eU,eB,rfl,hD,pm⟩
 have ec:(t.map It.ci).map (·.1)=t.map (·.c):=by rw [wz]; rfl
 rw [ec] at hn hc nd
 rw [vh] at hl
 have hb:(BF (t.drop p)).map It.ci=E5 ((t.map It.ci).drop p):=by rw [Ji,xh]
 have rX:=lA (w:=w) (b:=b) (b2:=b2) inj A aS aN aE fr aT aU aB ((aN,A6 (A7 w.2 (Ar nm A G.ord) G.ord.length))::(PS nm G A++(M++R0))) (hE.mono fun q m=>.tail _ (vt _ (vt _ m))) X t eT eU eB (fun x m=>hc _ (vo m)) nd hl e
 have hM:=Ee inj hn
 exact Spec.pP.kq (q8:=fun L=>L=L0) (R1 w b b2 fr aT aU aE aB o.isSome aS aN (nm X) (nm (o.getD X)) _ _ DE _ _ _ _ _ _ (S.map nm) _ eB hD ((IK inj).mpr hX) (by simpa using hS) rfl hM rX) (fun L e=>⟨_,(e ▸ pm).trans (iW _ _ _ _ _ _ _ _ _ _),.refl _⟩) (fun A1 P' hP=>⟨_,iV _ _ _ _ _ _ _ _ _ _ _ _ hP,rfl,BF (t.drop p),DE,_,_,_,_,hb,hD,.refl _⟩) (hp:=rfl) (hc:=fun z=>rfl) L0 rfl
theorem Vz{X:Nat}{s:List (Nat×Nat)}{S:zl}(hX:X∉S)(sP:X∈G.ord)(hn:X∉s.map (·.1))(hc:∀ c∈s.map (·.1),c∈G.ord)(nd:(s.map (·.1)).Nodup)(hl:s.length+1 < 1000)(hS:S.length < 1000){p:Nat}{o:Option Nat}(e:qT G.sc ((X,0)::s)=(p,o)) :
  AO w b b2 10 (B4 (Aj w.2 fr) Ev zw) (Ws w.2 fr) (WS (wf w b b2) nm G A R0 aS aN aE fr aT aU aB X s S)
   (fun e L=>e=d8 w.2 fr o∧WS (wf w b b2) nm G A R0 aS aN aE fr aT aU aB (o.getD X) (E5 (((X,0)::s).drop p)) (X::S) L):=by
 rintro L0 ⟨t,DE,M,eT,eU,eB,rfl,hD,pm⟩
 have ec:(t.map It.ci).map (·.1)=t.map (·.c):=by rw [wz]; rfl
 rw [ec] at hn hc nd
 rw [vh] at hl
 have hM:=Ee inj hn
 have hpi:=BC (fun c=>(A.aI c,A9 (nm c) (G.np c) (A.aX c) (A.aL c))) sP
 have hpl:=BC (fun c=>(A.aL c,A0 (Cr nm G c))) sP
 have lk:A' (Ar nm A G.ord) (nm X)=some (.ref (A.aI X)):=by rw [CY inj,wD sP]
 have hb:∀ aM pb,(BF ((⟨X,0,aM,pb⟩::t).drop p)).map It.ci=E5 (((X,0)::t.map It.ci).drop p):=by
  intro aM pb; rw [Ji,xh]; rfl
 have hk:=Q' w b b2 fr aT aU aE aB aN (A.aI X) (A.aL X) o.isSome aS (A.aX X) (G.np X) (nm X) (nm (o.getD X)) (t.map (fun x=>Value.ref x.aM)).reverse t.length eU (fun aM=>QP (BF ((⟨X,0,aM,0⟩::t).drop p)) (eU+1+p)) (C5 (wf w b b2) (nm X::S.map nm)) (Vj nm t eT) _ (QP t eU) DE (Vl w.2 nm t eB) _ (A7 w.2 (Ar nm A G.ord) G.ord.length) _ _ (rD (A.aL X) p) (Cr nm G X) (Cr nm G X) _ _ (S.map nm) (Ky nm (t.map (·.c))) (Ar nm A G.ord) (AB nm (t.map (·.c)).reverse) eT eB G.ord.length hD (fun m=>hX ((IK inj).mp m)) (by simpa using hS) rfl rfl lk rfl (by simp; lia) rfl (by simp [AB]) (by lia) rfl rfl hM rfl (by rw [Ij]; simp; lia) rfl fun aM pb=>Z2 (l9 (w:=w) (b:=b) (b2:=b2) inj A aS aN aE fr aT aU aB ((G.ord.erase X).map (fun c=>(A.aI c,A9 (nm c) (G.np c) (A.aX c) (A.aL c)))++(M++R0)) (hE.mono fun q m=>vt _ (vt _ m)) X t (eT+1) (eU+1) (eB+1) sP (fun x m=>hc _ (vo m)) (wZ.mpr ⟨hn,nd⟩) hl e aM pb)
 refine Spec.pW.kq (Pre:=fun L=>L=L0) (Spec.px.d hk) (fun L e=>⟨_,(e ▸ pm).trans (iU _ _ _ _ _ _ _ _ _ _ _ _ hpi hpl),.refl _⟩) ?_ (hp:=rfl) (hF:=fun z=>rfl) (hc:=fun z z=>rfl) L0 rfl
 rintro ⟨z1,z2⟩ A1 P' ⟨⟨hz,ez⟩,hP⟩
 have ez:z2=QP (BF ((⟨X,0,A1 0,0⟩::t).drop p)) (eU+1+p):=ez
 subst ez
 cases p with
 | zero=>exact ⟨_,iT _ _ _ _ _ _ _ _ _ _ _ _ _ _ hpi hpl hP,rfl,BF (⟨X,0,A1 0,A1 1⟩::t),z1,M,eT+1,eU+1,eB+1,hb (A1 0) (A1 1),hz,.refl _⟩
 | succ p=>exact ⟨_,iS _ _ _ _ _ _ _ _ _ _ _ _ _ _ _ _ hpi hpl hP,rfl,BF (t.drop p),z1,_,_,_,_,hb (A1 0) (A1 1),hz,.refl _⟩
theorem O4(qO:∀ c∈G.ord,∀ d∈G.sc c,d∈G.ord):∀ (n:Nat) (s:List (Nat×Nat)) (S:zl) (X:Nat) (res:zl×Nat),out G.sc n s S X=some res→Kw G n s S X→
  AO w b b2 10 (B4 (Aj w.2 fr) Ev zw) (Ws w.2 fr) (WS (wf w b b2) nm G A R0 aS aN aE fr aT aU aB X s S)
   (fun e L=>e=.fin (.done .next)∧WS (wf w b b2) nm G A R0 aS aN aE fr aT aU aB res.2 [] res.1 L):=by
 intro n
 induction n with
 | zero=>intro s S X res h; cases h
 | succ n ih=>
  intro s S X res h iv
  have:=iv.ls; have:=iv.lS
  rcases Vy h with ⟨hX,hn,h⟩ | ⟨hX,h⟩
  ·rcases h with ⟨p,y,ho,h⟩ | ⟨p,ho,rfl⟩
   ·obtain ⟨c,mc,hy⟩:=GZ (vm Prod.snd ho)
    exact AK.go (fun q q q h=>h) (by kernel_rfl) (W0 (w:=w) (b:=b) (b2:=b2) inj A R0 hE aS aN aE fr aT aU aB hX hn iv.ord iv.nd (by lia) (by lia) ho) (ih _ _ _ _ h (iv.B p (qO c (iv.ord c mc) y hy)))
   ·have e0:=Ga (vm Prod.snd ho)
    rw [ho] at e0
    have hB:=W0 (w:=w) (b:=b) (b2:=b2) inj A R0 hE aS aN aE fr aT aU aB hX hn iv.ord iv.nd (by lia) (by lia) ho
    rw [e0] at hB
    exact hB
  ·have hn:X∉s.map (·.1):=fun m=>hX (iv.sub _ m)
   rcases h with ⟨p,y,ho,h⟩ | ⟨p,ho,rfl⟩
   ·obtain ⟨c,mc,hy⟩:=GZ (vm Prod.snd ho)
    exact AK.go (fun q q q h=>h) (by kernel_rfl) (Vz (w:=w) (b:=b) (b2:=b2) inj A R0 hE aS aN aE fr aT aU aB hX iv.hX hn iv.ord iv.nd (by lia) (by lia) ho) (ih _ _ _ _ h (iv.C hX p (qO c (by cases mc with | head=>exact iv.hX | tail _ m=>exact iv.ord c m) y hy)))
   ·have e0:=Ga (vm Prod.snd ho)
    rw [ho] at e0
    have hB:=Vz (w:=w) (b:=b) (b2:=b2) inj A R0 hE aS aN aE fr aT aU aB hX iv.hX hn iv.ord iv.nd (by lia) (by lia) ho
    rw [e0] at hB
    exact hB
end
end
section
def MG(sc:Nat→zl)(fuel:Nat):zl→zl→Bool
 | [],_=>true
 | X::l,S=>if X∈S then MG sc fuel l S else match out sc fuel [] S X with
   | none=>false
   | some (S',_)=>MG sc fuel l S'
theorem dY(sc:Nat→zl)(fuel X:Nat)(l S:zl):MG sc fuel (X::l) S=if X∈S then MG sc fuel l S else match out sc fuel [] S X with
   | none=>false
   | some (S',_)=>MG sc fuel l S':=rfl
inductive ZU (sc:Nat→zl) (fuel X:Nat) (l S:zl):Prop
 | seen (hX:X∈S) (h:MG sc fuel l S=true):ZU sc fuel X l S
 | new (hX:X∉S) (o:zl×Nat) (ho:out sc fuel [] S X=some o) (h:MG sc fuel l o.1=true):ZU sc fuel X l S
theorem da{sc:Nat→zl}{fuel X:Nat}{l S:zl}(h:MG sc fuel (X::l) S=true):ZU sc fuel X l S:=by
 rw [dY] at h
 by_cases hX:X∈S
 ·rw [wD hX] at h; exact .seen hX h
 ·rw [w2 hX] at h
  cases ho:out sc fuel [] S X with
  | none=>rw [ho] at h; cases h
  | some o=>rw [ho] at h; exact .new hX o ho h
theorem GG{sc:Nat→zl}{res:zl×Nat}:∀ {n:Nat} {s:List (Nat×Nat)} {S:zl} {X:Nat},out sc n s S X=some res→res.1.length≤S.length+n
 | 0,_,_,_,h=>by cases h
 | n+1,s,S,X,h=>by
  rcases Vy h with ⟨_,_,⟨p,y,_,h⟩ | ⟨p,_,rfl⟩⟩ | ⟨_,⟨p,y,_,h⟩ | ⟨p,_,rfl⟩⟩
  ·exact xj (GG h)
  ·exact xo _ _
  ·have:=GG h
   rwa [vr,xt] at this
  ·exact xk (yM 1 n) _
def af(P:zp)(nm:zm)(aT aU aB eT eU eB:Nat):Lp:=[(aT,A0 (Vj nm [] eT)),(aU,A0 (QP [] eU)),(aB,A6 (Vl P nm [] eB))]
def pF(P:zp)(nm:zm)(G:GS)(A:GA)(aN aE fr aT aU aB aI:Nat)(It F:Obj)(eT eU eB:Nat)(DE:zu)(R:Lp):Lp:=
 [(aI,It),(aN,A6 (A7 P (Ar nm A G.ord) G.ord.length)),(fr,F),(aE,Bt DE)]++(af P nm aT aU aB eT eU eB++(PS nm G A++(Im nm G A++R)))
theorem iR{α:Type}{P:List α}(f T U E B N:α)(S:List α)(h:P.Perm ([T,U,B]++S)):([f,E,N]++P).Perm ([f,T,U,E,B,N]++([]++S)):=
 FQ [[f],[E],[N],P,[T],[U],[B],S] (.a (.q [0,1,2]) (.l 3)) (.a (.q [0,4,5,1,6,2]) (.a (.n) (.l 7))) (.l 3) (.a (.q [4,5,6]) (.l 7)) h rfl
theorem iQ{α:Type}(f T U E B N:α)(S:List α):([f,T,U,E,B,N]++([]++S)).Perm ([f,E,N]++([T,U,B]++S)):=
 Dm [[f],[T],[U],[E],[B],[N],S] (.a (.q [0,1,2,3,4,5]) (.a (.n) (.l 6))) (.a (.q [0,3,5]) (.a (.q [1,2,4]) (.l 6))) rfl
theorem iP{α:Type}(I N f T U E B:α)(F:List α):([I,N]++([f,E,T,U,B]++F)).Perm ([I,N,f,T,U,E,B]++F):=
 Dm [[I],[N],[f],[E],[T],[U],[B],F] (.a (.q [0,1]) (.a (.q [2,3,4,5,6]) (.l 7))) (.a (.q [0,1,2,4,5,3,6]) (.l 7)) rfl
section
variable{w:zt}{b b2:Bool}{nm:zm}{G:GS}(inj:∀ a b,nm a=nm b→a=b)(A:GA)(R0:Lp){Ev:zi}(hE:AW Ev R0)(aS aN aE fr aT aU aB:Nat)
theorem Lj{G:GS}{i X:Nat}(h:G.ord[i]?=some X):(Ar nm A G.ord)[i]?=some (nm X,.ref (A.aI X)):=by unfold Ar; rw [wI,h]; rfl
theorem CU(G:GS):(Ar nm A G.ord).length=G.ord.length:=by simp [Ar]
include inj hE
theorem gR(qO:∀ c∈G.ord,∀ d∈G.sc c,d∈G.ord){n:Nat}{S:zl}{X:Nat}{res:zl×Nat}(h:out G.sc n [] S X=some res)(hX:X∈G.ord)(hn:n < 900)(hS:S.length+n < 999){DE:zu}(hD:C5 (wf w b b2) (S.map nm) DE)(eT eU eB:Nat)(M:Lp) :
  Spec.px (Vn w.2 aS aN aT aU aB fr aE (nm X) (nm res.2) (A7 w.2 (Ar nm A G.ord) G.ord.length) DE) (fun z q=>C5 (wf w b b2) (res.1.map nm) z) (Vn w.2 aS aN aT aU aB fr aE (nm X) (nm res.2) (A7 w.2 (Ar nm A G.ord) G.ord.length) DE .plain) (wf w b b2) (Al ⟨10,B4 (Aj w.2 fr) Ev zw⟩)
   (fun L=>L.Perm (af w.2 nm aT aU aB eT eU eB++(PS nm G A++(Im nm G A++(M++R0))))) (fun L=>∃ M eT eU eB,L.Perm (af w.2 nm aT aU aB eT eU eB++(PS nm G A++(Im nm G A++(M++R0))))):=by
 have hh:=O4 (w:=w) (b:=b) (b2:=b2) inj A R0 hE aS aN aE fr aT aU aB qO n [] S X res h ⟨fun c m=>(by cases m),.nil,fun c m=>(by cases m),(by simp; lia),hS,hX⟩
 refine Spec.pW.z (AK.toD hh ?_ ?_)
 ·intro P hP
  exact ⟨_,iR _ _ _ _ _ _ _ hP,[],DE,M,eT,eU,eB,rfl,hD,.refl _⟩
 ·rintro e L ⟨rfl,t,DE',M',eT',eU',eB',ht,qU,pm⟩
  obtain rfl:t=[]:=xa.mp ht
  exact ⟨DE',fun q=>0,_,⟨qU,M',eT',eU',eB',.refl _⟩,rfl,pm.trans (iQ _ _ _ _ _ _ _)⟩
inductive FS (w':zt) (nm:zm) (G:GS) (A:GA) (R0:Lp) (aS aN aE fr aT aU aB aI:Nat) (i:Nat) (X0:Option Nat) (S:zl) (L:Lp):Prop
 | mk (DE:zu) (M:Lp) (eT eU eB:Nat) (h0:C5 w' (S.map nm) DE) (h1:L.Perm (pF w'.params nm G A aN aE fr aT aU aB aI (Cg aN i G.ord.length G.ord.length) (Yx w'.params aS aN aT aU aE aB (X0.map nm)) eT eU eB DE (M++R0))):FS w' nm G A R0 aS aN aE fr aT aU aB aI i X0 S L
variable(aI:Nat)
theorem lG{i X:Nat}{X0:Option Nat}(hi:G.ord[i]?=some X){S:zl}(hX:X∈S)(hS:S.length < 1000) :
  AO w b b2 9 (B4 (Aj w.2 fr) Ev zw) (FW w.2 aI fr) (FS (wf w b b2) nm G A R0 aS aN aE fr aT aU aB aI i X0 S)
   (fun e L=>e=.fin (.again (FW w.2 aI fr))∧FS (wf w b b2) nm G A R0 aS aN aE fr aT aU aB aI (i+1) (some X) S L):=by
 rintro L0 ⟨DE,M,eT,eU,eB,hD,pm⟩
 exact ((Uv w b b2 aI aN fr aE (X0.map nm) aS aT aU aB i G.ord.length (nm X) _ (Ar nm A G.ord) G.ord.length _ DE (S.map nm) rfl (CU A G) (Lj A hi) hD (by simpa using hS) ((IK inj).mpr hX) (fun L=>L=af w.2 nm aT aU aB eT eU eB++(PS nm G A++(Im nm G A++(M++R0))))).kp (q8:=fun L=>L=L0) (fun L e=>e ▸ pm) (fun A1=>⟨_,.refl _,rfl,DE,M,eT,eU,eB,hD,.refl _⟩)) L0 rfl
theorem lH(qO:∀ c∈G.ord,∀ d∈G.sc c,d∈G.ord){i X n:Nat}{X0:Option Nat}(hi:G.ord[i]?=some X){S:zl}{res:zl×Nat}(h:out G.sc n [] S X=some res)(hX:X∉S)(hn:n < 900)(hS:S.length+n < 999) :
  AO w b b2 9 (B4 (Aj w.2 fr) Ev zw) (FW w.2 aI fr) (FS (wf w b b2) nm G A R0 aS aN aE fr aT aU aB aI i X0 S)
   (fun e L=>e=.fin (.again (FW w.2 aI fr))∧FS (wf w b b2) nm G A R0 aS aN aE fr aT aU aB aI (i+1) (some res.2) res.1 L):=by
 rintro L0 ⟨DE,M,eT,eU,eB,hD,pm⟩
 have uC:=gR (w:=w) (b:=b) (b2:=b2) inj A R0 hE aS aN aE fr aT aU aB qO h (wW hi) hn hS hD eT eU eB M
 have hk:=Yw w b b2 aI aN fr aE (X0.map nm) aS aT aU aB i G.ord.length (nm X) (nm res.2) _ (Ar nm A G.ord) G.ord.length _ _ _ DE _ _ (S.map nm) rfl (CU A G) (Lj A hi) hD (by simp; lia) (fun m=>hX ((IK inj).mp m)) rfl uC
 refine Spec.pW.kq (Pre:=fun L=>L=L0) (Spec.px.d hk) (fun L e=>⟨_,e ▸ pm,.refl _⟩) ?_ (hp:=rfl) (hF:=fun q=>rfl) (hc:=fun q q=>rfl) L0 rfl
 rintro z A1 P' ⟨hz,M',eT',eU',eB',hP⟩
 refine ⟨_,.refl _,rfl,z,M',eT',eU',eB',hz,?_⟩
 show ((_++P')++([]:Lp)).Perm _
 rw [w9]
 exact vy _ hP
inductive FE (P:zp) (nm:zm) (G:GS) (A:GA) (R0:Lp) (aN aE fr aT aU aB aI:Nat) (L:Lp):Prop
 | mk (z:Nat→zu) (M:Lp) (h0:L.Perm ([(aI,nT (z 0)),(aN,A6 (A7 P (Ar nm A G.ord) G.ord.length)),(fr,Bp (z 1)),(aT,A0 (z 2)),(aU,A0 (z 3)),(aE,Bt (z 4)),(aB,A6 (z 5))]++(PS nm G A++(Im nm G A++(M++R0))))):FE P nm G A R0 aN aE fr aT aU aB aI L
omit inj hE in
theorem ct(P:zp)(aS aN aT aU aE aB:Nat)(o:Option Str):Yx P aS aN aT aU aE aB o=Bp (Yx P aS aN aT aU aE aB o).data:=by cases o<;>rfl
omit inj hE in
theorem lI{St:zc}{i:Nat}(hi:i=G.ord.length){X0:Option Nat}{S:zl} :
  AO w b b2 9 St (FW w.2 aI fr) (FS (wf w b b2) nm G A R0 aS aN aE fr aT aU aB aI i X0 S)
   (fun e L=>e=.fin (.done .next)∧FE w.2 nm G A R0 aN aE fr aT aU aB aI L):=by
 subst hi
 rintro L0 ⟨DE,M,eT,eU,eB,hD,pm⟩
 refine ((Uw w b b2 aI aN fr G.ord.length G.ord.length (Ar nm A G.ord) G.ord.length _ _ rfl (CU A G) (wx (CU A G)) rfl (fun L=>L=[(fr,Yx w.2 aS aN aT aU aE aB (X0.map nm)),(aE,Bt DE)]++(af w.2 nm aT aU aB eT eU eB++(PS nm G A++(Im nm G A++(M++R0)))))).kp (q8:=fun L=>L=L0) (fun L e=>e ▸ pm) fun A1=>?_) L0 rfl
 rw [ct]
 exact ⟨_,iP _ _ _ _ _ _ _ _,rfl,(fun j=>match j with | 0=>(Je (G.ord.length:Int) G.ord.length G.ord.length).data | 1=>(Yx w.2 aS aN aT aU aE aB (X0.map nm)).data | 2=>Vj nm [] eT | 3=>QP [] eU | 4=>DE | _=>Vl w.2 nm [] eB),M,.refl _⟩
theorem Ut(qO:∀ c∈G.ord,∀ d∈G.sc c,d∈G.ord){fuel:Nat}(hf:fuel < 50):∀ (n i:Nat) (X0:Option Nat) (S:zl),i+n=G.ord.length→S.length+(n+1)*fuel < 999→MG G.sc fuel (G.ord.drop i) S=true→
  AO w b b2 9 (B4 (Aj w.2 fr) Ev zw) (FW w.2 aI fr) (FS (wf w b b2) nm G A R0 aS aN aE fr aT aU aB aI i X0 S)
   (fun e L=>e=.fin (.done .next)∧FE w.2 nm G A R0 aN aE fr aT aU aB aI L):=by
 intro n
 induction n with
 | zero=>
  intro i X0 S hi hS h
  exact lI A R0 aS aN aE fr aT aU aB aI (by lia)
 | succ n ih=>
  intro i X0 S hi hS h
  have hlt:i < G.ord.length:=Ap hi
  have hp:G.ord[i]?=some G.ord[i]:=w0 hlt
  have hd:G.ord.drop i=G.ord[i]::G.ord.drop (i+1):=wH hlt
  rw [hd] at h
  have t5:S.length+(n+1)*fuel+fuel < 999:=by rw [Nat.succ_mul] at hS; lia
  have hS2:S.length+fuel < 999:=by have:=yj ((n+1)*fuel); lia
  rcases da h with ⟨hX,h⟩ | ⟨hX,o,ho,h⟩
  ·exact AK.go (fun q q q h=>h) (by kernel_rfl) (lG (w:=w) (b:=b) (b2:=b2) inj A R0 hE aS aN aE fr aT aU aB aI hp hX (by lia)) (ih (i+1) _ S (Ci hi) (by lia) h)
  ·have:=GG ho
   exact AK.go (fun q q q h=>h) (by kernel_rfl) (lH (w:=w) (b:=b) (b2:=b2) inj A R0 hE aS aN aE fr aT aU aB aI qO hp ho hX (by lia) hS2) (ih (i+1) _ _ (Ci hi) (by lia) h)
end
theorem ia{α:Type}{P:List α}(I N f T U E B:α)(Z:List α)(h:P.Perm Z):([I,N,f,T,U,E,B]++P).Perm ([I,N,f,E]++([T,U,B]++Z)):=
 FQ [[I],[N],[f],[T],[U],[E],[B],P,Z] (.a (.q [0,1,2,3,4,5,6]) (.l 7)) (.a (.q [0,1,2,5]) (.a (.q [3,4,6]) (.l 8))) (.l 7) (.l 8) h rfl
theorem iZ{α:Type}{P:List α}(S a b M R:List α)(h:P.Perm (a++(b++R))):(S++(a++(b++(M++R)))).Perm ((S++P)++M):=
 FQ [S,a,b,M,R,P] (.r [0,1,2,3] (.l 4)) (.a (.a (.l 0) (.l 5)) (.l 3)) (.r [1,2] (.l 4)) (.l 5) h.symm rfl
theorem ip{α:Type}(x:α)(I l R:List α):(x::(I++(l++R))).Perm (I++(l++(x::R))):=
 Dm [[x],I,l,R] (.r [0,1,2] (.l 3)) (.r [1,2,0] (.l 3)) rfl
def VJ(nm:zm)(G:GS):zu:=.seq ⟨AB nm (AM G G.ord)⟩ (AM G G.ord).length
theorem oJ(P:zp)(fr:Nat):DH (JZ P fr):=by
 have h:(JZ P fr).scope.kind=.function:=by kernel_rfl
 exact ⟨by rw [h]; decide,by kernel_rfl⟩
section
variable{w:zt}{b b2:Bool}{nm:zm}{G:GS}(inj:∀ a b,nm a=nm b→a=b)(A:GA)(qO:∀ c∈G.ord,∀ d∈G.sc c,d∈G.ord)(hs:G.ord.length < 20){fuel:Nat}(hf:fuel < 40)(h:MG G.sc fuel G.ord []=true)
include inj qO hs hf h
theorem sj{R0 Pr:Lp}{Ev:zi}(hE:AW Ev R0)(hP:Pr.Perm (PS nm G A++(Im nm G A++R0)))(aS aN:Nat){DE:zu}(hD:C5 (wf w b b2) [] DE)(aI fr aT aU aE aB:Nat) :
  Spec.px (JW w.2 aS aN aI fr aT aU aE aB G.ord.length G.ord.length (A7 w.2 (Ar nm A G.ord) G.ord.length) DE) (fun q q=>True) (JW w.2 aS aN aI fr aT aU aE aB G.ord.length G.ord.length (A7 w.2 (Ar nm A G.ord) G.ord.length) DE z0) (wf w b b2) (Al ⟨9,B4 (Aj w.2 fr) Ev zw⟩)
   (fun P=>P=Pr) (fun P=>P=Pr):=by
 have hm:(G.ord.length+1)*fuel < 999:=wb (Nat.mul_le_mul (show G.ord.length+1≤20 by lia) (show fuel≤40 by lia)) (by decide)
 have hh:=Ut (w:=w) (b:=b) (b2:=b2) inj A R0 hE aS aN aE fr aT aU aB aI qO (by lia) G.ord.length 0 none [] (by lia) (by simpa using hm) h
 refine Spec.pW.z (AK.tn ?_)
 rintro P rfl
 refine hh.pU ?_ ?_
 ·rintro L rfl
  exact ⟨_,.refl _,DE,[],0,0,0,hD,ia _ _ _ _ _ _ _ _ hP⟩
 ·rintro e L ⟨rfl,z,M,pm⟩
  exact ⟨_,pm,z,fun q=>0,P,M,⟨trivial,rfl⟩,fun q m=>m,rfl,iZ _ _ _ _ _ hP⟩
theorem lE{R0 Pr:Lp}{Ev:zi}(hE:AW Ev R0)(hP:Pr.Perm (PS nm G A++(Im nm G A++R0)))(aS aD aN rn:Nat) :
  (fT w.2 aS aD aN rn 0 0 (A7 w.2 (Ar nm A G.ord) G.ord.length)).PI w b b2 8 (Ax Ev zw) (fun P=>P=Pr):=by
 have hlen:=CU (nm:=nm) A G
 exact Yu w b b2 aS aD aN rn 0 0 (Ar nm A G.ord) _ G.ord.length (C5 (wf w b b2) []) (A7 w.2 (Ar nm A G.ord) G.ord.length) _ _ _ rfl rfl rfl rfl (by rw [hlen]; exact fun DE hD aI fr aT aU aE aB=>sj inj A qO hs hf h hE hP aS aN hD aI fr aT aU aE aB)
theorem XW{c0:Nat}{rest:zl}(ho:G.ord=c0::rest)(hn:∀ c,0≤G.np c){R:Lp}{Ev:zi}(hE:AW Ev R)(aS aD aN:Nat) :
  (fB w.2 aS aD aN (Ar nm A G.ord) G.ord.length (rest.foldl (fun q c=>A.aI c) (A.aI c0)) (A7 w.2 (Ar nm A G.ord) G.ord.length) .plain (A7 w.2 (Ar nm A G.ord) G.ord.length) (VJ nm G)).PI w b b2 7 (Ax Ev zw) (fun L=>L=JK nm G A R):=by
 have hlen:=CU (nm:=nm) A G
 exact SI w b b2 aS aD aN (Ar nm A G.ord) G.ord.length _ _ _ (VJ nm G) rfl rfl (by rw [hlen]; exact fun aI aA aK f=>Xd A _ aI aN aA aK f hn (by lia) ho)
  (fun ET rn=>lE (Pr:=(ET,Bp (fD w.2 aS))::JK nm G A R) inj A qO hs hf h (hE.cons (oJ w.2 ET) rfl) ((List.Perm.cons _ Bi).trans (ip _ _ _ _)) aS aD aN rn)
end
end
def Co(G:GS)(x:Nat)(l:zl):GS:=⟨G.ord++[x],upd G.np x l.length,fun d=>if d=x then [] else if d∈l then G.sc d++[x] else G.sc d⟩
noncomputable def Oo(nm:zm)(G:GS)(x c:Nat):zu:=.seq ⟨((G.sc c).map fun d=>.str (nm d) 0)++[.str (nm x) 0]⟩ ((G.sc c).length+1)
def ZP(P:zp)(nm:zm)(G:GS)(A:GA)(pv aS aD aN x:Nat)(l:zl)(DN qS:zu):Spec:=
 ⟨.call (.ref pv) ⟨.str (nm x) 0::AB nm l,[]⟩,[pv,aS,aD,aN]++l.flatMap (fun c=>[A.aI c,A.aL c]),[Jp aS,AE aD,AF P aN .none 0 0,A6 DN]++l.flatMap (fun c=>[A9 (nm c) (G.np c) (A.aX c) (A.aL c),A0 (Cr nm G c)]),fun q=>.fin (.done (.ret .none)),
  fun q=>[Jp aS,AE aD,AF P aN .none 0 0,A6 qS]++l.flatMap (fun c=>[A9 (nm c) (G.np c) (A.aX c) (A.aL c),A0 (Oo nm G x c)]),fun A1=>[A9 (nm x) (l.length:Nat) (A1 1) (A1 2),BE [] 0,A0 (.seq #[] 0)]⟩
theorem Hb{N:List (Str×zq)}{X Y:Str}{a1:Nat}(h:A' N Y=some (.ref a1)):∀ a:Nat,(A' (N++[(X,.ref a)]) Y).getD .none=.ref a1:=fun a=>by rw [Lq,h]; rfl
theorem VW(nm:zm)(G:GS)(A:GA)(pv aS aD aN x:Nat)(l:zl)(hl:l.length≤3)(DN:zu)(N:List (Str×zq))(nn:Nat)(hN:DN=A7 w.2 N nn)(hx:A' N (nm x)=none)(hn:N.length≤1000)(h:∀ c∈l,A' N (nm c)=some (.ref (A.aI c)))(hs:∀ c,(G.sc c).length≤1000)(I:zd) :
  Spec.px (fun qS=>ZP w.2 nm G A pv aS aD aN x l DN qS) (fun qS A1=>qS=A7 w.2 (N++[(nm x,.ref (A1 0))]) (nn+1)) (ZP w.2 nm G A pv aS aD aN x l DN .plain) (wf w b b2) (Al ⟨7,St⟩) I I:=by
 have hl':=AD
 have qy:∀ c,((G.sc c).map fun d=>Value.str (nm d) 0).length≤sizeLine:=fun c=>by rw [vh]; have:=hs c; lia
 rcases l with _ | ⟨c1,_ | ⟨c2,_ | ⟨c3,_ | ⟨c4,l⟩⟩⟩⟩
 ·exact Va w b b2 pv aS aD aN (nm x) N nn DN hN hx (by lia) I
 ·exact VZ w b b2 pv aS aD aN (A.aI c1) (A.aL c1) (nm x) (nm c1) (G.np c1) (A.aX c1) N nn DN (Cr nm G c1) (Oo nm G x c1) hN hx (by lia) (Hb (h c1 (.head _))) _ _ rfl rfl (qy _) I
 ·exact VY w b b2 pv aS aD aN (A.aI c1) (A.aL c1) (A.aI c2) (A.aL c2) (nm x) (nm c1) (nm c2) (G.np c1) (G.np c2) (A.aX c1) (A.aX c2) N nn DN (Cr nm G c1) (Oo nm G x c1) (Cr nm G c2) (Oo nm G x c2) hN hx (by lia) (Hb (h c1 (.head _))) _ _ rfl rfl (qy _) (Hb (h c2 (.tail _ (.head _)))) _ _ rfl rfl (qy _) I
 ·exact VX w b b2 pv aS aD aN (A.aI c1) (A.aL c1) (A.aI c2) (A.aL c2) (A.aI c3) (A.aL c3) (nm x) (nm c1) (nm c2) (nm c3) (G.np c1) (G.np c2) (G.np c3) (A.aX c1) (A.aX c2) (A.aX c3) N nn DN (Cr nm G c1) (Oo nm G x c1) (Cr nm G c2) (Oo nm G x c2) (Cr nm G c3) (Oo nm G x c3) hN hx (by lia) (Hb (h c1 (.head _))) _ _ rfl rfl (qy _) (Hb (h c2 (.tail _ (.head _)))) _ _ rfl rfl (qy _) (Hb (h c3 (.tail _ (.tail _ (.head _))))) _ _ rfl rfl (qy _) I
 ·exact absurd hl (by simp)
theorem Wh{α:Type}(a b:α→Nat)(u v:α→Obj):∀ l:List α,(l.flatMap fun c=>[a c,b c]).zip (l.flatMap fun c=>[u c,v c])=l.flatMap fun c=>[(a c,u c),(b c,v c)]
 | []=>rfl
 | c::l=>by rw [wO,wO,wO,← Wh a b u v l]; rfl
def QZ(P:zp)(nm:zm)(pv aS aD aN x:Nat)(l:zl)(D D2:zu):Spec:=
 ⟨.call (.ref pv) ⟨.str (nm x) 0::AB nm l,[]⟩,[pv,aS,aD,aN],[Jp aS,AE aD,AF P aN .none 0 0,A6 D],fun q=>.fin (.done (.ret .none)),fun q=>[Jp aS,AE aD,AF P aN .none 0 0,A6 D2],fun q=>[]⟩
inductive QG (P:zp) (nm:zm) (R0:Lp) (G:GS) (D:zu) (L:Lp):Prop
 | mk (A:GA) (M:Lp) (hD:D=A7 P (Ar nm A G.ord) G.ord.length) (pm:L.Perm (G.ord.flatMap (Du nm G A)++(M++R0))):QG P nm R0 G D L
theorem bJ{α:Type}{T3 P F f T K:List α}(h:P.Perm (F++K))(k:F.Perm (f++T)):(T3++P).Perm ((T3++f)++(T++K)):=
 FQ [T3,P,F,f,T,K] (.a (.l 0) (.l 1)) (.a (.a (.l 0) (.l 3)) (.a (.l 4) (.l 5))) (.a (.l 1) (.l 2)) (.a (.a (.l 2) (.l 5)) (.a (.l 3) (.l 4))) (h.append k) rfl
theorem bI{α:Type}{F f T M R:List α}(i d s:α)(k:F.Perm (f++T)):((f++(T++(M++R)))++[i,d,s]).Perm ((F++[i,s])++((d::M)++R)):=
 FQ [F,f,T,M,R,[i],[d],[s]] (.a (.r [1,2,3] (.l 4)) (.q [5,6,7])) (.a (.a (.l 0) (.q [5,7])) (.a (.r [6] (.l 3)) (.l 4))) (.a (.l 1) (.l 2)) (.l 0) k.symm rfl
variable{w b b2}
theorem dp{nm:zm}{G:GS}(inj:∀ a b,nm a=nm b→a=b)(no:G.ord.Nodup){St:zc}(R0:Lp)(pv aS aD aN x:Nat)(l:zl)(hl:l.length≤3)(nl:l.Nodup)(ho:∀ c∈l,c∈G.ord)(hx:x∉G.ord)(hn:G.ord.length≤1000)(hs:∀ c,(G.sc c).length≤1000)(D:zu) :
  Spec.pW (fun D2=>QZ w.2 nm pv aS aD aN x l D D2) (fun D2 q P'=>QG w.2 nm R0 (Co G x l) D2 P') (QZ w.2 nm pv aS aD aN x l D .plain) (wf w b b2) (Al ⟨7,St⟩) (QG w.2 nm R0 G D):=by
 rintro P ⟨A,M,rfl,pm⟩
 obtain ⟨T,p1,_⟩:=Pl (f:=Du nm G A) (g:=Du nm G A) no nl ho (fun q q q=>rfl)
 have hk:=Spec.pW.n (Spec.px.d (VW (St:=St) w b b2 nm G A pv aS aD aN x l hl _ (Ar nm A G.ord) G.ord.length rfl (by rw [CY inj,w2 hx]) (by rw [CU]; exact hn) (fun c m=>by rw [CY inj,wD (ho c m)]) hs (fun L=>L=T++(M++R0)))) (by simp [ZP]) (fun q=>rfl) (fun q q=>by simp [ZP])
 have z1:(ZP w.2 nm G A pv aS aD aN x l (A7 w.2 (Ar nm A G.ord) G.ord.length) .plain).pq=[(pv,Jp aS),(aS,AE aD),(aD,AF w.2 aN .none 0 0),(aN,A6 (A7 w.2 (Ar nm A G.ord) G.ord.length))]++l.flatMap (Du nm G A):=
  vm ((pv,Jp aS)::(aS,AE aD)::(aD,AF w.2 aN .none 0 0)::(aN,A6 (A7 w.2 (Ar nm A G.ord) G.ord.length))::·) (Wh A.aI A.aL (fun c=>A9 (nm c) (G.np c) (A.aX c) (A.aL c)) (fun c=>A0 (Cr nm G c)) l)
 refine Dp.tB (S:=QZ w.2 nm pv aS aD aN x l (A7 w.2 (Ar nm A G.ord) G.ord.length) .plain) (F:=fun D2=>QZ w.2 nm pv aS aD aN x l (A7 w.2 (Ar nm A G.ord) G.ord.length) D2) (O:=fun D2 q P'=>QG w.2 nm R0 (Co G x l) D2 P') (I:=fun L=>L=P) hk ?_ ?_ (hp:=rfl) (hF:=fun q=>rfl) (hc:=fun q q=>rfl) P rfl
 ·rintro P' rfl
  refine ⟨_,bJ pm p1,_,rfl,?_⟩
  rw [z1]; rfl
 ·rintro e Lk Ln ⟨D2,A1,P',⟨rj,rfl⟩,rfl,rfl,rfl⟩
  have z2:(ZP w.2 nm G A pv aS aD aN x l (A7 w.2 (Ar nm A G.ord) G.ord.length) .plain).ad.zip ((ZP w.2 nm G A pv aS aD aN x l (A7 w.2 (Ar nm A G.ord) G.ord.length) D2).ch A1)=[(pv,Jp aS),(aS,AE aD),(aD,AF w.2 aN .none 0 0),(aN,A6 D2)]++l.flatMap (fun c=>[(A.aI c,A9 (nm c) (G.np c) (A.aX c) (A.aL c)),(A.aL c,A0 (Oo nm G x c))]):=
   vm ((pv,Jp aS)::(aS,AE aD)::(aD,AF w.2 aN .none 0 0)::(aN,A6 D2)::·) (Wh A.aI A.aL (fun c=>A9 (nm c) (G.np c) (A.aX c) (A.aL c)) (fun c=>A0 (Oo nm G x c)) l)
  rw [z2]
  have hg:∀ d∈G.ord,d∉l→Du nm (Co G x l) (A.set x (A1 0) (A1 1) (A1 2)) d=Du nm G A d:=fun d hd u'=>by
   have qf:d≠x:=fun e=>hx (e ▸ hd)
   exact Tx qf (BL _ _ qf) (by show (if d=x then [] else if d∈l then G.sc d++[x] else G.sc d)=_; rw [w2 qf,w2 u'])
  obtain ⟨T',q1,q2⟩:=Pl (f:=Du nm G A) (g:=Du nm (Co G x l) (A.set x (A1 0) (A1 1) (A1 2))) no nl ho hg
  have hT:T.Perm T':=(List.perm_append_left_iff _).mp (p1.symm.trans q1)
  have e3:l.flatMap (Du nm (Co G x l) (A.set x (A1 0) (A1 1) (A1 2)))=l.flatMap (fun c=>[(A.aI c,A9 (nm c) (G.np c) (A.aX c) (A.aL c)),(A.aL c,A0 (Oo nm G x c))]):=Dj fun c hc=>by
   have qf:c≠x:=fun e=>hx (e ▸ ho c hc)
   have es:(Co G x l).sc c=G.sc c++[x]:=by show (if c=x then [] else if c∈l then G.sc c++[x] else G.sc c)=_; rw [w2 qf,wD hc]
   unfold Du GA.set Oo
   rw [es]
   simp only [BL _ _ qf,Co,vl,vn]
   rfl
  rw [e3] at q2
  have ex:Du nm (Co G x l) (A.set x (A1 0) (A1 1) (A1 2)) x=[(A1 0,A9 (nm x) (l.length:Nat) (A1 1) (A1 2)),(A1 2,A0 (.seq #[] 0))]:=by
   unfold Du GA.set Co
   simp only [E8,wD]
   rfl
  refine ⟨D2,A1,_,[(A1 0,A9 (nm x) (l.length:Nat) (A1 1) (A1 2)),(A1 1,BE [] 0),(A1 2,A0 (.seq #[] 0))],⟨A.set x (A1 0) (A1 1) (A1 2),(A1 1,BE [] 0)::M,?_,?_⟩,rfl,.of_eq (vj _ _ _),.refl _⟩
  ·rw [rj]
   show _=A7 w.2 (Ar nm (A.set x (A1 0) (A1 1) (A1 2)) (G.ord++[x])) (G.ord++[x]).length
   rw [Tw hx,vn]; rfl
  ·show List.Perm _ ((G.ord++[x]).flatMap _++_)
   rw [wo,List.flatMap_singleton,ex]
   exact (xA _ (vy _ (xA _ hT))).trans (bI _ _ _ q2)
def Oq(P:zp):Stmt:=(CM (EW (YH P))).getD 1 (.Pass default)
def IX(P:zp)(fr:Nat):Env:=Br P 944 YH fr
def YU(P:zp)(aI fr:Nat):Code:=.forLoop (IV (Oq P)) (.ref aI) (EU (Oq P)) (IW (Oq P)) (IX P fr)
def UK(P:zp)(pL aS:Nat):Option (Str×Nat)→Obj
 | none=>Bp (.dict ⟨[kE P "needs" (.ref pL),kE P "sorter" (.ref aS)]⟩ 2)
 | some (X,a)=>Bp (.dict ⟨[kE P "needs" (.ref pL),kE P "sorter" (.ref aS),kE P "name" (.str X 0),kE P "ahead" (.ref a)]⟩ 4)
def nH(P:zp)(nm:zm)(aS aD aN x:Nat)(l:zl)(D:zu):A8:=O9 (fun q=>none) [11,5,6,7] [false,false,false,true] [] (fun X=>QZ P nm (A4 X 11) aS aD aN x l D .plain)
theorem YG{nm:zm}{aS aD aN x:Nat}{l:zl}{D:zu}{Q:zu→Lp→Prop}{I:zd}{St:zc}(h:∀ pv,Spec.pW (fun D2=>QZ w.2 nm pv aS aD aN x l D D2) (fun D2 q P'=>Q D2 P') (QZ w.2 nm pv aS aD aN x l D .plain) (wf w b b2) (Al ⟨7,fun q=>True⟩) I):(nH w.2 nm aS aD aN x l D).qM pw (wf w b b2) (A5 w.2) ⟨6,St⟩ I (fun u q P'=>Q (eD (u.d 6)) P'):=
 (Fj (w:=wf w b b2) (F0:=fun X D2=>QZ w.2 nm (A4 X 11) aS aD aN x l D D2) (O:=fun q D2 q P'=>Q D2 P') (fun q=>h _) (fun q q=>⟨rfl,rfl,rfl⟩) (fun q q q q q=>rfl) (CO (by rfl)) (by decide) (fun q=>⟨rfl,rfl,fun q q=>rfl⟩) (fun q q=>rfl)).mono (fun q h=>h) fun u x P' _ ⟨z,a,h⟩=>by
  have e:eD (u.d 6)=z:=a.1
  rw [e]; exact h
def fP(P:zp)(aI pL fr aT aA aS aD aN:Nat)(nm:zm)(x:Nat)(lc:zl)(o:Option (Str×Nat))(i e:Nat)(pX DD D2:zu):Spec:=⟨YU P aI fr,[aI,pL,fr,aT,aA,aS,aD,aN],[AV pL i,A0 pX,UK P pL aS o,AG (.seq #[.str (nm x) 0,.ref aA] 0),A0 (.seq ⟨AB nm lc⟩ e),AE aD,AF P aN .none 0 0,A6 DD],fun A=>.fin (.again (YU P aI fr)),fun A=>[AV pL ((i:Int)+1),A0 pX,UK P pL aS (some (nm x,aA)),AG (.seq #[.str (nm x) 0,.ref aA] 0),A0 (.seq ⟨AB nm lc⟩ e),AE aD,AF P aN .none 0 0,A6 D2],fun A=>[]⟩
variable{St:zc}(w b b2)
theorem UJ(aI pL fr aT aA aS aD aN:Nat)(nm:zm)(x:Nat)(lc:zl)(o:Option (Str×Nat))(i e:Nat)(pX DD:zu){I:zd}{Q:zu→Lp→Prop}(hl:lc.length≤3)(ts:zf)(en:Nat)(hN:pX=.seq ⟨ts⟩ en)(hi:ts[i]?=some (.ref aT))(sG:∀ pv,Spec.pW (fun D2=>QZ w.2 nm pv aS aD aN x lc DD D2) (fun D2 y P1=>Q D2 P1) (QZ w.2 nm pv aS aD aN x lc DD .plain) (wf w b b2) (Al ⟨7,fun y=>True⟩) I):Spec.pW (fun (D2:zu)=>fP w.2 aI pL fr aT aA aS aD aN nm x lc o i e pX DD D2) (fun (D2:zu) A P'=>(True)∧(Q D2) P') (fP w.2 aI pL fr aT aA aS aD aN nm x lc o i e pX DD .plain) (wf w b b2) (Al (⟨6,St⟩)) (I):=Rd (K0:=fun (D2:zu)=>Q D2) ((Cs.len lc (List.range 4) (yo.mpr (zO hl))).pp (Cs.oi o)) _ (fun (D2:zu) A=>True) (fun z D=>fP w.2 aI pL fr aT aA aS aD aN nm x z.1 z.2 i e (gD D 0) (gD D 1) .plain) (fun z D l=>fP w.2 aI pL fr aT aA aS aD aN nm x z.1 z.2 i e (gD D 0) (gD D 1) (ud l 0 6)) (fun z D=>(Ag [Au 0 1 i (gD D 0) (.ref aT),Dt 12 4,nH w.2 nm aS aD aN x z.1 (gD D 1)])) 3 (fun z D l=>[]) (fun z=>[]) [false,true,false,false,false,false,false,true] (hD 15 66 24065289670958004254080521221515412282074471245624384814761286118718902879416) 0 [7] 0 [pX,DD] fun E0 ke=>.q (AQ hN hi) fun y y y=>.note (BP (by decide)) fun y y y=>.qA (YG sG) fun u2 y y=>.nil fun P hP=>ke _ _ ⟨eD (u2.d 6),rfl,hP,fun y y=>trivial⟩
def kU(P:zp)(aI pL:Nat)(fr i:Nat)(DL pz:zu):Spec:=⟨YU P aI fr,[aI,pL],[AV pL i,A0 DL],fun A=>.fin (.done .next),fun A=>[Bn i,A0 pz],fun A=>[]⟩
theorem UL(aI pL:Nat)(fr i:Nat)(DL pz:zu)(vs:zf)(e:Nat)(hL:DL=.seq ⟨vs⟩ e)(hi:vs.length≤i)(eL:pz=DL)(I:zd):(kU w.2 aI pL fr i DL pz).PI w b b2 6 St I:=Bu (fun D=>kU w.2 aI pL fr i (gD D 0) pz) (fun D l=>kU w.2 aI pL fr i (gD D 0) (ud l 0 2)) (fun D=>(Ag [BM "list_iterator.__next__" 0 1 (fun X=>AV (A4 X 1) i) (Bn i) (A0 (gD D 0))])) 1 [] [false,true] [1,4] 0 [] 1 [DL] fun E0 ke=>.cons (Ay (by decide) hL hi) fun u0 q g0=>.pO ke (@id (eD (u0.d 2)=pz) (g0.1.1.trans eL.symm) ▸ rfl)
section
def A3(G:GS)(ns:za):GS:=ns.foldl (fun G q=>Co G q.1 q.2) G
noncomputable def G0:GS:=⟨[],fun q=>0,fun q=>[]⟩
noncomputable def Me:zl→za→Prop
 | _,[]=>True
 | o,(x,l)::r=>x∉o∧(∀ c∈l,c∈o)∧l.Nodup∧l.length≤3∧Me (o++[x]) r
structure F5(nm:zm)(R:Lp)(ts:zl)(ns:za):Prop where
 len:ts.length=ns.length
 pk:∀ (i t c:Nat) (ys:zl),ts[i]?=some t→ns[i]?=some (c,ys)→∃ a e rest,R.Perm ((t,AG (.seq #[.str (nm c) 0,.ref a] 0))::(a,A0 (.seq ⟨AB nm ys⟩ e))::rest)
theorem SS{α:Type}{R:List α}(F M rest:List α)(t a:α)(h:R.Perm (t::a::rest)):(F++(M++R)).Perm (t::a::(F++(M++rest))):=
 FQ [F,M,R,[t],[a],rest] (.r [0,1] (.l 2)) (.r [3,4,0,1] (.l 5)) (.l 2) (.r [3,4] (.l 5)) h rfl
theorem QG.split{P:zp}{nm:zm}{R rest:Lp}{G:GS}{D:zu}{L:Lp}{t a:Nat×Obj}(h:QG P nm R G D L)(p:R.Perm (t::a::rest)):∃ L1,L.Perm (t::a::L1)∧QG P nm rest G D L1:=by
 obtain ⟨A,M,hD,pm⟩:=h
 exact ⟨_,pm.trans (SS _ _ _ _ _ p),A,M,hD,.refl _⟩
theorem QG.join{P:zp}{nm:zm}{R rest:Lp}{G:GS}{D:zu}{L:Lp}{t a:Nat×Obj}(h:QG P nm rest G D L)(p:R.Perm (t::a::rest)):QG P nm R G D (t::a::L):=by
 obtain ⟨A,M,hD,pm⟩:=h
 exact ⟨A,M,hD,((pm.cons a).cons t).trans (SS _ _ _ _ _ p).symm⟩
theorem bE{α:Type}{P P1:List α}(I N f t a S D n:α)(h:P.Perm (t::a::P1)):([I,N,f,S,D,n]++P).Perm ([I,N,f,t,a,S,D,n]++P1):=
 FQ [[I],[N],[f],[S],[D],[n],P,[t],[a],P1] (.a (.q [0,1,2,3,4,5]) (.l 6)) (.a (.q [0,1,2,7,8,3,4,5]) (.l 9)) (.l 6) (.r [7,8] (.l 9)) h rfl
theorem Nl{G:GS}{x:Nat}{l:zl}(hs:∀ c,(G.sc c).length≤G.ord.length):∀ c,((Co G x l).sc c).length≤(Co G x l).ord.length:=by
 intro c
 have e:(Co G x l).ord.length=G.ord.length+1:=by show (G.ord++[x]).length=_; rw [vn]; rfl
 have:=hs c
 rw [e]
 show (if c=x then [] else if c∈l then G.sc c++[x] else G.sc c).length≤_
 split
 ·exact yj _
 ·split
  ·rw [vn,wQ]; lia
  ·lia
section
variable{w:zt}{b b2:Bool}{nm:zm}(inj:∀ a b,nm a=nm b→a=b)(R:Lp)(aI pL fr aS aD aN:Nat){ts:zl}{ns:za}(nd:F5 nm R ts ns)(en:Nat)
noncomputable def CX(nm:zm):za→Option Str→Option Str
 | [],s=>s
 | q::r,_=>CX nm r (some (nm q.1))
inductive eJ (P:zp) (nm:zm) (R:Lp) (aI pL fr aS aD aN:Nat) (ts:zl) (en:Nat) (It F:Obj) (G:GS) (L:Lp):Prop
 | mk (D:zu) (Q:Lp) (h:QG P nm R G D Q) (pm:L.Perm ([(aI,It),(pL,A0 (.seq ⟨ts.map .ref⟩ en)),(fr,F),(aS,AE aD),(aD,AF P aN .none 0 0),(aN,A6 D)]++Q)):eJ P nm R aI pL fr aS aD aN ts en It F G L
include inj nd
theorem UH{i x:Nat}{l:zl}(hi:ns[i]?=some (x,l))(o:Option (Str×Nat)){G:GS}(no:G.ord.Nodup)(hx:x∉G.ord)(ho:∀ c∈l,c∈G.ord)(nl:l.Nodup)(hl:l.length≤3)(hn:G.ord.length≤1000)(hs:∀ c,(G.sc c).length≤1000) :
  AO w b b2 6 (fun q=>True) (YU w.2 aI fr) (eJ w.2 nm R aI pL fr aS aD aN ts en (AV pL i) (UK w.2 pL aS o) G)
   (fun e L=>e=.fin (.again (YU w.2 aI fr))∧∃ a,eJ w.2 nm R aI pL fr aS aD aN ts en (AV pL ((i+1:Nat):Int)) (UK w.2 pL aS (some (nm x,a))) (Co G x l) L):=by
 rintro L0 ⟨D,Q,hQ,pm⟩
 have hit:i < ts.length:=by rw [nd.len]; exact (wA.mp hi).1
 obtain ⟨a,e,rest,pR⟩:=nd.pk i ts[i] x l (w0 hit) hi
 obtain ⟨Q1,p1,hQ1⟩:=hQ.split pR
 have hv:(ts.map Value.ref)[i]?=some (.ref ts[i]):=by rw [wI,w0 hit]; rfl
 refine Spec.pW.kq (Pre:=fun L=>L=L0) (UJ (St:=fun q=>True) w b b2 aI pL fr ts[i] a aS aD aN nm x l o i e _ D hl _ _ rfl hv (fun pv=>dp (St:=fun q=>True) inj no rest pv aS aD aN x l hl nl ho hx hn hs D)) (fun L e=>⟨Q1,(e ▸ pm).trans (bE _ _ _ _ _ _ _ _ p1),hQ1⟩) ?_ (hp:=rfl) (hF:=fun q=>rfl) (hc:=fun q q=>rfl) L0 rfl
 rintro D2 A1 P' ⟨_,hP⟩
 refine ⟨_,.refl _,rfl,a,D2,_,hP.join pR,?_⟩
 show ((_++P')++([]:Lp)).Perm _
 rw [w9]
 exact (bE _ _ _ _ _ _ _ _ (.refl _)).symm
theorem UI:∀ (n i:Nat) (o:Option (Str×Nat)) (G:GS),i+n=ns.length→Me G.ord (ns.drop i)→G.ord.Nodup→(∀ c,(G.sc c).length≤G.ord.length)→G.ord.length+n≤1000→
  AO w b b2 6 (fun q=>True) (YU w.2 aI fr) (eJ w.2 nm R aI pL fr aS aD aN ts en (AV pL i) (UK w.2 pL aS o) G)
   (fun e L=>e=.fin (.done .next)∧∃ z1 o',o'.map (·.1)=CX nm (ns.drop i) (o.map (·.1))∧eJ w.2 nm R aI pL fr aS aD aN ts en (QX z1) (UK w.2 pL aS o') (A3 G (ns.drop i)) L):=by
 intro n
 induction n with
 | zero=>
  intro i o G hi _ _ _ _
  have hi:i=ns.length:=by lia
  subst hi
  rw [xC]
  rintro L0 ⟨D,Q,hQ,pm⟩
  refine ((UL (St:=fun q=>True) w b b2 aI pL fr ns.length (.seq ⟨ts.map .ref⟩ en) (.seq ⟨ts.map .ref⟩ en) _ _ rfl (by rw [vh,nd.len]; exact vp _) rfl (fun L=>L=[(fr,UK w.2 pL aS o),(aS,AE aD),(aD,AF w.2 aN .none 0 0),(aN,A6 D)]++Q)).kp (q8:=fun L=>L=L0) (fun L e=>e ▸ pm) fun A1=>⟨_,.refl _,rfl,(Bn (ns.length:Nat)).data,o,rfl,D,Q,hQ,.refl _⟩) L0 rfl
 | succ n ih=>
  intro i o G hi qW no hs hn
  have hlt:i < ns.length:=Ap hi
  have hd:ns.drop i=ns[i]::ns.drop (i+1):=wH hlt
  rw [hd] at qW ⊢
  obtain ⟨hx,ho,nl,hl,qW⟩:=(show _∉_∧_ from qW)
  have hp:ns[i]?=some (ns[i].1,ns[i].2):=w0 hlt
  have ht:=UH (w:=w) (b:=b) (b2:=b2) inj R aI pL fr aS aD aN nd en hp o no hx ho nl hl (by lia) (fun c=>by have:=hs c; lia)
  refine AK.go (fun q q q h=>h) (by kernel_rfl) ht ?_
  rintro L0 ⟨a,h⟩
  exact ih (i+1) (some (nm ns[i].1,a)) (Co G ns[i].1 ns[i].2) (Ci hi) qW (by show (G.ord++[_]).Nodup; exact x5.mpr ⟨no,wZ.mpr ⟨List.not_mem_nil,.nil⟩,fun a ha b hb e=>hx (by rw [xX] at hb; subst hb; subst e; exact ha)⟩) (Nl hs) (by show (G.ord++[_]).length+n≤1000; rw [vn,wQ]; lia) L0 h
def cN(P:zp)(X:Str)(pX:zu)(aI pL fr aS aD aN:Nat)(z:zu×zu):Spec:=
 ⟨YU P aI fr,[aI,pL,fr,aS,aD,aN],[AV pL 0,A0 pX,UK P pL aS none,AE aD,AF P aN .none 0 0,BE [] 0],fun q=>.fin (.done .next),
  fun A=>[QX z.1,A0 pX,UK P pL aS (some (X,A 0)),AE aD,AF P aN .none 0 0,A6 z.2],fun q=>[]⟩
theorem YT{pX:zu}(hN:pX=.seq ⟨ts.map .ref⟩ en)(qW:Me [] ns)(hl:ns.length≤1000){X:Str}(hX:CX nm ns none=some X):Spec.pW (cN w.2 X pX aI pL fr aS aD aN) (fun z q P'=>QG w.2 nm R (A3 G0 ns) z.2 P') (cN w.2 X pX aI pL fr aS aD aN (.plain,.plain)) (wf w b b2) (Al ⟨6,fun q=>True⟩) (fun P=>P=R):=by
 subst hN
 have h:=UI (w:=w) (b:=b) (b2:=b2) inj R aI pL fr aS aD aN nd en ns.length 0 none G0 (by lia) qW .nil (fun q=>yj _) (by show 0+ns.length≤1000; lia)
 refine AK.toD h ?_ ?_
 ·rintro P rfl
  exact ⟨_,.refl _,A7 w.2 [] 0,P,⟨⟨fun q=>0,fun q=>0,fun q=>0⟩,[],rfl,.refl _⟩,.refl _⟩
 ·rintro e L ⟨rfl,z1,o',ho,D,Q,hQ,pm⟩
  have ho:o'.map (·.1)=some X:=ho.trans hX
  obtain ⟨⟨X',a⟩,rfl,rfl⟩:=xZ.mp ho
  exact ⟨(z1,D),fun q=>a,Q,hQ,rfl,pm⟩
end
def f9(P:zp)(aS aD aN:Nat)(D DA:zu):Spec:=
 ⟨.call (.ref 147) ⟨[.ref aS],[]⟩,[aS,aD,aN],[AE aD,AF P aN .none 0 0,A6 D],fun q=>.fin (.done (.ret .none)),fun A=>[AE aD,AF P aN (.ref (A 0)) 0 0,A6 D],fun q=>[A0 DA]⟩
theorem Spec.pP.reorder{S:Spec}{w:zt}{Sh:Pos→ze→Prop}{R R':Lp}(h:S.pP w Sh (fun P=>P=R) (fun P=>P=R))(p:R'.Perm R):S.pP w Sh (fun P=>P=R') (fun P=>P=R'):=by
 rintro P rfl
 refine ((h R rfl).qT (q8:=fun L=>L=S.pq++P) fun L e=>⟨_,rfl,e ▸ p.append_left _⟩).out ?_
 rintro e L ⟨A,P',rfl,sub,he,rfl⟩
 exact ⟨_,p.symm.append_left _,A,P,rfl,fun q m=>m,he,rfl⟩
variable{w b b2}
theorem XU{nm:zm}{G:GS}(inj:∀ a b,nm a=nm b→a=b)(qO:∀ c∈G.ord,∀ d∈G.sc c,d∈G.ord)(hs:G.ord.length < 20)(qf:G.ord≠[])(h:MG G.sc 30 G.ord []=true)(hn:∀ c,0≤G.np c){R0 R:Lp}{Ev:zi}(hE:AW Ev R0)(aS aD aN:Nat){D:zu}(hQ:QG w.2 nm R0 G D R) :
  (f9 w.2 aS aD aN D (VJ nm G)).PI w b b2 7 (Ax Ev zw) (fun P=>P=R):=by
 obtain ⟨A,M,rfl,pm⟩:=hQ
 obtain ⟨c0,rest,ho⟩:=yY qf
 exact (show (f9 w.2 aS aD aN (A7 w.2 (Ar nm A G.ord) G.ord.length) (VJ nm G)).pP _ _ _ _ from XW (w:=w) (b:=b) (b2:=b2) inj A qO hs (show 30 < 40 by decide) h ho hn (R:=M++R0) (hE.mono fun q m=>vt _ m) aS aD aN).reorder pm
structure H8(ns:za):Prop where
 ok:Me [] ns
 le:ns.length≤4
 ne:ns≠[]
 cy:MG (A3 G0 ns).sc 30 (A3 G0 ns).ord []=true
structure Gu(G:GS):Prop where
 cl:∀ c d,d∈G.sc c→d∈G.ord
 np:∀ c,0≤G.np c
theorem Gu.add{G:GS}(h:Gu G)(x:Nat)(l:zl):Gu (Co G x l):=by
 refine ⟨fun c d m=>?_,fun c=>?_⟩
 ·show d∈G.ord++[x]
  have m:d∈(if c=x then [] else if c∈l then G.sc c++[x] else G.sc c):=m
  split at m
  ·cases m
  ·split at m
   ·exact (wY.mp m).elim (fun m=>vq _ (h.cl c d m)) (fun m=>vt _ m)
   ·exact vq _ (h.cl c d m)
 ·show 0≤(if c=x then ((l.length:Nat):Int) else G.np c)
  split
  ·exact zJ _
  ·exact h.np c
theorem Gu.all:∀ (ns:za) {G:GS},Gu G→Gu (A3 G ns)
 | [],_,h=>h
 | q::ns,_,h=>Gu.all ns (h.add q.1 q.2)
theorem Yi:Gu G0:=⟨fun q q m=>(nomatch m),fun q=>Int.le_refl _⟩
theorem C4:∀ (ns:za) (G:GS),(A3 G ns).ord=G.ord++ns.map (·.1)
 | [],G=>(w9 _).symm
 | q::ns,G=>by
  show (A3 (Co G q.1 q.2) ns).ord=_
  rw [C4 ns]
  show (G.ord++[q.1])++_=_
  rw [vj]; rfl
theorem Li:∀ (ns:za) (o:zl),Me o ns→o.Nodup→(o++ns.map (·.1)).Nodup
 | [],o,_,h=>by rw [zD,w9]; exact h
 | q::ns,o,k,h=>by
  obtain ⟨hx,_,_,_,k⟩:=(show _∉_∧_ from k)
  have:=Li ns (o++[q.1]) k (x5.mpr ⟨h,wZ.mpr ⟨List.not_mem_nil,.nil⟩,fun a ha b hb e=>hx (by rw [xX] at hb; subst hb; subst e; exact ha)⟩)
  rwa [vj] at this
theorem H8.nd{ns:za}(h:H8 ns):(A3 G0 ns).ord.Nodup:=by
 rw [C4]; exact Li ns [] h.ok .nil
theorem H8.len{ns:za}(h:H8 ns):(A3 G0 ns).ord.length≤4:=by
 rw [C4]; exact vv (wx (vh _)) h.le
theorem av{nm:zm}{ns:za}(inj:∀ a b,nm a=nm b→a=b)(h:H8 ns){R0 R:Lp}{Ev:zi}(hE:AW Ev R0)(aS aD aN:Nat){D:zu}(hQ:QG w.2 nm R0 (A3 G0 ns) D R) :
  (f9 w.2 aS aD aN D (VJ nm (A3 G0 ns))).PI w b b2 7 (Ax Ev zw) (fun P=>P=R):=by
 have k:=Gu.all ns Yi
 refine XU inj (fun c q d m=>k.cl c d m) (by have:=h.len; lia) (fun e=>?_) h.cy k.np hE aS aD aN hQ
 rw [C4] at e
 exact h.ne (xa.mp e)
theorem QG.cons{P:zp}{nm:zm}{R:Lp}{G:GS}{D:zu}{L:Lp}(q:Nat×Obj)(h:QG P nm R G D L):QG P nm (q::R) G D (q::L):=by
 obtain ⟨A,M,hD,pm⟩:=h
 exact ⟨A,M,hD,(pm.cons q).trans (Dm [[q],G.ord.flatMap (Du nm G A),M,R] (.r [0,1,2] (.l 3)) (.r [1,2,0] (.l 3)) rfl)⟩
end
theorem oK(P:zp)(fr:Nat):DH (IX P fr):=by
 have h:(IX P fr).scope.kind=.function:=by kernel_rfl
 exact ⟨by rw [h]; decide,by kernel_rfl⟩
def mz(P:zp)(X:Str)(pL:Nat)(pX:zu):A8:=KJ (fun q=>none) [6,0,1,3,2,5] [true,true,false,false,false,true] [] (fun x=>cN P X pX (A4 x 6) pL (A4 x 1) (A4 x 3) (A4 x 2) (A4 x 5) (.plain,.plain)) (fun x=>cN P X pX (A4 x 6) pL (A4 x 1) (A4 x 3) (A4 x 2) (A4 x 5))
variable{w b b2}
theorem Xy{nm:zm}(inj:∀ a b,nm a=nm b→a=b){R:Lp}{ts:zl}{ns:za}(nd:F5 nm R ts ns)(hp:H8 ns){en pL:Nat}{pX:zu}(hN:pX=.seq ⟨ts.map .ref⟩ en){X:Str}(hX:CX nm ns none=some X){St:zc}:(mz w.2 X pL pX).qM pw (wf w b b2) (A5 w.2) ⟨5,St⟩ (fun P=>P=R) (fun u q P'=>QG w.2 nm R (A3 G0 ns) (eD (u.d 10)) P'):=
 (De (w:=wf w b b2) (F0:=fun x=>cN w.2 X pX (A4 x 6) pL (A4 x 1) (A4 x 3) (A4 x 2) (A4 x 5)) (O:=fun q z q P'=>QG w.2 nm R (A3 G0 ns) z.2 P') (fun q=>YT inj R _ _ _ _ _ _ nd en hN hp.ok (by have:=hp.le; lia) hX) (fun q q=>⟨rfl,rfl,rfl⟩) (fun q q q q q=>rfl) (CO (by rfl)) (by decide) (fun q=>⟨rfl,rfl,fun q q=>rfl⟩) (fun q q=>rfl)).mono (fun q h=>h) fun u x P' _ ⟨z,a,h⟩=>by
  have e:eD (u.d 10)=z.2:=a.2.2.1
  rw [e]; exact h
def mj(P:zp)(D DA:zu):A8:=Cm (fun x=>some [C0 (IX P (A4 x 1))]) [3,2,5,1] [false,false,true,false] [true] (fun x=>(f9 P (A4 x 3) (A4 x 2) (A4 x 5) D DA).own (A4 x 1) (B9 x 1))
theorem Xo{nm:zm}(inj:∀ a b,nm a=nm b→a=b){ns:za}(hp:H8 ns){R:Lp}{E:zi}(hE:AW E R){D:zu}:(mj w.2 D (VJ nm (A3 G0 ns))).qM pw (wf w b b2) (A5 w.2) ⟨5,Ax E zw⟩ (QG w.2 nm R (A3 G0 ns) D) (fun u q P'=>QG w.2 nm R (A3 G0 ns) (eD (u.d 4)) P'):=
 (A8.qM.all (I:=QG w.2 nm R (A3 G0 ns) D) (O:=fun R' q q P'=>P'=R') rfl fun R' hR=>Ab (w:=wf w b b2) (Sf:=fun x=>Al ⟨7,Ax (IX w.2 (A4 x 1)::E) zw⟩) (fun x=>Spec.qm (av inj hp (hE.cons (oK w.2 (A4 x 1)) rfl) _ _ _ (hR.cons (A4 x 1,Bp (B9 x 1)))) rfl (fun q=>rfl)) (BK (St:=⟨5,Ax E zw⟩) (n:=7) (Sf:=fun x=>Ax (IX w.2 (A4 x 1)::E) zw) (V:=fun x=>[C0 (IX w.2 (A4 x 1))]) (by rfl) fun x q c=>c.app (V:=[C0 (IX w.2 (A4 x 1))]) (E':=[IX w.2 (A4 x 1)]) (qe:=[]) rfl rfl) (by decide) (fun q=>⟨rfl,rfl,fun q=>rfl⟩) (fun q q=>rfl)).mono (fun q h=>h) fun u _ P' g ⟨R',hR,e⟩=>by subst e; rw [show eD (u.d 4)=D from g.1.1]; exact hR
def sb(P:zp)(pL:Nat)(ns:za)(X:Str)(pX pj DD DA:zu):Spec:=⟨.call (.ref 944) ⟨[.ref pL],[]⟩,[pL],[A0 pX],fun A=>.fin (.done (.ret (.ref (A 0)))),fun A=>[A0 pj],fun A=>[AE (A 1),AF P (A 2) (.ref (A 3)) 0 0,A6 DD,A0 DA]⟩
theorem XH(w:zt)(b b2:Bool)(pL:Nat)(ns:za)(X:Str)(pX pj DA:zu){nm:zm}(inj:∀ a b,nm a=nm b→a=b){R:Lp}{E:zi}(hE:AW E R){ts:zl}(nd:F5 nm R ts ns)(hp:H8 ns){en:Nat}(hN:pX=.seq ⟨ts.map .ref⟩ en)(hA:DA=VJ nm (A3 G0 ns))(eN:pj=pX)(hX:CX nm ns none=some X):Spec.pW (fun (DD:zu)=>sb w.2 pL ns X pX pj DD DA) (fun (DD:zu) A P'=>(True)∧(QG w.2 nm R (A3 G0 ns) DD) P') (sb w.2 pL ns X pX pj .plain DA) (wf w b b2) (Al (⟨5,Ax E zw⟩)) (fun P=>P=R):=Za (K0:=fun (DD:zu)=>QG w.2 nm R (A3 G0 ns) DD) _ (fun (DD:zu) A=>True) (fun D=>sb w.2 pL ns X (gD D 0) pj .plain DA) (fun D l=>sb w.2 pL ns X (gD D 0) (ud l 1 2) (ud l 0 4) (ud l 0 1)) (fun D=>[fun q=>mz w.2 X pL (gD D 0),fun l=>mj w.2 (ud l 0 10) DA]) 2 (fun D l=>[]) [3,2,5,7] [true] (hD 9 138 109999568714373022812394330595981735712059453562428903087051513033109873709069335017537275134051824615224049026140160034659938109356) 8 [0] 1 [pX] fun E0 ke=>.qA (Xy inj nd hp hN hX) fun u0 q g0=>.qA (by (try simp only [un,ud,CI]); rw [hA]; exact Xo (w:=w) (b:=b) (b2:=b2) inj hp hE) fun u1 q g1=>.nil fun P hP=>ke _ _ ⟨eD (u1.d 4),@id (eD (u0.d 2)=pj) ((let ⟨z,h⟩:=g0.1; h.2.1).trans eN.symm) ▸ @id (eD (u1.d 1)=DA) (g1.2.1) ▸ rfl,hP,fun q q=>trivial⟩
def Vu(P:zp)(pL:Nat)(pX:zu):Spec:=
 ⟨.call (.ref 944) ⟨[.ref pL],[]⟩,[pL],[A0 pX],fun A=>.fin (.done (.ret (.ref (A 0)))),fun q=>[A0 pX],fun A=>[AE (A 1),AF P (A 2) (.ref (A 3)) 0 0]⟩
def RN(P:zp)(nm:zm)(aN aR:Nat)(G:GS)(l:zl)(e:Nat)(L:Lp):Prop:=
 ∃ A M,L.Perm ([(aN,A6 (A7 P (Ar nm A G.ord) G.ord.length)),(aR,A0 (.seq ⟨AB nm l⟩ e))]++(G.ord.flatMap (Du nm G A)++M))
theorem RN.rg{P:zp}{nm:zm}{aN aR:Nat}{G:GS}{l:zl}{e:Nat}{L R K:Lp}(h:RN P nm aN aR G l e L)(p:K.Perm (R++L)):RG P nm aN aR R G l e K:=by
 obtain ⟨A,M,pm⟩:=h
 exact ⟨A,M,p.trans ((pm.append_left R).trans (Dm [R,[(aN,_)],[(aR,_)],_,M] (.a (.l 0) (.a (.q [1,2]) (.a (.l 3) (.l 4)))) (.a (.q [1,2]) (.a (.l 3) (.a (.l 4) (.l 0)))) rfl))⟩
theorem RG.rn{P:zp}{nm:zm}{aN aR:Nat}{G:GS}{l:zl}{e:Nat}{R K:Lp}(h:RG P nm aN aR R G l e K):∃ L,RN P nm aN aR G l e L∧K.Perm (R++L):=by
 obtain ⟨A,M,pm⟩:=h
 exact ⟨_,⟨A,M,.refl _⟩,pm.trans (Dm [R,[(aN,_)],[(aR,_)],_,M] (.a (.q [1,2]) (.a (.l 3) (.a (.l 4) (.l 0)))) (.a (.l 0) (.a (.q [1,2]) (.a (.l 3) (.l 4)))) rfl)⟩
theorem Spec.r5{Z:Type}{F:Z→Spec}{N:Z→(Nat→Nat)→Lp→Prop}{S:Spec}{w:zt}{Sh:Pos→ze→Prop}{R:Lp}{f:Nat}{D:zu}(h:Spec.pW F (fun z A P'=>∃ L,N z A L∧P'.Perm (((f,Bp D)::R)++L)) S w Sh (fun P=>P=(f,Bp D)::R))(l1:S.ad.length=S.pre.length)(l2:∀ z A,((F z).ch A).length=(F z).ad.length):Spec.pW (fun z=>(F z).own f D) (fun z A P'=>∃ L,N z A L∧P'.Perm (R++L)) (S.own f D) w Sh (fun P=>P=R):=by
 rintro P rfl
 have z:=h _ rfl
 have e1:(S.own f D).pq++P=S.pq++(f,Bp D)::P:=by
  show (S.ad++[f]).zip (S.pre++[Bp D])++P=_
  rw [wi l1,vj]; rfl
 refine (z.pU (q8:=fun L=>L=(S.own f D).pq++P) (fun L hL=>hL.trans e1) (fun q q h=>h)).qd ?_
 rintro e' L ⟨zz,A,P',⟨L1,hN,pm⟩,sub,he,rfl⟩
 refine ⟨((F zz).own f D).pV A++(P++L1),?_,⟨zz,A,P++L1,⟨L1,hN,.refl _⟩,fun q m=>by rw [vl]; exact vq _ m,he,rfl⟩⟩
 refine (pm.append_left _).trans ?_
 show ((F zz).pV A++((f,Bp D)::P++L1)).Perm ((((F zz).ad++[f]).zip ((F zz).ch A++[Bp D])++_)++(P++L1))
 rw [wi (l2 zz A).symm]
 unfold Spec.pV
 rw [vj,vj,vj]
 exact vy _ wV
theorem F5.cons{nm:zm}{R:Lp}{ts:zl}{ns:za}(h:F5 nm R ts ns)(q:Nat×Obj):F5 nm (q::R) ts ns:=
 ⟨h.len,fun i t c ys h1 h2=>let ⟨a,e,rest,p⟩:=h.pk i t c ys h1 h2; ⟨a,e,q::rest,(p.cons q).trans (Dm [[q],[(t,_)],[(a,_)],rest] (.r [0,1,2] (.l 3)) (.r [1,2,0] (.l 3)) rfl)⟩⟩
theorem Ni{nm:zm}(inj:∀ a b,nm a=nm b→a=b){R:Lp}{E:zi}(hE:AW E R){ts:zl}{ns:za}(nd:F5 nm R ts ns)(hp:H8 ns){en pL:Nat}{pX:zu}(hN:pX=.seq ⟨ts.map .ref⟩ en){X:Str}(hX:CX nm ns none=some X) :
  Spec.pW (fun _:Unit=>Vu w.2 pL pX) (fun q A P'=>∃ L,RN w.2 nm (A 2) (A 3) (A3 G0 ns) (AM (A3 G0 ns) (A3 G0 ns).ord) (AM (A3 G0 ns) (A3 G0 ns).ord).length L∧P'.Perm (R++L)) (Vu w.2 pL pX) (wf w b b2) (Al ⟨5,Ax E zw⟩) (fun P=>P=R):=by
 rintro P rfl
 refine (XH w b b2 pL ns X pX pX (VJ nm (A3 G0 ns)) inj hE nd hp hN rfl rfl hX P rfl).qd ?_
 rintro e L ⟨D,A,P',⟨_,A1,M,rfl,pm⟩,sub,he,rfl⟩
 refine ⟨_,.of_eq rfl,⟨(),A,[(A 2,A6 (A7 w.2 (Ar nm A1 (A3 G0 ns).ord) (A3 G0 ns).ord.length)),(A 3,A0 (VJ nm (A3 G0 ns)))]++P',RG.rn ⟨A1,M,vy _ pm⟩,fun a m=>by rw [vl]; exact vt _ (sub a m),he,rfl⟩⟩
end
section
open PySem PySem.W PySem.W.X PyProof.Rows
noncomputable def mW(x:Str):zq→Bool
 | .str s _=>s.cps.toList==x.cps.toList
 | _=>false
theorem PC{w:zt}{D:zu}{ss:zj}{n:Nat}{x:Str}{b:Bool}(a:Nat)(hD:D=.seq ⟨AN ss⟩ n)(hb:decide (x∈ss)=b):Vd w (.builtin "list.__contains__") [.ref a,.str x 0] a (A0 D) (.bool b):=by
 subst hD
 intro ps A s P o ha H ho hO Q E hq
 obtain ⟨tk,rfl⟩:=D8 ha
 obtain ⟨xs,rfl,hx⟩:=Ai hO
 have hm:∀ y∈xs.toList,∃ s' t,y=.str s' t∧s'∈ss:=by
  intro y hy
  have:eV y∈AN ss:=hx ▸ vo hy
  obtain ⟨s',qy,e⟩:=wC.mp this
  obtain ⟨t,rfl⟩:=AX e.symm
  exact ⟨s',t,rfl,qy⟩
 refine yR F.slot_list_contains ⟨_,ho,rfl⟩ F.entry_list_contains (F.args_list_contains_2 _ _) (PySem.MeetsSeq.list_contains a xs n (.str x tk) (mW x) ?_) ⟨ho,?_⟩
 ·intro y hy
  obtain ⟨s',t,rfl,_⟩:=hm y (z5.mpr hy)
  exact PySem.SeqRoads2.EqGives.str s' x t tk
 ·have e:xs.any (mW x)=b:=by
   rw [← hb]
   cases h:decide (x∈ss) with
   | true=>
    have hmem:x∈ss:=x7 h
    have:Value.str x 0∈AN ss:=vo hmem
    rw [← hx] at this
    obtain ⟨y,hy,ey⟩:=wC.mp this
    obtain ⟨t,rfl⟩:=AX ey
    rw [Array.any_eq_true']
    exact ⟨_,z5.mp hy,yy x.cps.toList⟩
   | false=>
    have hmem:x∉ss:=of_decide_eq_false h
    rw [Bool.eq_false_iff]
    intro hh
    rw [Array.any_eq_true'] at hh
    obtain ⟨y,hy,ey⟩:=hh
    obtain ⟨s',t,rfl,qy⟩:=hm y (z5.mpr hy)
    have ey:(s'.cps.toList==x.cps.toList)=true:=ey
    have:s'=x:=by
     obtain ⟨⟨l⟩⟩:=s'; obtain ⟨⟨l2⟩⟩:=x
     have:l=l2:=by simpa using ey
     rw [this]
    exact hmem (this ▸ qy)
  rw [e]
  exact hq _ s.toks rfl
def OS(m:Nat)(D:zu)(x:Str)(b:Bool):A8:=I8 (.builtin "list.__contains__") (fun a=>[.ref a,.str x 0]) m (A0 D) (.bool b)
theorem JG{w:zt}{m:Nat}{D:zu}{ss:zj}{n:Nat}{x:Str}{b:Bool}(hD:D=.seq ⟨AN ss⟩ n)(hb:decide (x∈ss)=b):(OS m D x b).Ok pw w (A5 w.2):=CA fun a=>PC a hD hb
theorem PB{w:zt}{D:zu}{vs:zf}{n:Nat}{v:zq}{i:Int}(a:Nat)(hD:D=.seq ⟨vs⟩ n)(h0:0≤i)(hi:vs[i.toNat]?=some v)(hs:vs.length < 5000):Vd w (.builtin "list.__getitem__") [.ref a,.int i 0] a (A0 D) v:=by
 subst hD
 intro ps A s P o ha H ho hO Q E hq
 obtain ⟨u,y,rfl,e1,e2⟩:=EO ha
 obtain rfl:=B3 e1
 obtain ⟨t,rfl⟩:=E4 e2
 obtain ⟨xs,rfl,hx⟩:=Ai hO
 have hl:=AY hx
 obtain ⟨z,hz,ez⟩:=Cx hx hi
 have hk:i.toNat < xs.size:=by
  have:=(wA.mp hi).1
  rw [hl]; exact this
 have h5:i < 5000:=by lia
 refine wF slot_list_getitem ⟨_,ho,rfl⟩ zL ?_ (args_list_getitem _ _)
 show wpAny _ _ (Builtin.List.listSubscript? (.int i t)>>=_) _ _ s
 refine vi (wpAny_listSubscript_int (fitsIndex_of h0 (Int.lt_trans h5 (by decide))) ?_)
 clear h5 hk
 obtain ⟨k,rfl⟩:=yk h0
 have hz:xs[k]?=some z:=hz
 show wpAny _ _ ((seqItemAt a k>>=fun r=>pure (r.map (k,·)))>>=_) _ _ s
 refine vi (vi (wpAny_seqItemAt ho rfl (vx ?_)))
 rw [hz]
 exact vx ⟨z,rfl,hq z s.toks ez⟩
def TV(m:Nat)(D:zu)(i:Int)(v:zq):A8:=I8 (.builtin "list.__getitem__") (fun a=>[.ref a,.int i 0]) m (A0 D) v
theorem IC{w:zt}{D:zu}{vs:zf}{n m:Nat}{v:zq}{i:Int}(hD:D=.seq ⟨vs⟩ n)(h0:0≤i)(hi:vs[i.toNat]?=some v)(hs:vs.length < 5000):(TV m D i v).Ok pw w (A5 w.2):=CA fun a=>PB a hD h0 hi hs
section
theorem HQ{w:zt}{C:SX→Code}{tr:zl}{pre:SX→List (Option (Nat×Obj))}{fl:Bool}{O':SX→Obj}{φ:SX→zu→Prop}
  (h:∀ c X,eC c=C X→tr.map (fun j=>eP (X.T.get j))=pre X→∃ f vs,c=.call f ⟨vs,[]⟩∧∀ A s,BR (A5 w.2) s X→∀ Q E,(∀ a h' o',(∀ b o,s.heap.get? b=some o→h'.get? b=some o)→s.heap.objs.size≤a→h'.get? a=some o'→(fl=true→φ X (eD o'.data))→eO o'=(bif fl then { O' X with data:=eD o'.data } else O' X)→Q (.ref a) { s with heap:=h' })→wpAny (model pw w) A (call f vs) Q E s):(HR C tr pre fl O' φ).Ok pw w (A5 w.2):=by
 refine ⟨rfl,?_⟩
 intro c X s k g l cd pc rest hc hp qW D _
 obtain ⟨f,vs,rfl,hw⟩:=h c X hc hp
 refine CQ (c:=.call f ⟨vs,[]⟩) (k:=k) (g:=g) (l:=l) (pc:=pc) (hw (QD cd rest) s D (fun v s'=>∃ a h' o',v=.ref a∧s' = { s with heap:=h' }∧(∀ b o,s.heap.get? b=some o→h'.get? b=some o)∧s.heap.objs.size≤a∧h'.get? a=some o'∧(fl=true→φ X (eD o'.data))∧eO o'=(bif fl then { O' X with data:=eD o'.data } else O' X)) (fun q q=>False) fun a h' o' p1 p2 p3 p4 p5=>⟨a,h',o',rfl,rfl,p1,p2,p3,p4,p5⟩) (fun v s' qF pos' hr go=>?_) (fun q q q q h=>h.elim)
 obtain ⟨a,h',o',rfl,rfl,old,ha,ho,hφ,hO⟩:=hr
 have G:BX s { s with heap:=h' }:=⟨Go.life go,old,rfl,rfl,rfl⟩
 obtain ⟨q1,hq1⟩:=BY o'
 rw [hO] at hq1
 let u:U:=⟨fun j i=>if j=0 then (if i=0 then h'.objs.size else if i=1 then s.toks else a) else q1.1 i,fun q=>o'.data,fun q=>q1.2⟩
 have hdr:Aw u fl (O' X)=o':=Gi fl hq1 rfl
 have hok2:((X.T.ins X.m a (Aw u fl (O' X))).get X.m).isSome=true:=qW u
 rw [hdr] at hok2
 obtain ⟨D2,X2,K2⟩:=LN D G go.size ha ho hok2
 refine ⟨u,{ s with heap:=h' },go.trans B',?_,?_,?_,hφ⟩
 ·show BR _ _ ⟨X.T.ins X.m a (Aw u fl (O' X)),X.m+1,h'.objs.size,0,X.gens,X.drawn,s.toks,0,X.os⟩
  rw [hdr]; exact D2
 ·show BS X ⟨X.T.ins X.m a (Aw u fl (O' X)),X.m+1,h'.objs.size,0,X.gens,X.drawn,s.toks,0,X.os⟩
  rw [hdr]; exact X2
 ·show AH ⟨X.T.ins X.m a (Aw u fl (O' X)),X.m+1,h'.objs.size,0,X.gens,X.drawn,s.toks,0,X.os⟩ _ _
  rw [hdr]; exact K2
section
variable{w:zt}{D D2 D':zu}{vs ws:zf}{n n2:Nat}
def bj(m:Nat)(D:zu)(vs:zf):A8:=HR (fun x=>.call (.type "list") ⟨[.ref (A4 x m)],[]⟩) [m] (fun x=>[some (A4 x m,AG D)]) true (fun q=>A0 .plain) (fun q d=>∃ e,d=.seq ⟨vs⟩ e)
theorem TP{m:Nat}(hD:D=.seq ⟨vs⟩ n)(hs:vs.length≤sizeLine):(bj m D vs).Ok pw w (A5 w.2):=HQ fun c x hc hp=>by
 subst hD
 obtain rfl:=Z9 hc
 obtain ⟨o1,h1,hO1⟩:=Am (wB hp).1
 obtain ⟨xs,rfl,hx⟩:=Cd hO1
 refine ⟨_,_,rfl,fun A s D Q E hq=>?_⟩
 refine PySem.call_list_seq (A4 x m) (.inr rfl) (D.own _ _ _ h1) rfl rfl (fun h' c' old ho=>hq _ _ _ old (vp _) ho (fun q=>⟨c',?_⟩) rfl) (by rw [AY hx]; exact hs)
 show Data.seq ⟨xs.toList.map eV⟩ c'=_
 rw [hx]
def JX(vs ws:zf)(n:Nat):Nat:=if vs.length+ws.length==vs.length then n else n+1
def bp(m j:Nat)(D D2 D':zu):A8:=Sq (fun x=>.call (.builtin "list.extend") ⟨[.ref (A4 x m),.ref (A4 x j)],[]⟩) [m,j] (fun x=>[some (A4 x m,A0 D),some (A4 x j,AG D2)]) m true (fun q=>A0 D') .none
theorem TR{m j:Nat}(hD:D=.seq ⟨vs⟩ n)(rj:D2=.seq ⟨ws⟩ n2)(qU:D'=.seq ⟨vs++ws⟩ (JX vs ws n))(hs:vs.length+ws.length≤sizeLine):(bp m j D D2 D').Ok pw w (A5 w.2):=I1 fun c X hc hp o ho=>by
 subst hD rj qU
 obtain rfl:=Px hc
 obtain ⟨p1,p2⟩:=MX hp
 obtain ⟨o1,h1,hO1⟩:=Am p1
 obtain ⟨o2,h2,ri⟩:=Am p2
 rw [ho] at h1
 simp only [wu,xd,true_and] at h1
 subst h1
 obtain ⟨xs,rfl,hx⟩:=Ai hO1
 obtain ⟨ys,rfl,hy⟩:=Cd ri
 have z:xs.size+ys.size≤sizeLine:=by rw [AY hx,AY hy]; exact hs
 refine ⟨_,_,rfl,fun A s R Q E hq=>?_⟩
 refine yR F.slot_list_extend ⟨_,R.own _ _ _ ho,rfl⟩ F.entry_list_extend (F.args_list_extend_2 _ _) (AutoSeq1.list_extend_list_tuple_0 (A4 X m) xs n (A4 X j) ys n2 (extend_door z) (vv (xo _ _) z) (xj z)) ⟨R.own _ _ _ ho,R.own _ _ _ h2,?_⟩
 have e0:(if (xs++ys).size==xs.size then n else n+1)=JX vs ws n:=by unfold JX; rw [Array.size_append,AY hx,AY hy]
 refine hq _ s.toks (Obj.mapSeq fun x=>x++ys) { cls:=.type "list",dict:=none,data:=.seq (xs++ys) (JX vs ws n),slots:=#[] } rfl (by rw [← e0]; rfl) ?_ rfl
 show eO _=A0 (.seq ⟨vs++ws⟩ (JX vs ws n))
 have:((xs++ys).toList).map eV=vs++ws:=by rw [← hx,← hy]; simp
 rw [← this]; rfl
end
theorem Fz:∀ {xs:zf} {ss:zj},xs.map eV=AN ss→StrsAre xs ss
 | [],[],_=>.nil
 | x::xs,y::ss,h=>by
  obtain ⟨h1,h2⟩:=wB h
  obtain ⟨t,rfl⟩:=AX h1
  exact .cons y t (Fz h2)
 | [],_::_,h=>by cases h
 | _::_,[],h=>by cases h
theorem Jw:∀ {xs:zf} {ss:zj},StrsAre xs ss→xs.map eV=AN ss
 | _,_,.nil=>rfl
 | _,_,.cons x t r=>Gk rfl (Jw r)
def OH(m:Nat)(D:zu)(ss:zj):A8:=HR (fun x=>.call (.builtin "sorted") ⟨[.ref (A4 x m)],[]⟩) [m] (fun x=>[some (A4 x m,A0 D)]) true (fun q=>A0 .plain) (fun q d=>∃ e,d=.seq ⟨AN ss⟩ e)
theorem Fl{w:zt}{m:Nat}{D:zu}{n:Nat}{ss qD:zj}(hD:D=.seq ⟨AN ss⟩ n)(hs:ss.length < 64)(h:∀ qG:zj,qG.Perm ss→sortedS qG=true→qG=qD):(OH m D qD).Ok pw w (A5 w.2):=HQ fun c x hc hp=>by
 subst hD
 obtain rfl:=Z9 hc
 obtain ⟨o1,h1,hO1⟩:=Am (wB hp).1
 obtain ⟨xs,rfl,hx⟩:=Ai hO1
 refine ⟨_,_,rfl,fun A s D Q E hq=>?_⟩
 refine sorted_strs (l:=A4 x m) (vs:=xs.toList) ⟨_,D.own _ _ _ h1,rfl,n,rfl⟩ (Fz hx) (by have:=vm List.length hx; simp only [AN,vh] at this; exact this ▸ hs) fun out qG a1 a2 a3=>?_
 obtain ⟨e,he⟩:=sortedAll_at s.heap xs.toList out
 obtain rfl:=h qG a2 a3
 refine hq _ _ _ (fun b o hb=>sortedAll_old hb) (y7 _) he (fun q=>⟨e,?_⟩) rfl
 show Data.seq ⟨out.toList.map eV⟩ e=_
 rw [Jw a1]
theorem EM{α β:Type}{f:α→β}{g:α→α}{k:β→β}(h:∀ a,f (g a)=k (f a)):∀ (l:List α) (i:Nat),(l.modify i g).map f=(l.map f).modify i k
 | [],i=>by cases i<;>rfl
 | a::l,0=>by show f (g a)::_=k (f a)::_; rw [h]
 | a::l,i+1=>by
  show f a::(l.modify i g).map f=f a::(l.map f).modify i k
  rw [EM h l i]
theorem Q0{w:zt}{D D':zu}{N:List (Str×zq)}{n i:Nat}{x:Str}{v:zq}{I:zd}(a:Nat)(hD:D=A7 w.2 N n)(hx:N.findIdx? (fun q=>q.1==x)=some i)(qU:D'=A7 w.2 (N.modify i fun q=>(q.1,v)) n):(C3 (.call (.builtin "dict.__setitem__") ⟨[.ref a,.str x 0,v],[]⟩) a (A6 D) (A6 D') .none).pP w Eh I I:=by
 subst hD qU
 refine MK (as:=fun a=>[.ref a,.str x 0,v]) fun vs A s P o ha H ho hO Q E hq=>?_
 cases vs with
 | nil=>cases ha
 | cons u vs=>
 simp only [vu,wh] at ha
 obtain ⟨e1,ha⟩:=ha
 obtain ⟨y,z,rfl,e2,e3⟩:=EO ha
 obtain rfl:=B3 e1
 obtain ⟨t,rfl⟩:=AX e2
 obtain ⟨es,rfl,he⟩:=BQ hO
 refine wF slot_dict_setitem ⟨_,ho,rfl⟩ entry_dict_setitem ?_ (args_dict_setitem _ _ _)
 show wpAny _ _ (Builtin.Dict.notOrdered "__setitem__" ⟨[.ref a,.str x t,z],[]⟩>>=_) _ _ s
 refine vi (y4 ⟨_,ho,rfl⟩ ?_)
 show wpAny _ _ (dictSet a (.str x t) z>>=_) _ _ s
 refine vi ?_
 unfold dictSet
 refine xn (vi (yx ?_))
 unfold dictSetHashed
 refine xn (vi (yW (s:={ s with toks:=s.toks+1 }) ho rfl (by have:=BJ he; obtain ⟨l⟩:=es; simpa using this) ?_))
 have ei:(es.findIdx? fun e=>e.key.isStr x)=some i:=by
  obtain ⟨l⟩:=es
  simp only [yN]
  exact (EX x (l:=l) he).trans hx
 rw [ei]
 refine vi (wpAny_rule (vi (wpAny_updateDict (s:={ s with toks:=s.toks+1 }) (f:=fun es=>es.modify i fun e=>{ e with val:=z }) ho rfl (wpAny_point ?_) (by show (es.modify i _).size≤es.size; rw [Array.size_modify]; exact vp _))))
 refine vx ⟨.none,rfl,hq .none (s.toks+1) _ _ rfl rfl ?_ rfl⟩
 show eO { cls:=.type "dict",dict:=none,data:=.dict (es.modify i fun e=>{ e with val:=z }) n,slots:=#[] } = _
 have:(es.modify i fun e=>{ e with val:=z }).toList.map CN=(N.modify i fun q=>(q.1,v)).map (Cn w.2):=by
  rw [Array.toList_modify,EM (k:=fun e:DictEntry=>{ e with val:=v }) (fun e=>by simp only [CN,e3]),he,EM (k:=fun e:DictEntry=>{ e with val:=v }) (fun q=>rfl)]
 unfold A6 A7
 rw [← this]
 rfl
def bN(m:Nat)(D D':zu)(x:Str)(v:zq):A8:=Tg (fun a=>.call (.builtin "dict.__setitem__") ⟨[.ref a,.str x 0,v],[]⟩) m (A6 D) (A6 D') .none
theorem Sy{w:zt}{St:Tl}{m i:Nat}{I:zd}{D D':zu}{N:List (Str×zq)}{n:Nat}{x:Str}{v:zq}(hD:D=A7 w.2 N n)(hx:N.findIdx? (fun q=>q.1==x)=some i)(qU:D'=A7 w.2 (N.modify i fun q=>(q.1,v)) n):(bN m D D' x v).qB pw w (A5 w.2) St I I:=Lh fun a=>Q0 a hD hx qU
end
end
section
open PySem PySem.W PySem.W.X
def NK(P:zp):Stmt:=(CM (EW (Tj P))).getD 2 (.Pass default)
def M6(P:zp)(fr aC:Nat):Env:={ Br P 949 Tj fr with cells:=[(Str.ofString "order",aC)] }
def Wq(P:zp)(aI fr aC:Nat):Code:=.forLoop (IV (NK P)) (.ref aI) (EU (NK P)) (IW (NK P)) (M6 P fr aC)
def ZW(P:zp)(pL aS aG:Nat):Option Str→Obj
 | none=>Bp (.dict ⟨[kE P "needs" (.ref pL),kE P "sorter" (.ref aS),kE P "given" (.ref aG)]⟩ 3)
 | some X=>Bp (.dict ⟨[kE P "needs" (.ref pL),kE P "sorter" (.ref aS),kE P "given" (.ref aG),kE P "name" (.str X 0)]⟩ 4)
def nD(P:zp)(X:Str)(aS aD aN aR:Nat)(po nf:Int)(tr:zl):A8:=BU tr [] [] (fun q=>dH P X aS aD aN aR po nf (nf+1))
variable{w:zt}{b b2:Bool}
theorem YB{X:Str}{aS aD aN aR:Nat}{po nf:Int}{tr:zl}{I O:zd}{St:Tl}(h:(dH w.2 X aS aD aN aR po nf (nf+1)).PO w b b2 7 (fun q=>True) I O)(nd:tr.Nodup)(hl:tr.length=2)(hn:Nat.ble (St.l+1) 7=true):(nD w.2 X aS aD aN aR po nf tr).qB pw (wf w b b2) (A5 w.2) St I O:=
 AL (w:=wf w b b2) (fun q=>h) nd (fun q=>⟨hl.symm,hl.symm,fun q=>hl.symm⟩) (fun q q=>rfl) hn
def fK(P:zp)(aS aD aN aR:Nat)(po qN nf:Int)(DG:zu)(tr:zl):A8:=BU tr [] [true] (fun q=>Uq P aS aD aN aR po qN nf DG)
theorem KV{aS aD aN aR:Nat}{po qN nf:Int}{DG:zu}{tr:zl}{I O:zd}{St:Tl}(h:(Uq w.2 aS aD aN aR po qN nf DG).PO w b b2 7 (fun q=>True) I O)(nd:tr.Nodup)(hl:tr.length=2)(hn:Nat.ble (St.l+1) 7=true):(fK w.2 aS aD aN aR po qN nf DG tr).qB pw (wf w b b2) (A5 w.2) St I O:=
 AL (w:=wf w b b2) (fun q=>h) nd (fun q=>⟨hl.symm,hl.symm,fun q=>hl.symm⟩) (fun q q=>rfl) hn
def kW(P:zp):Expr:=au ((CM (EW (Tj P))).getD 3 (.Pass default))
def d0(P:zp)(aK aC fr:Nat):Env:={ scope:=G9 (Nm (kW P)),locals:=aK,globals:=3,cells:=[(Str.ofString "order",aC)],qual:=Str.ofString "_law_waiting.<locals>.",func:=none,code:=.ref 948,frame:=some fr,builtins:=0 }
def EP(P:zp)(aI aA aK aC fr:Nat):Code:=.compLoop (kW P) 0 (.ref aI) (.ref aA) (d0 P aK aC fr)
def Nd(P:zp)(aI aA aK aC fr:Nat):Code:=.compStart (kW P) 0 (.ref aI) (.ref aA) (d0 P aK aC fr)
def QW(P:zp):Option Str→Obj
 | none=>BE [] 0
 | some X=>BE [kE P "name" (.str X 0)] 1
noncomputable def B0(a:Nat):Obj:={ cls:=.type "cell",data:=.cell (some (.ref a)) }
def gK(P:zp)(aI aO fr aS aD aG:Nat)(o:Option Str)(aC pL aN aR i:Nat)(X:Str)(po qN nf:Int)(DO DL DG qk:zu):Spec:=⟨Wq P aI fr aC,[aI,aO,fr,aS,aD,aG],[AV aO i,A0 DO,ZW P pL aS aG o,AE aD,AF P aN (.ref aR) po nf,A0 DL],fun A=>.fin (.again (Wq P aI fr aC)),fun A=>[AV aO ((i:Int)+1),A0 DO,ZW P pL aS aG (some X),AE aD,AF P aN (.ref aR) qN (nf+1),A0 qk],fun A=>[]⟩
variable{St:zc}(w b b2)
theorem Qv(aI aO fr aS aD aG:Nat)(o:Option Str)(aC pL aN aR i:Nat)(X:Str)(po qN nf:Int)(DO DL DG qk:zu){I J K:zd}(os:zf)(eo:Nat)(hO:DO=.seq ⟨os⟩ eo)(hi:os[i]?=some (.str X 0))(gs ws:zf)(eg ew:Nat)(hL:DL=.seq ⟨gs⟩ eg)(hG:DG=.seq ⟨ws⟩ ew)(sk:qk=.seq ⟨gs++ws⟩ (JX gs ws eg))(hs:gs.length+ws.length≤1000)(uy:(dH w.2 X aS aD aN aR po nf (nf+1)).PO w b b2 7 (fun y=>True) I J)(sU:(Uq w.2 aS aD aN aR po qN (nf+1) DG).PO w b b2 7 (fun y=>True) J K):(gK w.2 aI aO fr aS aD aG o aC pL aN aR i X po qN nf DO DL DG qk).PO w b b2 5 St I K:=by
 refine Ae (Cs.oo o ⟨#[]⟩) (fun z D=>gK w.2 aI aO fr aS aD aG z aC pL aN aR i X po qN nf (gD D 0) (gD D 1) DG qk) (fun z D l=>gK w.2 aI aO fr aS aD aG z aC pL aN aR i X po qN nf (gD D 0) (gD D 1) (ud l 1 1) (ud l 0 0)) (fun z D=>[fun y=>Au 0 1 i (gD D 0) (.str X 0),fun y=>nD w.2 X aS aD aN aR po nf [3,4],fun y=>fK w.2 aS aD aN aR po qN (nf+1) DG [3,4],fun l=>bp 5 6 (gD D 1) (ud l 0 1) qk]) 4 (fun z=>[]) [false,true,false,false,false,true] (hD 8 43 58486194113438045999673035056039872217) 0 [0,0,0] 0 [DO,DL] (fun E0 ke=>?_)
 refine .q (AQ hO hi) fun y y y=>.cons (YB uy (by decide) rfl (by rfl)) fun y y y=>.cons (KV sU (by decide) rfl (by rfl)) fun u2 y g2=>?_
 obtain rfl:eD (u2.d 1)=DG:=g2.2.1
 exact .q ((TR hL hG sk (by have:=AD; lia))) fun u3 y g3=>.pO ke (@id (eD (u3.d 0)=qk) (g3 rfl) ▸ rfl)
def gM(P:zp)(aI aO:Nat)(fr aC i:Nat)(DL pz:zu):Spec:=⟨Wq P aI fr aC,[aI,aO],[AV aO i,A0 DL],fun A=>.fin (.done .next),fun A=>[Bn i,A0 pz],fun A=>[]⟩
theorem Qw(aI aO:Nat)(fr aC i:Nat)(DL pz:zu)(vs:zf)(e:Nat)(hL:DL=.seq ⟨vs⟩ e)(hi:vs.length≤i)(eL:pz=DL)(I:zd):(gM w.2 aI aO fr aC i DL pz).PI w b b2 5 St I:=Bu (fun D=>gM w.2 aI aO fr aC i (gD D 0) pz) (fun D l=>gM w.2 aI aO fr aC i (gD D 0) (ud l 0 2)) (fun D=>(Ag [BM "list_iterator.__next__" 0 1 (fun X=>AV (A4 X 1) i) (Bn i) (A0 (gD D 0))])) 1 [] [false,true] [1,4] 0 [] 1 [DL] fun E0 ke=>.cons (Ay (by decide) hL hi) fun u0 q g0=>.pO ke (@id (eD (u0.d 2)=pz) (g0.1.1.trans eL.symm) ▸ rfl)
def gJ(P:zp)(aI aG aA aK aC:Nat)(fr aO:Nat)(DG DA:zu):Spec:=⟨Nd P aI aA aK aC fr,[aI,aG,aA,aK,aC],[AV aG 0,A0 DG,A0 DA,QW P none,B0 aO],fun A=>.fin (.again (EP P aI aA aK aC fr)),fun A=>[AV aG 0,A0 DG,A0 DA,QW P none,B0 aO],fun A=>[]⟩
theorem Ql(aI aG aA aK aC:Nat)(fr aO:Nat)(DG DA:zu)(I:zd):(gJ w.2 aI aG aA aK aC fr aO DG DA).PI w b b2 5 St I:=G8 (fun D=>gJ w.2 aI aG aA aK aC fr aO (gD D 0) (gD D 1)) (fun D l=>gJ w.2 aI aG aA aK aC fr aO (gD D 0) (gD D 1)) (fun D=>(Ag [])) 0 [] [false,true,true,false,false] (fun b2=>bif b2 then [] else [1,1,1,1]) (fun q=>1000000) (fun q=>[]) 0 [DG,DA] fun E0 ke=>.pO ke rfl
def gG(P:zp)(aI aG aA aK aC aO:Nat)(fr i:Nat)(o:Option Str)(X:Str)(DG DA DO:zu):Spec:=⟨EP P aI aA aK aC fr,[aI,aG,aA,aK,aC,aO],[AV aG i,A0 DG,A0 DA,QW P o,B0 aO,A0 DO],fun A=>.fin (.again (EP P aI aA aK aC fr)),fun A=>[AV aG ((i:Int)+1),A0 DG,A0 DA,QW P (some X),B0 aO,A0 DO],fun A=>[]⟩
theorem Qi(aI aG aA aK aC aO:Nat)(fr i:Nat)(o:Option Str)(X:Str)(DG DA DO:zu)(gs:zf)(eg:Nat)(hG:DG=.seq ⟨gs⟩ eg)(hi:gs[i]?=some (.str X 0))(ss:zj)(eo:Nat)(hO:DO=.seq ⟨AN ss⟩ eo)(hX:X∈ss)(I:zd):(gG w.2 aI aG aA aK aC aO fr i o X DG DA DO).PI w b b2 5 St I:=Ae (Cs.oo o ⟨#[]⟩) (fun z D=>gG w.2 aI aG aA aK aC aO fr i z X (gD D 0) (gD D 1) (gD D 2)) (fun z D l=>gG w.2 aI aG aA aK aC aO fr i z X (gD D 0) (gD D 1) (gD D 2)) (fun z D=>(Ag [Au 0 1 i (gD D 0) (.str X 0),OS 5 (gD D 2) X true])) 2 (fun z=>[]) [false,true,true,false,false,true] [1,4,4,4,5,6,6] 0 [0] 0 [DG,DA,DO] fun E0 ke=>.q (AQ hG hi) fun y y y=>.q (JG hO (by simpa using hX)) fun y y y=>.pO ke rfl
def gH(P:zp)(aI aG aA aK aC aO:Nat)(fr i:Nat)(o:Option Str)(X:Str)(DG DA qC DO:zu):Spec:=⟨EP P aI aA aK aC fr,[aI,aG,aA,aK,aC,aO],[AV aG i,A0 DG,A0 DA,QW P o,B0 aO,A0 DO],fun A=>.fin (.again (EP P aI aA aK aC fr)),fun A=>[AV aG ((i:Int)+1),A0 DG,A0 qC,QW P (some X),B0 aO,A0 DO],fun A=>[]⟩
theorem Qj(aI aG aA aK aC aO:Nat)(fr i:Nat)(o:Option Str)(X:Str)(DG DA qC DO:zu)(gs:zf)(eg:Nat)(hG:DG=.seq ⟨gs⟩ eg)(hi:gs[i]?=some (.str X 0))(ss:zj)(eo:Nat)(hO:DO=.seq ⟨AN ss⟩ eo)(hX:X∉ss)(vs:zf)(e:Nat)(hA:DA=.seq ⟨vs⟩ e)(sI:qC=.seq ⟨vs++[.str X 0]⟩ (e+1))(hs:vs.length≤1000)(I:zd):(gH w.2 aI aG aA aK aC aO fr i o X DG DA qC DO).PI w b b2 5 St I:=Ae (Cs.oo o ⟨#[]⟩) (fun z D=>gH w.2 aI aG aA aK aC aO fr i z X (gD D 0) (gD D 1) qC (gD D 2)) (fun z D l=>gH w.2 aI aG aA aK aC aO fr i z X (gD D 0) (gD D 1) (ud l 0 0) (gD D 2)) (fun z D=>(Ag [Au 0 1 i (gD D 0) (.str X 0),OS 5 (gD D 2) X false,Dn 2 (gD D 1) qC (.str X 0)])) 3 (fun z=>[]) [false,true,true,false,false,true] (hD 8 8 10180897) 0 [0,0] 0 [DG,DA,DO] fun E0 ke=>.q (AQ hG hi) fun y y y=>.q (JG hO (by simpa using hX)) fun y y y=>.cons (Av hA sI (by have:=AD; lia)) fun u2 y g2=>.pO ke (@id (eD (u2.d 0)=qC) (g2.1.1) ▸ rfl)
def gI(P:zp)(aI aG aA aK:Nat)(fr aC i:Nat)(o:Option Str)(DG t9 DA:zu):Spec:=⟨EP P aI aA aK aC fr,[aI,aG,aA,aK],[AV aG i,A0 DG,A0 DA,QW P o],fun A=>.fin (.done .next),fun A=>[Bn i,A0 t9,A0 DA,QW P o],fun A=>[]⟩
theorem Qk(aI aG aA aK:Nat)(fr aC i:Nat)(o:Option Str)(DG t9 DA:zu)(gs:zf)(eg:Nat)(hG:DG=.seq ⟨gs⟩ eg)(hi:gs.length≤i)(eG:t9=DG)(I:zd):(gI w.2 aI aG aA aK fr aC i o DG t9 DA).PI w b b2 5 St I:=Ae (Cs.oo o ⟨#[]⟩) (fun z D=>gI w.2 aI aG aA aK fr aC i z (gD D 0) t9 (gD D 1)) (fun z D l=>gI w.2 aI aG aA aK fr aC i z (gD D 0) (ud l 0 2) (gD D 1)) (fun z D=>(Ag [BM "list_iterator.__next__" 0 1 (fun X=>AV (A4 X 1) i) (Bn i) (A0 (gD D 0))])) 1 (fun z=>[]) [false,true,true,false] [1,6] 0 [] 1 [DG,DA] fun E0 ke=>.cons (Ay (by decide) hG hi) fun u0 q g0=>.pO ke (@id (eD (u0.d 2)=t9) (g0.1.1.trans eG.symm) ▸ rfl)
section
abbrev H3(G:GS)(l:zl):Prop:=l.Nodup∧(∀ c∈l,c∈G.ord)∧l.length≤4
def H9(G:GS)(X e:Nat):Option (GS×zl×Nat):=match Ea G.sc [X] G.np [] e with
 | none=>none
 | some r=>if X∈G.ord∧H3 G r.2.1 then some (BH r.2.1 { G with np:=r.1 },r.2.1,Fp r.2.1 r.2.2) else none
structure WZ(G:GS)(X e:Nat)(G':GS)(l:zl)(e':Nat):Prop where
 ex:∃ r,Ea G.sc [X] G.np [] e=some r∧G'=BH r.2.1 { G with np:=r.1 }∧l=r.2.1∧e'=Fp r.2.1 r.2.2
 hX:X∈G.ord
 ok:H3 G l
theorem Qo{G:GS}{X e:Nat}{q:GS×zl×Nat}(h:H9 G X e=some q):WZ G X e q.1 q.2.1 q.2.2:=by
 unfold H9 at h
 cases hr:Ea G.sc [X] G.np [] e with
 | none=>rw [hr] at h; cases h
 | some r=>
  rw [hr] at h
  by_cases k:X∈G.ord∧H3 G r.2.1
  ·have h:(if X∈G.ord∧H3 G r.2.1 then some (BH r.2.1 { G with np:=r.1 },r.2.1,Fp r.2.1 r.2.2) else none)=some q:=h
   rw [wD k] at h
   cases h
   exact ⟨⟨r,hr,rfl,rfl,rfl⟩,k.1,k.2⟩
  ·have h:(if X∈G.ord∧H3 G r.2.1 then some (BH r.2.1 { G with np:=r.1 },r.2.1,Fp r.2.1 r.2.2) else none)=some q:=h
   rw [w2 k] at h
   cases h
def Ip:zl→GS→Nat→zl→Option (zl)
 | [],_,_,gs=>some gs
 | X::os,G,e,gs=>match H9 G X e with
  | none=>none
  | some q=>Ip os q.1 q.2.2 (gs++q.2.1)
theorem Wn{X:Nat}{os:zl}{G:GS}{e:Nat}{gs rZ:zl}(h:Ip (X::os) G e gs=some rZ):∃ q,H9 G X e=some q∧Ip os q.1 q.2.2 (gs++q.2.1)=some rZ:=by
 have h:(match H9 G X e with
  | none=>none
  | some q=>Ip os q.1 q.2.2 (gs++q.2.1))=some rZ:=h
 cases hq:H9 G X e with
 | none=>rw [hq] at h; cases h
 | some q=>rw [hq] at h; exact ⟨q,rfl,h⟩
noncomputable def IM(nm:zm):zl→Option Str→Option Str
 | [],s=>s
 | X::r,_=>IM nm r (some (nm X))
section
variable{w:zt}{b b2:Bool}{nm:zm}(inj:∀ a b,nm a=nm b→a=b)(R0:Lp)(aI aO fr aC aS aD aG pL aN aR:Nat)(os:zl)(eo:Nat)
inductive dq (P:zp) (nm:zm) (R0:Lp) (aI aO fr aS aD aG pL aN aR:Nat) (os:zl) (eo:Nat) (It:Obj) (o:Option Str) (G:GS) (e:Nat) (gs:zl) (L:Lp):Prop
 | mk (eg:Nat) (po nf:Int) (Q:Lp) (h:RG P nm aN aR R0 G [] e Q) (pm:L.Perm ([(aI,It),(aO,A0 (.seq ⟨AB nm os⟩ eo)),(fr,ZW P pL aS aG o),(aS,AE aD),(aD,AF P aN (.ref aR) po nf),(aG,A0 (.seq ⟨AB nm gs⟩ eg))]++Q)):dq P nm R0 aI aO fr aS aD aG pL aN aR os eo It o G e gs L
include inj
theorem Qt{i X:Nat}(hi:os[i]?=some X)(o:Option Str){G G':GS}{e e':Nat}{gs l:zl}(h:WZ G X e G' l e')(no:G.ord.Nodup)(qO:∀ c∈G.ord,∀ d∈G.sc c,d∈G.ord)(qY:∀ c,(G.sc c).length < 20)(hg:gs.length≤500) :
  AO w b b2 5 (fun q=>True) (Wq w.2 aI fr aC) (dq w.2 nm R0 aI aO fr aS aD aG pL aN aR os eo (AV aO i) o G e gs)
   (fun e1 L=>e1=.fin (.again (Wq w.2 aI fr aC))∧dq w.2 nm R0 aI aO fr aS aD aG pL aN aR os eo (AV aO ((i+1:Nat):Int)) (some (nm X)) G' e' (gs++l) L):=by
 rintro L0 ⟨eg,po,nf,Q,hQ,pm⟩
 obtain ⟨⟨r,hr,rfl,rfl,rfl⟩,hX,nl,ho,hl⟩:=h
 have hv:(AB nm os)[i]?=some (.str (nm X) 0):=by unfold AB; rw [wI,hi]; rfl
 refine Spec.pP.kq (q8:=fun L=>L=L0) (Qv (St:=fun q=>True) w b b2 aI aO fr aS aD aG o aC pL aN aR i (nm X) po (po+r.2.1.length) nf _ (.seq ⟨AB nm gs⟩ eg) (.seq ⟨AB nm r.2.1⟩ 0) (.seq ⟨AB nm gs++AB nm r.2.1⟩ (JX (AB nm gs) (AB nm r.2.1) eg)) (AB nm os) eo rfl hv _ _ _ _ rfl rfl rfl (by unfold AB; rw [vh,vh]; lia) (dG inj no qO aS aD aN aR R0 po nf hX qY [] e (by decide) hr) (Kh (G:={ G with np:=r.1 }) inj no aS aD aN aR R0 po (nf+1) r.2.2 nl ho hl)) (fun L e=>⟨Q,e ▸ pm,hQ⟩) (fun A1 P' hP=>⟨_,.refl _,rfl,JX (AB nm gs) (AB nm r.2.1) eg,po+r.2.1.length,nf+1,P',hP,.of_eq ?_⟩) (hp:=rfl) (hc:=fun q=>rfl) L0 rfl
 have e0:AB nm (gs++r.2.1)=AB nm gs++AB nm r.2.1:=by unfold AB; rw [vl]
 rw [e0]; rfl
theorem Qu:∀ (n i:Nat) (o:Option Str) (G:GS) (e:Nat) (gs rZ:zl),i+n=os.length→G.ord.Nodup→(∀ c∈G.ord,∀ d∈G.sc c,d∈G.ord)→(∀ c,(G.sc c).length < 20)→gs.length+4*n≤500→Ip (os.drop i) G e gs=some rZ→
  AO w b b2 5 (fun z=>True) (Wq w.2 aI fr aC) (dq w.2 nm R0 aI aO fr aS aD aG pL aN aR os eo (AV aO i) o G e gs)
   (fun e1 L=>e1=.fin (.done .next)∧∃ G' e',dq w.2 nm R0 aI aO fr aS aD aG pL aN aR os eo (Bn (os.length:Nat)) (IM nm (os.drop i) o) G' e' rZ L):=by
 intro n
 induction n with
 | zero=>
  intro i o G e gs rZ hi no qO qY hg hw
  have hi:i=os.length:=by lia
  subst hi
  rw [xC] at hw ⊢
  cases hw
  rintro L0 ⟨eg,po,nf,Q,hQ,pm⟩
  exact ((Qw (St:=fun z=>True) w b b2 aI aO fr aC os.length (.seq ⟨AB nm os⟩ eo) (.seq ⟨AB nm os⟩ eo) _ _ rfl (by simp [AB]) rfl (fun L=>L=[(fr,ZW w.2 pL aS aG o),(aS,AE aD),(aD,AF w.2 aN (.ref aR) po nf),(aG,A0 (.seq ⟨AB nm gs⟩ eg))]++Q)).kp (q8:=fun L=>L=L0) (fun L e=>e ▸ pm) fun A1=>⟨_,.refl _,rfl,G,e,eg,po,nf,Q,hQ,.refl _⟩) L0 rfl
 | succ n ih=>
  intro i o G e gs rZ hi no qO qY hg hw
  have hlt:i < os.length:=Ap hi
  have hd:os.drop i=os[i]::os.drop (i+1):=wH hlt
  rw [hd] at hw ⊢
  obtain ⟨q,hq,hw⟩:=Wn hw
  have hs:=Qo hq
  have ht:=Qt (w:=w) (b:=b) (b2:=b2) inj R0 aI aO fr aC aS aD aG pL aN aR os eo (w0 hlt) o hs no qO qY (by lia) (gs:=gs)
  obtain ⟨r,_,eG,_,_⟩:=hs.ex
  have e1:q.1.ord=G.ord:=by rw [eG]; rfl
  have e2:q.1.sc=G.sc:=by rw [eG]; rfl
  exact AK.go (fun z z z h=>h) (by kernel_rfl) ht (ih (i+1) (some (nm os[i])) q.1 q.2.2 (gs++q.2.1) rZ (Ci hi) (by rw [e1]; exact no) (by rw [e1,e2]; exact qO) (by rw [e2]; exact qY) (by rw [vn]; have:=hs.ok.2.2; lia) hw)
def Zj(P:zp)(aI aO fr aC aS aD aG pL aN aR:Nat)(DO DG:zu)(po nf:Int)(o:Option Str)(z:zu×zu×zu):Spec:=
 ⟨Wq P aI fr aC,[aI,aO,fr,aS,aD,aG],[AV aO 0,A0 DO,ZW P pL aS aG none,AE aD,AF P aN (.ref aR) po nf,A0 DG],fun q=>.fin (.done .next),
  fun q=>[QX z.1,A0 DO,ZW P pL aS aG o,AE aD,A6 z.2.1,A0 z.2.2],fun q=>[]⟩
theorem Wo{DO DG:zu}(hO:DO=.seq ⟨AB nm os⟩ eo){gs rZ:zl}{eg:Nat}(hG:DG=.seq ⟨AB nm gs⟩ eg)(po nf:Int){G:GS}{e:Nat}(no:G.ord.Nodup)(qO:∀ c∈G.ord,∀ d∈G.sc c,d∈G.ord)(qY:∀ c,(G.sc c).length < 20)(hg:gs.length+4*os.length≤500)(hw:Ip os G e gs=some rZ) :
  Spec.px (Zj w.2 aI aO fr aC aS aD aG pL aN aR DO DG po nf (IM nm os none)) (fun z q=>∃ e',z.2.2=.seq ⟨AB nm rZ⟩ e') (Zj w.2 aI aO fr aC aS aD aG pL aN aR DO DG po nf (IM nm os none) (.plain,.plain,.plain)) (wf w b b2) (Al ⟨5,fun q=>True⟩) (RG w.2 nm aN aR R0 G [] e) (fun P=>∃ L,P.Perm (R0++L)):=by
 subst hO hG
 have h:=Qu (w:=w) (b:=b) (b2:=b2) inj R0 aI aO fr aC aS aD aG pL aN aR os eo os.length 0 none G e gs rZ (by lia) no qO qY hg hw
 refine Spec.pW.z (AK.toD h ?_ ?_)
 ·intro P hP
  exact ⟨_,.refl _,eg,po,nf,P,hP,.refl _⟩
 ·rintro e1 L ⟨rfl,G',e',eg',po',nf',Q,hQ,pm⟩
  obtain ⟨L1,_,p⟩:=hQ.rn
  exact ⟨((Bn (os.length:Nat)).data,(AF w.2 aN (.ref aR) po' nf').data,.seq ⟨AB nm rZ⟩ eg'),fun q=>0,Q,⟨⟨eg',rfl⟩,L1,p⟩,rfl,pm⟩
end
section
variable{w:zt}{b b2:Bool}{nm:zm}(inj:∀ a b,nm a=nm b→a=b)(aI aG aA aK aC aO fr:Nat)(gs os:zl)(eg eo:Nat)
noncomputable def AA(os:zl)(l:zl):zl:=l.filter fun c=>!decide (c∈os)
def Zu(P:zp)(nm:zm)(aI aG aA aK aC aO:Nat)(gs os:zl)(eg eo:Nat)(It:Obj)(o:Option Str)(r:zl):Lp:=
 [(aI,It),(aG,A0 (.seq ⟨AB nm gs⟩ eg)),(aA,A0 (.seq ⟨AB nm r⟩ r.length)),(aK,QW P o),(aC,B0 aO),(aO,A0 (.seq ⟨AB nm os⟩ eo))]
theorem Dh(nm:zm)(l:zl):AB nm l=AN (l.map nm):=by unfold AB AN; rw [wz]; rfl
theorem Ke(os l:zl)(c:Nat):AA os (l++[c])=if c∈os then AA os l else AA os l++[c]:=by
 unfold AA
 rw [List.filter_append]
 by_cases h:c∈os<;>simp [h]
include inj
theorem Qg(R:Lp){i c:Nat}(hi:gs[i]?=some c)(o:Option Str)(hg:gs.length≤500) :
  AO w b b2 5 (fun q=>True) (EP w.2 aI aA aK aC fr) (fun L=>L.Perm (Zu w.2 nm aI aG aA aK aC aO gs os eg eo (AV aG i) o (AA os (gs.take i))++R))
   (fun e L=>e=.fin (.again (EP w.2 aI aA aK aC fr))∧L.Perm (Zu w.2 nm aI aG aA aK aC aO gs os eg eo (AV aG ((i+1:Nat):Int)) (some (nm c)) (AA os (gs.take (i+1)))++R)):=by
 have hv:(AB nm gs)[i]?=some (.str (nm c) 0):=by unfold AB; rw [wI,hi]; rfl
 have ht:gs.take (i+1)=gs.take i++[c]:=by rw [y9,hi]; rfl
 rw [ht,Ke]
 have hlen:(AA os (gs.take i)).length≤500:=vv (xy _ _) (by rw [xp]; lia)
 by_cases h:c∈os
 ·rw [wD h]
  exact (Qi (St:=fun q=>True) w b b2 aI aG aA aK aC aO fr i o (nm c) (.seq ⟨AB nm gs⟩ eg) (.seq ⟨AB nm (AA os (gs.take i))⟩ (AA os (gs.take i)).length) (.seq ⟨AB nm os⟩ eo) _ _ rfl hv (os.map nm) eo (by rw [Dh]) (vo h) (fun L=>L=R)).kp (fun L p=>p) fun A1=>⟨_,.refl _,rfl,.refl _⟩
 ·rw [w2 h]
  have hm:nm c∉os.map nm:=fun m=>h (let ⟨y,hy,e⟩:=wC.mp m; inj _ _ e ▸ hy)
  have e2:Data.seq ⟨AB nm (AA os (gs.take i)++[c])⟩ (AA os (gs.take i)++[c]).length=.seq ⟨AB nm (AA os (gs.take i))++[.str (nm c) 0]⟩ ((AA os (gs.take i)).length+1):=by unfold AB; rw [vl,vn]; rfl
  exact (Qj (St:=fun q=>True) w b b2 aI aG aA aK aC aO fr i o (nm c) (.seq ⟨AB nm gs⟩ eg) (.seq ⟨AB nm (AA os (gs.take i))⟩ (AA os (gs.take i)).length) _ (.seq ⟨AB nm os⟩ eo) _ _ rfl hv (os.map nm) eo (by rw [Dh]) hm _ _ rfl e2 (by unfold AB; rw [vh]; lia) (fun L=>L=R)).kp (fun L p=>p) fun A1=>⟨_,.refl _,rfl,.refl _⟩
theorem Qh(R:Lp)(hg:gs.length≤500):∀ (n i:Nat) (o:Option Str),i+n=gs.length→
  AO w b b2 5 (fun q=>True) (EP w.2 aI aA aK aC fr) (fun L=>L.Perm (Zu w.2 nm aI aG aA aK aC aO gs os eg eo (AV aG i) o (AA os (gs.take i))++R))
   (fun e L=>e=.fin (.done .next)∧L.Perm (Zu w.2 nm aI aG aA aK aC aO gs os eg eo (Bn (gs.length:Nat)) (IM nm (gs.drop i) o) (AA os gs)++R)):=by
 intro n
 induction n with
 | zero=>
  intro i o hi
  have hi:i=gs.length:=by lia
  subst hi
  rw [xC,yG]
  exact (Qk (St:=fun q=>True) w b b2 aI aG aA aK fr aC gs.length o (.seq ⟨AB nm gs⟩ eg) (.seq ⟨AB nm gs⟩ eg) (.seq ⟨AB nm (AA os gs)⟩ (AA os gs).length) _ _ rfl (by simp [AB]) rfl (fun L=>L=[(aC,B0 aO),(aO,A0 (.seq ⟨AB nm os⟩ eo))]++R)).kp (fun L p=>p) fun A1=>⟨_,.refl _,rfl,.refl _⟩
 | succ n ih=>
  intro i o hi
  have hlt:i < gs.length:=Ap hi
  have hd:gs.drop i=gs[i]::gs.drop (i+1):=wH hlt
  rw [hd]
  exact AK.go (fun q q q h=>h) (by kernel_rfl) (Qg (w:=w) (b:=b) (b2:=b2) inj aI aG aA aK aC aO fr gs os eg eo R (w0 hlt) o hg) (ih (i+1) (some (nm gs[i])) (Ci hi))
def nz(P:zp)(aI aG aA aK aC aO fr:Nat)(DG DO DR DI:zu)(o:Option Str):Spec:=
 ⟨Nd P aI aA aK aC fr,[aI,aG,aA,aK,aC,aO],[AV aG 0,A0 DG,A0 (.seq #[] 0),BE [] 0,B0 aO,A0 DO],fun q=>.fin (.done .next),fun q=>[QX DI,A0 DG,A0 DR,QW P o,B0 aO,A0 DO],fun q=>[]⟩
theorem ZM{DG DO:zu}(hG:DG=.seq ⟨AB nm gs⟩ eg)(hO:DO=.seq ⟨AB nm os⟩ eo)(hg:gs.length≤500)(R:Lp) :
  (nz w.2 aI aG aA aK aC aO fr DG DO (.seq ⟨AB nm (AA os gs)⟩ (AA os gs).length) (Bn (gs.length:Nat)).data (IM nm gs none)).PI w b b2 5 (fun q=>True) (fun L=>L=R):=by
 subst hG hO
 have h1:=Qh (w:=w) (b:=b) (b2:=b2) inj aI aG aA aK aC aO fr gs os eg eo R hg gs.length 0 none (by lia)
 have hz:=Spec.pP.tT (M:=fun L=>L.Perm (Zu w.2 nm aI aG aA aK aC aO gs os eg eo (AV aG ((0:Nat):Int)) none (AA os (gs.take 0))++R)) (Ql (St:=fun q=>True) w b b2 aI aG aA aK aC fr aO (.seq ⟨AB nm gs⟩ eg) (.seq #[] 0) (fun L=>L=(aO,A0 (.seq ⟨AB nm os⟩ eo))::R)) (fun q q q h=>h) (by kernel_rfl) (fun q=>rfl) (fun q=>⟨_,.refl _,.refl _⟩) h1
 refine AK.sR hz ?_ ?_
 ·rintro P rfl
  exact ⟨_,.refl _,_,rfl,rfl⟩
 ·rintro e L ⟨rfl,p⟩
  exact ⟨fun q=>0,R,rfl,rfl,p⟩
end
end
theorem gx(P:zp)(fr aC:Nat):DH (M6 P fr aC):=by
 have h:(M6 P fr aC).scope.kind=.function:=by kernel_rfl
 exact ⟨by rw [h]; decide,by kernel_rfl⟩
def Ja(P:zp)(x:SX):Env:=M6 P (A4 x 2) (A4 x 3)
def mg(P:zp)(pL:Nat)(pX:zu):A8:=KJ (fun x=>some [C0 (Ja P x)]) [0,2] [true,false] [] (fun x=>(Vu P pL pX).own (A4 x 2) (B9 x 2)) (fun x (_:Unit)=>(Vu P pL pX).own (A4 x 2) (B9 x 2))
variable{w b b2}
theorem Xj{nm:zm}(inj:∀ a b,nm a=nm b→a=b){R:Lp}{E:zi}(hE:AW E R){ts:zl}{ns:za}(nd:F5 nm R ts ns)(hp:H8 ns){en pL:Nat}{pX:zu}(hN:pX=.seq ⟨ts.map .ref⟩ en){X:Str}(hX:CX nm ns none=some X):(mg w.2 pL pX).qM pw (wf w b b2) (A5 w.2) ⟨4,Ax E zw⟩ (fun P=>P=R) (fun u q P'=>RG w.2 nm (u.n 0 5) (u.n 0 6) R (A3 G0 ns) (AM (A3 G0 ns) (A3 G0 ns).ord) (AM (A3 G0 ns) (A3 G0 ns).ord).length P'):=
 (De (w:=wf w b b2) (F0:=fun x (_:Unit)=>(Vu w.2 pL pX).own (A4 x 2) (B9 x 2)) (O:=fun q q A P'=>∃ L,RN w.2 nm (A 2) (A 3) (A3 G0 ns) (AM (A3 G0 ns) (A3 G0 ns).ord) (AM (A3 G0 ns) (A3 G0 ns).ord).length L∧P'.Perm (R++L)) (fun x=>Spec.r5 (Ni inj (hE.cons (gx w.2 (A4 x 2) (A4 x 3)) rfl) (nd.cons (A4 x 2,Bp (B9 x 2))) hp hN hX) rfl (fun q q=>rfl)) (fun q q=>⟨rfl,rfl,rfl⟩) (fun q q q q q=>rfl) (BK (St:=⟨4,Ax E zw⟩) (n:=5) (Sf:=fun x=>Ax (Ja w.2 x::E) zw) (V:=fun x=>[C0 (Ja w.2 x)]) (by rfl) fun x q c=>c.app (V:=[C0 (Ja w.2 x)]) (E':=[Ja w.2 x]) (qe:=[]) rfl rfl) (by decide) (fun q=>⟨rfl,rfl,fun q q=>rfl⟩) (fun q q=>rfl)).mono (fun q h=>h) fun u x P' _ ⟨_,_,L,h,p⟩=>h.rg p
def c6(P:zp)(aO aS aD pL aN aR:Nat)(DO DG:zu)(po nf:Int)(o:Option Str)(φ:zu→Prop):A8:=KI (fun q=>none) [8,1,2,4,5,7] [true,true,false,false,true,true] [] (fun x=>Zj P (A4 x 8) aO (A4 x 2) (A4 x 3) aS aD (A4 x 7) pL aN aR DO DG po nf o (.plain,.plain,.plain)) (fun x=>Zj P (A4 x 8) aO (A4 x 2) (A4 x 3) aS aD (A4 x 7) pL aN aR DO DG po nf o) (fun z q=>φ z.2.2)
theorem Tb{aO aS aD pL aN aR:Nat}{DO DG:zu}{po nf:Int}{o:Option Str}{φ:zu→Prop}{I O:zd}{St:zc}(h:∀ aI fr aC aG,Spec.px (Zj w.2 aI aO fr aC aS aD aG pL aN aR DO DG po nf o) (fun z q=>φ z.2.2) (Zj w.2 aI aO fr aC aS aD aG pL aN aR DO DG po nf o (.plain,.plain,.plain)) (wf w b b2) (Al ⟨5,fun q=>True⟩) I O):(c6 w.2 aO aS aD pL aN aR DO DG po nf o φ).qB pw (wf w b b2) (A5 w.2) ⟨4,St⟩ I O:=
 Dd (w:=wf w b b2) (fun q=>h _ _ _ _) (fun q q=>⟨rfl,rfl,rfl⟩) (fun q q q q q=>rfl) (CO (by rfl)) (by decide) (fun q=>⟨rfl,rfl,fun q q=>rfl⟩) (fun q q=>rfl)
def pD(nm:zm)(gs:zl)(d:zu):Prop:=∃ e,d=.seq ⟨AB nm gs⟩ e
def nF(P:zp)(aO:Nat)(DG DO DR DI:zu)(o:Option Str):A8:=BU [9,7,10,11,3,1] [true,true,true,false,false,true] [] (fun x=>nz P (A4 x 9) (A4 x 7) (A4 x 10) (A4 x 11) (A4 x 3) aO (A4 x 2) DG DO DR DI o)
theorem Spec.pP.any{S:Spec}{w:zt}{Sh:Pos→ze→Prop}(h:∀ R,S.pP w Sh (fun P=>P=R) (fun P=>P=R))(I:zd):S.pP w Sh I I:=
 fun P hI=>(h P P rfl).pU (fun z e=>e) fun e L ⟨A,P',q,sub,he,hL⟩=>⟨A,P',q ▸ hI,sub,he,hL⟩
theorem YD{nm:zm}(inj:∀ a b,nm a=nm b→a=b){aO:Nat}{gs os:zl}{eg eo:Nat}{DG DO DR DI:zu}(hG:DG=.seq ⟨AB nm gs⟩ eg)(hO:DO=.seq ⟨AB nm os⟩ eo)(hg:gs.length≤500)(hR:DR=.seq ⟨AB nm (AA os gs)⟩ (AA os gs).length)(hI:DI=(Bn (gs.length:Nat)).data){o:Option Str}(ho:o=IM nm gs none){St:zc}{I:zd}:(nF w.2 aO DG DO DR DI o).qB pw (wf w b b2) (A5 w.2) ⟨4,St⟩ I I:=by
 subst hR hI ho
 exact AL (w:=wf w b b2) (fun x=>Spec.pP.any (ZM inj (A4 x 9) (A4 x 7) (A4 x 10) (A4 x 11) (A4 x 3) aO (A4 x 2) gs os eg eo hG hO hg) I) (by decide) (fun q=>⟨rfl,rfl,fun q=>rfl⟩) (fun q q=>rfl)
structure Vb(ns:za)(os gs:zl):Prop where
 q:H3 (A3 G0 ns) (AM (A3 G0 ns) (A3 G0 ns).ord)
 r:Ip os (BH (AM (A3 G0 ns) (A3 G0 ns).ord) (A3 G0 ns)) (Fp (AM (A3 G0 ns) (A3 G0 ns).ord) (AM (A3 G0 ns) (A3 G0 ns).ord).length) (AM (A3 G0 ns) (A3 G0 ns).ord)=some gs
 o:os.length≤50
 g:gs.length≤500
 s:∀ c,((A3 G0 ns).sc c).length < 20
theorem Pd{nm:zm}(inj:∀ a b,nm a=nm b→a=b){ns:za}(hp:H8 ns)(h:H3 (A3 G0 ns) (AM (A3 G0 ns) (A3 G0 ns).ord))(R:Lp)(aS aD aN aR:Nat){po:Int}{vs:zf}{DG:zu}(tK:po=0+(AM (A3 G0 ns) (A3 G0 ns).ord).length)(tI:vs=AB nm (AM (A3 G0 ns) (A3 G0 ns).ord))(hG:DG=.seq ⟨vs⟩ 0):(Uq w.2 aS aD aN aR 0 po 0 DG).pP (wf w b b2) (Al ⟨7,fun q=>True⟩) (RG w.2 nm aN aR R (A3 G0 ns) (AM (A3 G0 ns) (A3 G0 ns).ord) (AM (A3 G0 ns) (A3 G0 ns).ord).length) (RG w.2 nm aN aR R (BH (AM (A3 G0 ns) (A3 G0 ns).ord) (A3 G0 ns)) [] (Fp (AM (A3 G0 ns) (A3 G0 ns).ord) (AM (A3 G0 ns) (A3 G0 ns).ord).length)):=by
 subst hG tI tK
 exact Kh inj hp.nd aS aD aN aR R 0 0 _ h.1 h.2.1 h.2.2
def ww(P:zp)(pL aO:Nat)(nm:zm)(gs:zl)(o1 o2:Option Str)(po:Int)(vs:zf)(pX pj DO vK rb DG DL qk DR DI:zu):Spec:=⟨.call (.ref 949) ⟨[.ref pL,.ref aO],[]⟩,[pL,aO],[A0 pX,A0 DO],fun A=>.fin (.done (.ret (.ref (A 0)))),fun A=>[A0 pj,A0 rb],fun A=>[A0 DR]⟩
variable{St:zc}(w b b2)
theorem Wl(pL aO:Nat)(nm:zm)(gs:zl)(o1 o2:Option Str)(po:Int)(vs:zf)(pX pj DO rb DG DR DI:zu)(inj:∀ a b,nm a=nm b→a=b){R:Lp}{E:zi}(hE:AW E R){ts:zl}{ns:za}(nd:F5 nm R ts ns)(hp:H8 ns){en:Nat}(hN:pX=.seq ⟨ts.map .ref⟩ en){X:Str}(hX:CX nm ns none=some X){os:zl}(h:Vb ns os gs){eo:Nat}(hO:DO=.seq ⟨AB nm os⟩ eo)(h1:o1=IM nm os none)(h2:o2=IM nm gs none)(tK:po=0+(AM (A3 G0 ns) (A3 G0 ns).ord).length)(tI:vs=AB nm (AM (A3 G0 ns) (A3 G0 ns).ord))(hG:DG=.seq ⟨vs⟩ 0)(hR:DR=.seq ⟨AB nm (AA os gs)⟩ (AA os gs).length)(hI:DI=(Bn (gs.length:Nat)).data)(eN:pj=pX)(eO:rb=DO):(ww w.2 pL aO nm gs o1 o2 po vs pX pj DO .plain rb DG .plain .plain DR DI).PO w b b2 4 (Ax E zw) (fun P=>P=R) (fun P=>∃ L,P.Perm (R++L)):=by
 refine Ae ((Cs.oo o1 ⟨#[]⟩).pp (Cs.oo o2 ⟨#[]⟩)) (fun z D=>ww w.2 pL aO nm gs z.1 z.2 po vs (gD D 0) pj (gD D 1) .plain rb DG .plain .plain DR DI) (fun z D l=>ww w.2 pL aO nm gs z.1 z.2 po vs (gD D 0) (ud l 4 0) (gD D 1) (ud l 1 2) (ud l 0 10) (ud l 3 1) (ud l 2 0) (ud l 1 10) (ud l 0 4) DI) (fun z D=>[fun y=>mg w.2 pL (gD D 0),fun l=>fK w.2 (un l 0 0 3) (un l 0 0 4) (un l 0 0 5) (un l 0 0 6) 0 po 0 DG [4,5],fun l=>bj 6 (ud l 0 1) vs,fun l=>c6 w.2 aO (un l 2 0 3) (un l 2 0 4) pL (un l 2 0 5) (un l 2 0 6) (gD D 1) (ud l 0 0) po 0 z.1 (pD nm gs),fun l=>nF w.2 aO (ud l 0 10) (ud l 0 2) DR DI z.2]) 5 (fun z=>[10]) [true,true] (hD 14 44 248223673477429899496031159715195266726161515261782) 0 [0,0,1,1] 1 [pX,DO] (fun E0 ke=>?_)
 refine .qA (Xj inj hE nd hp hN hX) fun u0 y g0=>.cons (KV (Pd inj hp h.q R _ _ _ _ tK tI hG) (by decide) rfl (by rfl)) fun u1 y g1=>?_
 obtain rfl:eD (u1.d 1)=DG:=g1.2.1
 exact .q (TP hG (by (try simp only [un,ud,CI]); rw [tI]; unfold AB; rw [vh]; have:=h.q.2.2; have:=AD; lia)) fun y y g2=>.cons (let ⟨_,hL⟩:=g2 rfl; Tb fun aI fr aC aG=>by (try simp only [un,ud,CI]); rw [h1]; exact Wo (G:=BH (AM (A3 G0 ns) (A3 G0 ns).ord) (A3 G0 ns)) inj R aI aO fr aC _ _ aG pL _ _ os eo hO (hL.trans (by (try simp only [un,ud,CI]); rw [tI])) po 0 hp.nd (fun c y d m=>(Gu.all ns Yi).cl c d m) h.s (by have:=h.q.2.2; have:=h.o; lia) h.r) fun y y g3=>.cons (let ⟨_,⟨_,hz⟩,k⟩:=g3.1; YD inj (k.2.2.2.1.trans hz) (k.2.1.trans hO) h.g hR hI h2) fun u4 y g4=>.pO ke (@id (eD (u0.d 0)=pj) ((let ⟨_,k⟩:=g0.1; k.1).trans eN.symm) ▸ @id (eD (u4.d 10)=rb) ((g4.1.2.2.2.1.trans (let ⟨_,_,k⟩:=g3.1; k.2.1)).trans eO.symm) ▸ @id (eD (u4.d 4)=DR) (g4.1.2.2.1) ▸ rfl)
theorem Yk{p:zv}{w:zt}(a b:Int)(t u:Nat):Bm p w (.call (.builtin "int.__gt__") ⟨[.int a t,.int b u],[]⟩) (Az (decide (a > b))):=
 CJ (T:=.pure (.done (.ret (.bool (decide (a > b)))))) (by kernel_rfl) (by kernel_rfl) (fun q q q=>by rw [← Aq]; kernel_rfl) (Ff (R:=Az _) rfl)
def n7(a b:Int)(v:Bool):A8:=En (.call (.builtin "int.__gt__") ⟨[.int a 0,.int b 0],[]⟩) fun q=>.ok (.ret (.bool v))
theorem Y4{p:zv}{w:zt}{kt:KT}{a b:Int}{v:Bool}(h:decide (a > b)=v):(n7 a b v).Ok p w kt:=BG fun c hc=>by
 obtain ⟨t,u,rfl⟩:=Hi hc
 intro s k g l cd pc rest
 obtain ⟨s',res,e,G,go⟩:=Yk (p:=p) (w:=w) a b t u s k g l cd pc rest
 exact ⟨s',res,⟨0,by rw [e,h]⟩,G,go⟩
noncomputable def mx(P:zp)(a b0:Int)(o:Bool):Spec:=⟨.call (.builtin "max") ⟨[.int a 0,.int b0 0],[]⟩,[],[],fun A=>.fin (.done (.ret (.int (bif o then b0 else a) 0))),fun A=>[],fun A=>[]⟩
theorem YP(a b0:Int)(o:Bool)(h:decide (b0 > a)=o)(I:zd):(mx w.2 a b0 o).PI w b b2 9 St I:=by
 refine As (Ag [n7 b0 a o]) 1 [] (bif o then [1,1,1,2,3,2,2,2,2,1,2,2,3,3,3,3,2,2,2,2,1,2,2,3,3,3,3,2,2,2,2,1,2,2,5,3,3,3] else [1,1,1,2,3,2,2,2,2,1,2,2,3,3,3,3,2,2,2,2,1,2,2,3,2,2,2,2,1,2,2,5,3,3,3]) 3 [] 20 (fun E0 ke=>?_) (by cases o<;>kernel_rfl)
 exact .q (Y4 h) fun z z z=>.pO ke rfl
noncomputable def Oh(a b:Int):Int:=bif decide (b > a) then b else a
def fI(P:zp)(a b:Int):A8:=BU [] [] [] (fun q=>mx P a b (decide (b > a)))
theorem KR{w:zt}{b1 b2:Bool}{a b:Int}{I:zd}{St:Tl}(hn:Nat.ble (St.l+1) 9=true):(fI w.2 a b).qB pw (wf w b1 b2) (A5 w.2) St I I:=
 AL (w:=wf w b1 b2) (St:=St) (fun q=>(show (mx w.2 a b (decide (b > a))).pP (wf w b1 b2) (Al ⟨9,fun q=>True⟩) I I from YP (St:=fun q=>True) w b1 b2 a b _ rfl I)) (by decide) (fun q=>⟨rfl,rfl,fun q=>rfl⟩) (fun q q=>rfl) hn
def J0(P:zp):Stmt:=(CM (EW (Ti P))).getD 3 (.Pass default)
def LP(P:zp):Stmt:=(EU (J0 P)).getD 1 (.Pass default)
def Nv(P:zp):Stmt:=(EU (LP P)).getD 2 (.Pass default)
def AJ(P:zp)(fr aC:Nat):Env:={ Br P 954 Ti fr with cells:=[(Str.ofString "fresh",aC)] }
def Rn(P:zp)(aI fr aC:Nat):Code:=.forLoop (IV (J0 P)) (.ref aI) (EU (J0 P)) (IW (J0 P)) (AJ P fr aC)
def XT(P:zp)(aI fr aC:Nat):Code:=.forLoop (IV (LP P)) (.ref aI) (EU (LP P)) (IW (LP P)) (AJ P fr aC)
def SD(P:zp)(aI fr aC:Nat):Code:=.forLoop (IV (Nv P)) (.ref aI) (EU (Nv P)) (IW (Nv P)) (AJ P fr aC)
def oP(P:zp):Option (Nat×Int×Nat)→List DictEntry
 | none=>[]
 | some (a,w,c)=>[kE P "order" (.ref a),kE P "ways" (.int w 0),kE P "waiting" (.ref c)]
def oQ(P:zp):Option (Str×Str)→List DictEntry
 | none=>[]
 | some (x,k)=>[kE P "name" (.str x 0),kE P "key" (.str k 0)]
def oO(P:zp):Option Int→List DictEntry
 | none=>[]
 | some i=>[kE P "step" (.int i 0)]
def gz(P:zp)(pL pM:Nat)(sets most:Int)(st:Option Int)(o:Option (Nat×Int×Nat))(nk:Option (Str×Str)):List DictEntry:=
 kE P "needs" (.ref pL)::kE P "level" (.ref pM)::kE P "sets" (.int sets 0)::kE P "most" (.int most 0)::(oO P st++(oP P o++oQ P nk))
def HH(P:zp)(pL pM:Nat)(sets most:Int)(st:Option Int)(o:Option (Nat×Int×Nat))(nk:Option (Str×Str)):Obj:=Bp (.dict ⟨gz P pL pM sets most st o nk⟩ (gz P pL pM sets most st o nk).length)
noncomputable def Gp:Str:=⟨⟨[124]⟩⟩
def f5(P:zp)(aI aW fr aC aF aO:Nat)(nk:Option (Str×Str))(pL pM i en:Nat)(sets most st pY:Int)(X:Str)(K:zl)(ol qD:zj)(N:List (Str×zq))(DW DF r7 qQ rT vJ se:zu):Spec:=⟨SD P aI fr aC,[aI,aW,fr,aC,aF,aO],[AV aW i,A0 DW,HH P pL pM sets most (some st) (some (aO,pY,aW)) nk,B0 aF,A6 DF,A0 qQ],fun A=>.fin (.again (SD P aI fr aC)),fun A=>[AV aW ((i:Int)+1),A0 DW,HH P pL pM sets most (some st) (some (aO,pY,aW)) (some (X,⟨⟨K⟩⟩)),B0 aF,A6 r7,A0 qQ],fun A=>[AG (.seq #[.ref (A 1),.int pY 0] 0),A0 se]⟩
theorem S9(aI aW fr aC aF aO:Nat)(nk:Option (Str×Str))(pL pM i en:Nat)(sets most st pY:Int)(X:Str)(K:zl)(ol qD:zj)(N:List (Str×zq))(DW DF qQ rT se:zu)(ws:zf)(ew:Nat)(hW:DW=.seq ⟨ws⟩ ew)(hi:ws[i]?=some (.str X 0))(eo:Nat)(hO:qQ=.seq ⟨AN ol⟩ eo)(hs:ol.length < 50)(t5:rT=.seq ⟨AN ol++[.str X 0]⟩ 0)(qY:∀ qG:zj,qG.Perm (ol++[X])→PyProof.Rows.sortedS qG=true→qG=qD)(hK:Builtin.Str.glued Gp qD=⟨⟨K⟩⟩)(sF:Builtin.Str.tooLong (qD.toArray.foldl (· + ·.length+Gp.length) 0)=false)(uK:K.length≤sizeLine)(hF:DF=A7 w.2 N en)(hN:N.length≤1000)(hx:A' N ⟨⟨K⟩⟩=none)(ri:se=.seq ⟨AN ol++[.str X 0]⟩ 0)(I:zd):Spec.px (fun (r7:zu)=>f5 w.2 aI aW fr aC aF aO nk pL pM i en sets most st pY X K ol qD N DW DF r7 qQ rT .plain se) (fun (r7:zu) A=>r7=A7 w.2 (N++[(⟨⟨K⟩⟩,.ref (A 0))]) (en+1)) (f5 w.2 aI aW fr aC aF aO nk pL pM i en sets most st pY X K ol qD N DW DF .plain qQ rT .plain se) (wf w b b2) (Al (⟨4,St⟩)) (I) (I):=by
 refine LF (Cs.oo nk (⟨#[]⟩,⟨#[]⟩)) (fun z D=>f5 w.2 aI aW fr aC aF aO z pL pM i en sets most st pY X K ol qD N (gD D 0) (gD D 1) .plain (gD D 2) rT .plain se) (fun z D l=>f5 w.2 aI aW fr aC aF aO z pL pM i en sets most st pY X K ol qD N (gD D 0) (gD D 1) (ud l 0 0) (gD D 2) (ud l 5 0) (ud l 4 0) (ud l 1 0)) (fun z D=>[fun y=>Au 0 1 i (gD D 0) (.str X 0),fun y=>Ce 5 6 (gD D 2) (.seq #[.str X 0] 0) rT,fun l=>OH 7 (ud l 0 0) qD,fun l=>Ld Gp 8 (ud l 0 0) K,fun y=>TX 4 (gD D 1) ⟨⟨K⟩⟩ false,fun y=>Ce 5 9 (gD D 2) (.seq #[.str X 0] 0) se,fun l=>KP 4 (gD D 1) (A7 w.2 (N++[(⟨⟨K⟩⟩,.ref (un l 0 0 0))]) (en+1)) ⟨⟨K⟩⟩ (.ref (un l 0 0 0))]) 7 (fun z D l=>[(0,un l 1 0 0)]) (fun z=>[11,10]) [false,true,false,false,true,true] (hD 12 26 5189541905530976478068708821) 0 [0,0,0,0,0,0] 0 [DW,DF,qQ] (fun E0 ke=>?_)
 refine .q (AQ hW hi) fun y y y=>.q (Bg hO rfl t5 (by unfold AN; rw [vh]; have:=AD; show ol.length+1≤_; lia)) fun u1 y g1=>?_
 obtain rfl:eD (u1.d 0)=rT:=g1 rfl
 refine .q (Fl (n:=0) (ss:=ol++[X]) (by (try simp only [un,ud,CI]); rw [t5]; unfold AN; rw [vl]; rfl) (by (try simp only [un,ud,CI]); rw [vn]; show ol.length+1 < 64; lia) qY) fun y y g2=>.q ((let ⟨_,h2⟩:=g2 rfl; GN h2 hK sF uK)) fun y y y=>.q (ID (w:=wf w b b2) hF (by rw [hx]; rfl)) fun y y y=>.q (Bg hO rfl ri (by unfold AN; rw [vh]; have:=AD; show ol.length+1≤_; lia)) fun u5 y g5=>.cons (Dg (w:=wf w b b2) hF hx rfl (by have:=AD; lia)) fun u6 y g6=>.nil fun P hP=>ke _ _ ⟨eD (u6.d 0),@id (eD (u5.d 0)=se) (g5 rfl) ▸ rfl,hP,fun A a=>?_⟩
 try dsimp only
 have a0:A 0=u5.n 0 0:=a _ (.head _)
 exact g6.1.1.trans (vm (fun z:Nat=>A7 w.2 (N++[((⟨⟨K⟩⟩:Str),Value.ref z)]) (en+1)) a0.symm)
def f3(P:zp)(aI aW fr aC aF aO aT:Nat)(aQ j:Nat)(we:Int)(nk:Option (Str×Str))(pL pM i en:Nat)(sets most st pY:Int)(X:Str)(K:zl)(ol qD:zj)(N:List (Str×zq))(DW DF r7 qQ rT vJ:zu):Spec:=⟨SD P aI fr aC,[aI,aW,fr,aC,aF,aO,aT],[AV aW i,A0 DW,HH P pL pM sets most (some st) (some (aO,pY,aW)) nk,B0 aF,A6 DF,A0 qQ,AG (.seq #[.ref aQ,.int we 0] 0)],fun A=>.fin (.again (SD P aI fr aC)),fun A=>[AV aW ((i:Int)+1),A0 DW,HH P pL pM sets most (some st) (some (aO,pY,aW)) (some (X,⟨⟨K⟩⟩)),B0 aF,A6 r7,A0 qQ,AG (.seq #[.ref aQ,.int we 0] 0)],fun A=>[AG (.seq #[.ref aQ,.int (we+pY) 0] 0)]⟩
theorem S8(aI aW fr aC aF aO aT:Nat)(aQ j:Nat)(we:Int)(nk:Option (Str×Str))(pL pM i en:Nat)(sets most st pY:Int)(X:Str)(K:zl)(ol qD:zj)(N:List (Str×zq))(DW DF qQ rT:zu)(ws:zf)(ew:Nat)(hW:DW=.seq ⟨ws⟩ ew)(hi:ws[i]?=some (.str X 0))(eo:Nat)(hO:qQ=.seq ⟨AN ol⟩ eo)(hs:ol.length < 50)(t5:rT=.seq ⟨AN ol++[.str X 0]⟩ 0)(qY:∀ qG:zj,qG.Perm (ol++[X])→PyProof.Rows.sortedS qG=true→qG=qD)(hK:Builtin.Str.glued Gp qD=⟨⟨K⟩⟩)(sF:Builtin.Str.tooLong (qD.toArray.foldl (· + ·.length+Gp.length) 0)=false)(uK:K.length≤sizeLine)(hF:DF=A7 w.2 N en)(hN:N.length≤1000)(hx:A' N ⟨⟨K⟩⟩=some (.ref aT))(hj:N.findIdx? (fun p=>p.1==⟨⟨K⟩⟩)=some j)(I:zd):Spec.px (fun (r7:zu)=>f3 w.2 aI aW fr aC aF aO aT aQ j we nk pL pM i en sets most st pY X K ol qD N DW DF r7 qQ rT .plain) (fun (r7:zu) A=>r7=A7 w.2 (N.modify j fun p=>(p.1,.ref (A 0))) en) (f3 w.2 aI aW fr aC aF aO aT aQ j we nk pL pM i en sets most st pY X K ol qD N DW DF .plain qQ rT .plain) (wf w b b2) (Al (⟨4,St⟩)) (I) (I):=by
 refine LF (Cs.oo nk (⟨#[]⟩,⟨#[]⟩)) (fun z D=>f3 w.2 aI aW fr aC aF aO aT aQ j we z pL pM i en sets most st pY X K ol qD N (gD D 0) (gD D 1) .plain (gD D 2) rT .plain) (fun z D l=>f3 w.2 aI aW fr aC aF aO aT aQ j we z pL pM i en sets most st pY X K ol qD N (gD D 0) (gD D 1) (ud l 0 0) (gD D 2) (ud l 6 0) (ud l 5 0)) (fun z D=>[fun y=>Au 0 1 i (gD D 0) (.str X 0),fun y=>Ce 5 7 (gD D 2) (.seq #[.str X 0] 0) rT,fun l=>OH 8 (ud l 0 0) qD,fun l=>Ld Gp 9 (ud l 0 0) K,fun y=>TX 4 (gD D 1) ⟨⟨K⟩⟩ true,fun y=>Bh 4 (gD D 1) ⟨⟨K⟩⟩ (.ref aT),fun y=>Bh 4 (gD D 1) ⟨⟨K⟩⟩ (.ref aT),fun l=>bN 4 (gD D 1) (A7 w.2 (N.modify j fun p=>(p.1,.ref (un l 0 0 0))) en) ⟨⟨K⟩⟩ (.ref (un l 0 0 0))]) 8 (fun z D l=>[(0,un l 1 0 0)]) (fun z=>[10]) [false,true,false,false,true,true,false] (hD 10 41 55343777775553477777555345543336863300331) 0 [0,0,0,0,0,2,3] 0 [DW,DF,qQ] (fun E0 ke=>?_)
 refine .q (AQ hW hi) fun y y y=>.q (Bg hO rfl t5 (by unfold AN; rw [vh]; have:=AD; show ol.length+1≤_; lia)) fun u1 y g1=>?_
 obtain rfl:eD (u1.d 0)=rT:=g1 rfl
 refine .q (Fl (n:=0) (ss:=ol++[X]) (by (try simp only [un,ud,CI]); rw [t5]; unfold AN; rw [vl]; rfl) (by (try simp only [un,ud,CI]); rw [vn]; show ol.length+1 < 64; lia) qY) fun y y g2=>.q ((let ⟨_,h2⟩:=g2 rfl; GN h2 hK sF uK)) fun y y y=>.q (ID (w:=wf w b b2) hF (by rw [hx]; rfl)) fun y y y=>.q (AZ (w:=wf w b b2) hF hx) fun y y y=>.q (AZ (w:=wf w b b2) hF hx) fun u6 y y=>.cons (Sy (w:=wf w b b2) hF hj rfl) fun u7 y g7=>.nil fun P hP=>ke _ _ ⟨eD (u7.d 0),rfl,hP,fun A a=>?_⟩
 try dsimp only
 have a0:A 0=u6.n 0 0:=a _ (.head _)
 exact g7.1.1.trans (vm (fun z:Nat=>A7 w.2 (N.modify j fun p=>(p.1,Value.ref z)) en) a0.symm)
def iE(P:zp)(aI aW:Nat)(fr aC i:Nat)(DL pz:zu):Spec:=⟨SD P aI fr aC,[aI,aW],[AV aW i,A0 DL],fun A=>.fin (.done .next),fun A=>[Bn i,A0 pz],fun A=>[]⟩
theorem SA(aI aW:Nat)(fr aC i:Nat)(DL pz:zu)(vs:zf)(e:Nat)(hL:DL=.seq ⟨vs⟩ e)(hi:vs.length≤i)(eL:pz=DL)(I:zd):(iE w.2 aI aW fr aC i DL pz).PI w b b2 4 St I:=Bu (fun D=>iE w.2 aI aW fr aC i (gD D 0) pz) (fun D l=>iE w.2 aI aW fr aC i (gD D 0) (ud l 0 2)) (fun D=>(Ag [BM "list_iterator.__next__" 0 1 (fun X=>AV (A4 X 1) i) (Bn i) (A0 (gD D 0))])) 1 [] [false,true] [1,4] 0 [] 1 [DL] fun E0 ke=>.cons (Ay (by decide) hL hi) fun u0 q g0=>.pO ke (@id (eD (u0.d 2)=pz) (g0.1.1.trans eL.symm) ▸ rfl)
section
def ins(x:Nat):zl→zl
 | []=>[x]
 | y::l=>if x≤y then x::y::l else y::ins x l
def Ah(l:zl):zl:=l.foldr ins []
def AU(nm:zm)(k:zl):Str:=Builtin.Str.glued Gp (k.map nm)
structure DQ(nm:zm):Prop where
 inj:∀ a b,nm a=nm b→a=b
 r9:∀ k k',AU nm k=AU nm k'→k=k'
 sS:∀ (l:zl) (qG:zj),qG.Perm (l.map nm)→PyProof.Rows.sortedS qG=true→qG=(Ah l).map nm
 sD:∀ k:zl,k.length≤50→Builtin.Str.tooLong ((k.map nm).toArray.foldl (· + ·.length+Gp.length) 0)=false
 rN:∀ k:zl,k.length≤50→(AU nm k).cps.toList.length≤sizeLine
theorem Lz(x:Nat):∀ l:zl,(ins x l).length=l.length+1
 | []=>rfl
 | y::l=>by
  show (if x≤y then x::y::l else y::ins x l).length=_
  split
  ·rfl
  ·rw [vr,Lz x l]; rfl
theorem LB:∀ l:zl,(Ah l).length=l.length
 | []=>rfl
 | x::l=>by show (ins x (Ah l)).length=_; rw [Lz,LB l]; rfl
structure EN where
 aT:Nat
 aO:Nat
 os:zl
 w:Nat
noncomputable def EN.pr(e:EN):zl×Nat:=(e.os,e.w)
def Fq(nm:zm)(e:EN):Lp:=[(e.aT,AG (.seq #[.ref e.aO,.int (e.w:Nat) 0] 0)),(e.aO,A0 (.seq ⟨AB nm e.os⟩ 0))]
def H6(nm:zm)(es:List EN):List (Str×zq):=es.map fun e=>(AU nm (Ah e.os),.ref e.aT)
def FO(F:zb)(os:zl)(w:Nat):zb:=match F.findIdx? (fun e=>Ah e.1==Ah os) with
 | some j=>F.modify j fun e=>(e.1,e.2+w)
 | none=>F++[(os,w)]
inductive DY (P:zp) (nm:zm) (Z:Lp) (F:zb) (D:zu) (L:Lp):Prop
 | mk (es:List EN) (M:Lp) (he:es.map EN.pr=F) (hD:D=A7 P (H6 nm es) es.length) (pm:L.Perm (es.flatMap (Fq nm)++(M++Z))):DY P nm Z F D L
theorem M7{nm:zm}(r9:∀ k k',AU nm k=AU nm k'→k=k')(os:zl):∀ es:List EN,(H6 nm es).findIdx? (fun q=>q.1==AU nm (Ah os))=(es.map EN.pr).findIdx? fun e=>Ah e.1==Ah os
 | []=>rfl
 | e::es=>by
  have ih:=M7 r9 os es
  show List.findIdx? _ ((AU nm (Ah e.os),Value.ref e.aT)::H6 nm es)=List.findIdx? _ (e.pr::es.map EN.pr)
  rw [xw,xw,ih]
  have:(AU nm (Ah e.os)==AU nm (Ah os))=(Ah e.pr.1==Ah os):=by
   by_cases h:Ah e.os=Ah os
   ·show (AU nm (Ah e.os)==AU nm (Ah os))=(Ah e.os==Ah os); rw [h]; simp
   ·have h2:AU nm (Ah e.os)≠AU nm (Ah os):=fun k=>h (r9 _ _ k)
    show (AU nm (Ah e.os)==AU nm (Ah os))=(Ah e.os==Ah os)
    rw [z8.mpr h,z8.mpr h2]
  rw [this]
theorem UM{N:List (Str×zq)}{x:Str}(h:N.findIdx? (fun q=>q.1==x)=none):A' N x=none:=by
 unfold A'
 rw [yp,zK]
 intro q hq
 exact yc.mp h q hq ▸ wX
theorem Lo:∀ {N:List (Str×zq)} {x:Str} {j:Nat},N.findIdx? (fun q=>q.1==x)=some j→∃ q,N[j]?=some q∧A' N x=some q.2
 | [],_,_,h=>by cases h
 | q::N,x,j,h=>by
  rw [xw] at h
  unfold A'
  cases e:(q.1==x) with
  | true=>
   rw [e] at h
   cases h
   exact ⟨q,rfl,by rw [yn (by exact e)]; rfl⟩
  | false=>
   rw [e] at h
   cases h2:N.findIdx? (fun q=>q.1==x) with
   | none=>rw [h2] at h; cases h
   | some k=>
    rw [h2] at h
    cases h
    obtain ⟨q',a,b⟩:=Lo h2
    exact ⟨q',a,by rw [yt (by rw [e]; exact wX)]; exact b⟩
theorem Cc{α:Type}:∀ {l:List α} {j:Nat} {a:α},l[j]?=some a→l.Perm (a::l.eraseIdx j)
 | [],j,_,h=>by cases j<;>cases h
 | b::l,0,a,h=>by cases h; exact .refl _
 | b::l,j+1,a,h=>((Cc (l:=l) (j:=j) h).cons b).trans (.swap _ _ _)
theorem FD{α:Type}{g:α→α}:∀ {l:List α} {j:Nat} {a:α},l[j]?=some a→(l.modify j g).Perm (g a::l.eraseIdx j)
 | [],j,_,h=>by cases j<;>cases h
 | b::l,0,a,h=>by cases h; exact .refl _
 | b::l,j+1,a,h=>((FD (l:=l) (j:=j) h).cons b).trans (.swap _ _ _)
theorem bB{α:Type}(I W f C D O t o:α)(F T M Z:List α)(h:F.Perm ([t,o]++T)):([I,W,f,C,D,O]++(F++(M++Z))).Perm ([I,W,f,C,D,O,t]++(o::(T++(M++Z)))):=
 FQ [[I],[W],[f],[C],[D],[O],[t],[o],F,T,M,Z] (.a (.q [0,1,2,3,4,5]) (.r [8,10] (.l 11))) (.a (.q [0,1,2,3,4,5,6]) (.r [7,9,10] (.l 11))) (.l 8) (.a (.q [6,7]) (.l 9)) h rfl
theorem bA{α:Type}(I W f C D O t t2 o:α)(F T M Z:List α)(h:F.Perm ([t2,o]++T)):(([I,W,f,C,D,O,t]++(o::(T++(M++Z))))++[t2]).Perm ([I,W,f,C,D,O]++(F++((t::M)++Z))):=
 FQ [[I],[W],[f],[C],[D],[O],[t],[t2],[o],F,T,M,Z] (.a (.a (.q [0,1,2,3,4,5,6]) (.r [8,10,11] (.l 12))) (.q [7])) (.a (.q [0,1,2,3,4,5]) (.a (.l 9) (.a (.r [6] (.l 11)) (.l 12)))) (.a (.q [7,8]) (.l 10)) (.l 9) h.symm rfl
theorem b9{α:Type}(t o:α)(S F M Z:List α):((S++(F++(M++Z)))++[t,o]).Perm (S++((F++[t,o])++(M++Z))):=
 Dm [S,F,M,Z,[t],[o]] (.a (.r [0,1,2] (.l 3)) (.q [4,5])) (.a (.l 0) (.a (.a (.l 1) (.q [4,5])) (.a (.l 2) (.l 3)))) rfl
def Jo(nm:zm)(os:zl):zl→Option (Str×Str)→Option (Str×Str)
 | [],s=>s
 | c::r,_=>Jo nm os r (some (nm c,AU nm (Ah (os++[c]))))
section
variable{w:zt}{b b2:Bool}{nm:zm}(hn:DQ nm)(Z:Lp)(aI aW fr aC aF aO pL pM:Nat)(sets most st:Int)(pY:Nat)(Wt os:zl)(eW eo:Nat)
inductive dy (P:zp) (nm:zm) (Z:Lp) (aI aW fr aC aF aO pL pM:Nat) (sets most st:Int) (pY:Nat) (Wt os:zl) (eW eo:Nat) (It:Obj) (nk:Option (Str×Str)) (F:zb) (L:Lp):Prop
 | mk (D:zu) (Q:Lp) (h:DY P nm Z F D Q) (pm:L.Perm ([(aI,It),(aW,A0 (.seq ⟨AB nm Wt⟩ eW)),(fr,HH P pL pM sets most (some st) (some (aO,(pY:Nat),aW)) nk),(aC,B0 aF),(aF,A6 D),(aO,A0 (.seq ⟨AB nm os⟩ eo))]++Q)):dy P nm Z aI aW fr aC aF aO pL pM sets most st pY Wt os eW eo It nk F L
include hn
theorem S6{i c:Nat}(hi:Wt[i]?=some c)(nk:Option (Str×Str)){F:zb}(hF:F.length≤900)(ho:os.length≤40) :
  AO w b b2 4 (fun z=>True) (SD w.2 aI fr aC) (dy w.2 nm Z aI aW fr aC aF aO pL pM sets most st pY Wt os eW eo (AV aW i) nk F)
   (fun e L=>e=.fin (.again (SD w.2 aI fr aC))∧dy w.2 nm Z aI aW fr aC aF aO pL pM sets most st pY Wt os eW eo (AV aW ((i+1:Nat):Int)) (some (nm c,AU nm (Ah (os++[c])))) (FO F (os++[c]) pY) L):=by
 rintro L0 ⟨D,Q,⟨es,M,rfl,rfl,pmQ⟩,pm⟩
 have hv:(AB nm Wt)[i]?=some (.str (nm c) 0):=by unfold AB; rw [wI,hi]; rfl
 have hl:(os++[c]).length≤50:=by rw [vn]; show os.length+1≤50; lia
 have hl2:(Ah (os++[c])).length≤50:=by rw [LB]; exact hl
 have eW:(os++[c]).map nm=os.map nm++[nm c]:=by rw [vl]; rfl
 have qY:∀ qG:zj,qG.Perm (os.map nm++[nm c])→PyProof.Rows.sortedS qG=true→qG=(Ah (os++[c])).map nm:=fun qG p k=>hn.sS _ qG (by rw [eW]; exact p) k
 have hes:es.length≤900:=by rw [vh] at hF; exact hF
 have eN2:AB nm (os++[c])=AN (os.map nm)++[.str (nm c) 0]:=by rw [Dh,eW]; unfold AN; rw [vl]; rfl
 have idx:=M7 hn.r9 (os++[c]) es
 unfold FO
 cases hj:(es.map EN.pr).findIdx? (fun e=>Ah e.1==Ah (os++[c])) with
 | none=>
  rw [hj] at idx
  refine Spec.pW.kq (Pre:=fun L=>L=L0) (Spec.px.d (S9 (St:=fun z=>True) w b b2 aI aW fr aC aF aO nk pL pM i es.length sets most st (pY:Nat) (nm c) (AU nm (Ah (os++[c]))).cps.toList (os.map nm) ((Ah (os++[c])).map nm) (H6 nm es) _ _ (.seq ⟨AB nm os⟩ eo) _ (.seq ⟨AB nm (os++[c])⟩ 0) (AB nm Wt) _ rfl hv eo (by rw [Dh]) (by rw [vh]; lia) rfl qY rfl (hn.sD _ hl2) (hn.rN _ hl2) rfl (by unfold H6; rw [vh]; lia) (UM idx) (by rw [eN2]) (fun L=>L=Q))) (fun L e=>⟨Q,e ▸ pm,rfl⟩) ?_ (hp:=rfl) (hF:=fun z=>rfl) (hc:=fun z z=>rfl) L0 rfl
  rintro D2 A1 P' ⟨rj,rfl⟩
  have rj:D2=A7 w.2 (H6 nm es++[(AU nm (Ah (os++[c])),.ref (A1 0))]) (es.length+1):=rj
  refine ⟨_,(xA _ (vy _ pmQ)).trans (b9 _ _ _ _ _ _),rfl,D2,_,⟨es++[⟨A1 0,A1 1,os++[c],pY⟩],M,?_,?_,.refl _⟩,?_⟩
  ·rw [vl]; rfl
  ·rw [rj,vn]; unfold H6; rw [vl]; rfl
  ·rw [wo]; exact .refl _
 | some j=>
  rw [hj] at idx
  obtain ⟨q,hq,hlk⟩:=Lo idx
  have hq:(es.map fun e=>(AU nm (Ah e.os),Value.ref e.aT))[j]?=some q:=hq
  rw [wI] at hq
  obtain ⟨e,he,rfl⟩:=xZ.mp hq
  have p1:(es.flatMap (Fq nm)).Perm (Fq nm e++(es.eraseIdx j).flatMap (Fq nm)):=by
   have:=(Cc he).flatMap_right (Fq nm)
   rwa [wO] at this
  refine Spec.pW.kq (Pre:=fun L=>L=L0) (Spec.px.d (S8 (St:=fun z=>True) w b b2 aI aW fr aC aF aO e.aT e.aO j (e.w:Nat) nk pL pM i es.length sets most st (pY:Nat) (nm c) (AU nm (Ah (os++[c]))).cps.toList (os.map nm) ((Ah (os++[c])).map nm) (H6 nm es) _ _ (.seq ⟨AB nm os⟩ eo) _ (AB nm Wt) _ rfl hv eo (by rw [Dh]) (by rw [vh]; lia) rfl qY rfl (hn.sD _ hl2) (hn.rN _ hl2) rfl (by unfold H6; rw [vh]; lia) hlk idx (fun L=>L=(e.aO,A0 (.seq ⟨AB nm e.os⟩ 0))::((es.eraseIdx j).flatMap (Fq nm)++(M++Z))))) (fun L e2=>⟨_,((e2 ▸ pm).trans (vy _ pmQ)).trans (bB _ _ _ _ _ _ _ _ _ _ _ _ p1),rfl⟩) ?_ (hp:=rfl) (hF:=fun z=>rfl) (hc:=fun z z=>rfl) L0 rfl
  rintro D2 A1 P' ⟨rj,rfl⟩
  have rj:D2=A7 w.2 ((H6 nm es).modify j fun p=>(p.1,.ref (A1 0))) es.length:=rj
  have p2:((es.modify j fun e=>{ e with aT:=A1 0,w:=e.w+pY }).flatMap (Fq nm)).Perm ([(A1 0,AG (.seq #[.ref e.aO,.int ((e.w:Nat)+(pY:Nat)) 0] 0)),(e.aO,A0 (.seq ⟨AB nm e.os⟩ 0))]++(es.eraseIdx j).flatMap (Fq nm)):=by
   have:=(FD (g:=fun e:EN=>{ e with aT:=A1 0,w:=e.w+pY }) he).flatMap_right (Fq nm)
   rw [wO] at this
   refine this.trans (.of_eq ?_)
   unfold Fq
   rw [Int.natCast_add]
  refine ⟨_,bA _ _ _ _ _ _ _ _ _ _ _ _ _ p2,rfl,D2,_,⟨es.modify j fun e=>{ e with aT:=A1 0,w:=e.w+pY },_,?_,?_,.refl _⟩,.refl _⟩
  ·rw [EM (k:=fun e:zl×Nat=>(e.1,e.2+pY)) (fun e=>rfl)]
  ·rw [rj,List.length_modify]; unfold H6; rw [EM (k:=fun p:Str×zq=>(p.1,Value.ref (A1 0))) (fun e=>rfl)]
theorem Iq(F:zb)(os:zl)(w:Nat):(FO F os w).length≤F.length+1:=by
 unfold FO
 split
 ·rw [List.length_modify]; exact y7 _
 ·rw [vn]; exact vp _
theorem S7(ho:os.length≤40):∀ (n i:Nat) (nk:Option (Str×Str)) (F:zb),i+n=Wt.length→F.length+n≤900→
  AO w b b2 4 (fun q=>True) (SD w.2 aI fr aC) (dy w.2 nm Z aI aW fr aC aF aO pL pM sets most st pY Wt os eW eo (AV aW i) nk F)
   (fun e L=>e=.fin (.done .next)∧dy w.2 nm Z aI aW fr aC aF aO pL pM sets most st pY Wt os eW eo (Bn (Wt.length:Nat)) (Jo nm os (Wt.drop i) nk) ((Wt.drop i).foldl (fun F c=>FO F (os++[c]) pY) F) L):=by
 intro n
 induction n with
 | zero=>
  intro i nk F hi hF
  have hi:i=Wt.length:=by lia
  subst hi
  rw [xC]
  rintro L0 ⟨D,Q,hQ,pm⟩
  exact ((SA (St:=fun q=>True) w b b2 aI aW fr aC Wt.length (.seq ⟨AB nm Wt⟩ eW) (.seq ⟨AB nm Wt⟩ eW) _ _ rfl (by simp [AB]) rfl (fun L=>L=[(fr,HH w.2 pL pM sets most (some st) (some (aO,(pY:Nat),aW)) nk),(aC,B0 aF),(aF,A6 D),(aO,A0 (.seq ⟨AB nm os⟩ eo))]++Q)).kp (q8:=fun L=>L=L0) (fun L e=>e ▸ pm) fun A1=>⟨_,.refl _,rfl,D,Q,hQ,.refl _⟩) L0 rfl
 | succ n ih=>
  intro i nk F hi hF
  have hlt:i < Wt.length:=Ap hi
  have hd:Wt.drop i=Wt[i]::Wt.drop (i+1):=wH hlt
  rw [hd]
  have:=Iq hn F (os++[Wt[i]]) pY
  exact AK.go (fun q q q h=>h) (by kernel_rfl) (S6 (w:=w) (b:=b) (b2:=b2) hn Z aI aW fr aC aF aO pL pM sets most st pY Wt os eW eo (w0 hlt) nk (by lia) ho) (ih (i+1) _ _ (Ci hi) (by lia))
end
end
def cu(P:zp)(aI aW fr aC aF aO pL pM:Nat)(sets most st pY:Int)(DW qQ DF:zu)(nk ro:Option (Str×Str))(z:zu×zu):Spec:=
 ⟨SD P aI fr aC,[aI,aW,fr,aC,aF,aO],[AV aW 0,A0 DW,HH P pL pM sets most (some st) (some (aO,pY,aW)) nk,B0 aF,A6 DF,A0 qQ],fun q=>.fin (.done .next),fun q=>[QX z.1,A0 DW,HH P pL pM sets most (some st) (some (aO,pY,aW)) ro,B0 aF,A6 z.2,A0 qQ],fun q=>[]⟩
variable{w b b2}
theorem Yy{nm:zm}(hn:DQ nm)(Z:Lp)(aI aW fr aC aF aO pL pM:Nat)(sets most st:Int)(pY:Nat)(Wt os:zl){eW eo:Nat}{DW qQ DF:zu}(hW:DW=.seq ⟨AB nm Wt⟩ eW)(hO:qQ=.seq ⟨AB nm os⟩ eo)(ho:os.length≤40)(nk:Option (Str×Str))(F:zb)(hF:F.length+Wt.length≤900) :
  Spec.pW (cu w.2 aI aW fr aC aF aO pL pM sets most st (pY:Nat) DW qQ DF nk (Jo nm os Wt nk)) (fun z q P'=>DY w.2 nm Z (Wt.foldl (fun F c=>FO F (os++[c]) pY) F) z.2 P') (cu w.2 aI aW fr aC aF aO pL pM sets most st (pY:Nat) DW qQ DF nk (Jo nm os Wt nk) (.plain,.plain)) (wf w b b2) (Al ⟨4,fun q=>True⟩) (DY w.2 nm Z F DF):=by
 subst hW hO
 refine AK.toD (S7 (w:=w) (b:=b) (b2:=b2) hn Z aI aW fr aC aF aO pL pM sets most st pY Wt os eW eo ho Wt.length 0 nk F (by lia) hF) ?_ ?_
 ·intro P hP
  exact ⟨_,.refl _,DF,P,hP,.refl _⟩
 ·rintro e L ⟨rfl,D,Q,hQ,pm⟩
  exact ⟨((Bn (Wt.length:Nat)).data,D),fun q=>0,Q,hQ,rfl,pm⟩
theorem ak(P:zp)(fr aC:Nat):DH (AJ P fr aC):=by
 have h:(AJ P fr aC).scope.kind=.function:=by kernel_rfl
 exact ⟨by rw [h]; decide,by kernel_rfl⟩
def mJ(P:zp)(pL aO:Nat)(pX DO DR:zu):Spec:=
 ⟨.call (.ref 949) ⟨[.ref pL,.ref aO],[]⟩,[pL,aO],[A0 pX,A0 DO],fun A=>.fin (.done (.ret (.ref (A 0)))),fun q=>[A0 pX,A0 DO],fun q=>[A0 DR]⟩
theorem Spec.pP.tV{S:Spec}{w:zt}{Sh:Pos→ze→Prop}{R:Lp}(h:S.pP w Sh (fun P=>P=R) (fun P=>∃ L,P.Perm (R++L))):S.pP w Sh (fun P=>P=R) (fun P=>P=R):=by
 rintro P rfl
 refine (h P rfl).drop ?_
 rintro e L ⟨A,P',⟨M,p⟩,sub,he,rfl⟩
 exact ⟨_,M,(p.append_left _).trans (.of_eq (vj _ _ _).symm),A,P,rfl,fun q m=>m,he,rfl⟩
theorem Wm{nm:zm}(inj:∀ a b,nm a=nm b→a=b){R:Lp}{E:zi}(hE:AW E R){ts:zl}{ns:za}(nd:F5 nm R ts ns)(hp:H8 ns){en pL aO:Nat}{pX:zu}(hN:pX=.seq ⟨ts.map .ref⟩ en){X:Str}(hX:CX nm ns none=some X){os gs:zl}(h:Vb ns os gs){eo:Nat}{DO DR:zu}(hO:DO=.seq ⟨AB nm os⟩ eo)(hR:DR=.seq ⟨AB nm (AA os gs)⟩ (AA os gs).length) :
  (mJ w.2 pL aO pX DO DR).PI w b b2 4 (Ax E zw) (fun P=>P=R):=
 Spec.pP.tV (Wl w b b2 pL aO nm gs _ _ _ _ pX pX DO DO _ DR _ inj hE nd hp hN hX h hO rfl rfl rfl rfl rfl hR rfl rfl rfl)
def md(P:zp)(pL aO fr aC:Nat)(pX DO DR:zu):A8:=Cm (fun q=>some [IL (AJ P fr aC)]) [3,5,2] [true,true,false] [true] (fun x=>(mJ P pL aO pX DO DR).own fr (B9 x 2))
theorem F5.perm{nm:zm}{R R':Lp}{ts:zl}{ns:za}(h:F5 nm R ts ns){X:Lp}(p:R'.Perm (X++R)):F5 nm R' ts ns:=
 ⟨h.len,fun i t c ys h1 h2=>let ⟨a,e,rest,q⟩:=h.pk i t c ys h1 h2; ⟨a,e,X++rest,(p.trans (q.append_left X)).trans (Dm [X,[(t,_)],[(a,_)],rest] (.r [0,1,2] (.l 3)) (.r [1,2,0] (.l 3)) rfl)⟩⟩
theorem AW.perm{E:zi}{R R' X:Lp}(h:AW E R)(p:R'.Perm (X++R)):AW E R':=h.mono fun q m=>p.mem_iff.mpr (vt _ m)
theorem DY.sub{P:zp}{nm:zm}{Z:Lp}{F:zb}{D:zu}{L:Lp}(h:DY P nm Z F D L):∃ X,L.Perm (X++Z):=by
 obtain ⟨es,M,_,_,pm⟩:=h
 exact ⟨_,pm.trans (.of_eq (vj _ _ _).symm)⟩
theorem Xg{nm:zm}(inj:∀ a b,nm a=nm b→a=b){Z:Lp}{E:zi}(hE:AW E Z){ts:zl}{ns:za}(nd:F5 nm Z ts ns)(hp:H8 ns){en pL aO fr aC:Nat}{pX:zu}(hN:pX=.seq ⟨ts.map .ref⟩ en){X:Str}(hX:CX nm ns none=some X){os gs:zl}(h:Vb ns os gs){eo:Nat}{DO DR:zu}(hO:DO=.seq ⟨AB nm os⟩ eo)(vA:DR=.seq ⟨AB nm (AA os gs)⟩ (AA os gs).length){F:zb}{DF:zu} :
  (md w.2 pL aO fr aC pX DO DR).qM pw (wf w b b2) (A5 w.2) ⟨3,Ax (AJ w.2 fr aC::E) zw⟩ (DY w.2 nm Z F DF) (fun q q P'=>DY w.2 nm Z F DF P'):=
 (A8.qM.all (I:=DY w.2 nm Z F DF) (O:=fun R' q q P'=>P'=R') rfl fun R' hR=>by
  obtain ⟨Y,p⟩:=hR.sub
  exact Ab (w:=wf w b b2) (Sf:=fun q=>Al ⟨4,Ax (AJ w.2 fr aC::E) zw⟩) (fun x=>Spec.qm (Wm inj ((hE.perm p).cons (ak w.2 fr aC) rfl) ((nd.perm p).cons (fr,Bp (B9 x 2))) hp hN hX h hO vA) rfl (fun q=>rfl)) (BK (St:=⟨3,Ax (AJ w.2 fr aC::E) zw⟩) (n:=4) (Sf:=fun q=>Ax (AJ w.2 fr aC::E) zw) (V:=fun q=>[IL (AJ w.2 fr aC)]) (by rfl) fun x q c=>c.app (V:=[IL (AJ w.2 fr aC)]) (E':=[]) (qe:=[]) rfl rfl) (by decide) (fun q=>⟨rfl,rfl,fun q=>rfl⟩) (fun q q=>rfl)).mono (fun q h=>h) fun _ _ P' _ ⟨R',hR,e⟩=>by subst e; exact hR
def nB(P:zp)(aC aF aO pL pM:Nat)(sets most st pY:Int)(DW qQ DF:zu)(nk ro:Option (Str×Str)):A8:=KJ (fun q=>none) [12,11,2,6,7,5] [true,true,false,false,true,true] [] (fun x=>cu P (A4 x 12) (A4 x 11) (A4 x 2) aC aF aO pL pM sets most st pY DW qQ DF nk ro (.plain,.plain)) (fun x=>cu P (A4 x 12) (A4 x 11) (A4 x 2) aC aF aO pL pM sets most st pY DW qQ DF nk ro)
theorem Y8{nm:zm}(hn:DQ nm)(Z:Lp){aC aF aO pL pM:Nat}{sets most st:Int}{pY:Nat}{Wt os:zl}{eW eo:Nat}{DW qQ DF:zu}(hW:DW=.seq ⟨AB nm Wt⟩ eW)(hO:qQ=.seq ⟨AB nm os⟩ eo)(ho:os.length≤40){nk ro:Option (Str×Str)}(hk:ro=Jo nm os Wt nk){F:zb}(hF:F.length+Wt.length≤900){St:zc} :
  (nB w.2 aC aF aO pL pM sets most st (pY:Nat) DW qQ DF nk ro).qM pw (wf w b b2) (A5 w.2) ⟨3,St⟩ (DY w.2 nm Z F DF) (fun u q P'=>DY w.2 nm Z (Wt.foldl (fun F c=>FO F (os++[c]) pY) F) (eD (u.d 8)) P'):=by
 subst hk
 exact (De (w:=wf w b b2) (F0:=fun x=>cu w.2 (A4 x 12) (A4 x 11) (A4 x 2) aC aF aO pL pM sets most st (pY:Nat) DW qQ DF nk (Jo nm os Wt nk)) (O:=fun q z q P'=>DY w.2 nm Z (Wt.foldl (fun F c=>FO F (os++[c]) pY) F) z.2 P') (fun x=>Yy hn Z (A4 x 12) (A4 x 11) (A4 x 2) aC aF aO pL pM sets most st pY Wt os hW hO ho nk F hF) (fun q q=>⟨rfl,rfl,rfl⟩) (fun q q q q q=>rfl) (CO (by rfl)) (by decide) (fun q=>⟨rfl,rfl,fun q q=>rfl⟩) (fun q q=>rfl)).mono (fun q h=>h) fun u x P' _ ⟨z,a,h⟩=>by
  have e:eD (u.d 8)=z.2:=a.2.2.1
  rw [e]; exact h
def ek(P:zp)(pL pM:Nat)(sets most st:Int):Option ((Nat×Int×Nat)×Option (Str×Str))→Obj
 | none=>HH P pL pM sets most (some st) none none
 | some (o,nk)=>HH P pL pM sets most (some st) (some o) nk
noncomputable def NC:Option ((Nat×Int×Nat)×Option (Str×Str))→Option (Str×Str)
 | none=>none
 | some (_,nk)=>nk
def ra(P:zp)(aI pM fr pL aT aO aC aF:Nat)(on:Option ((Nat×Int×Nat)×Option (Str×Str)))(sC:Option (Str×Str))(i pY:Nat)(sets most st nW:Int)(qR pX pj qQ vK rb DF r7 sd sx:zu):Spec:=⟨XT P aI fr aC,[aI,pM,fr,pL,aT,aO,aC,aF],[AV pM i,A0 qR,ek P pL pM sets most st on,A0 pX,AG (.seq #[.ref aO,.int (pY:Nat) 0] 0),A0 qQ,B0 aF,A6 DF],fun A=>.fin (.again (XT P aI fr aC)),fun A=>[AV pM ((i:Int)+1),A0 qR,HH P pL pM sets (Oh most nW) (some st) (some (aO,(pY:Nat),A 0)) sC,A0 pj,AG (.seq #[.ref aO,.int (pY:Nat) 0] 0),A0 rb,B0 aF,A6 r7],fun A=>[A0 sx]⟩
variable{St:zc}(w b b2)
theorem XS(aI pM fr pL aT aO aC aF:Nat)(on:Option ((Nat×Int×Nat)×Option (Str×Str)))(sC:Option (Str×Str))(i pY:Nat)(sets most st nW:Int)(qR pX pj qQ rb DF sd sx:zu){nm:zm}(hn:DQ nm){Z:Lp}{E:zi}(hE:AW E Z){ts:zl}{ns:za}(nd:F5 nm Z ts ns)(hp:H8 ns){en:Nat}(hN:pX=.seq ⟨ts.map .ref⟩ en){X:Str}(hX:CX nm ns none=some X){ol gs:zl}(h:Vb ns ol gs){eo:Nat}(hO:qQ=.seq ⟨AB nm ol⟩ eo)(ho:ol.length≤40){F:zb}(hF:F.length+(AA ol gs).length≤900)(hW:sd=.seq ⟨AB nm (AA ol gs)⟩ (AA ol gs).length)(uo:nW=(AA ol gs).length)(hk:sC=Jo nm ol (AA ol gs) (NC on))(lv:zf)(el:Nat)(hL:qR=.seq ⟨lv⟩ el)(hi:lv[i]?=some (.ref aT))(eN:pj=pX)(eO:rb=qQ)(eW:sx=sd):Spec.pW (fun (r7:zu)=>ra w.2 aI pM fr pL aT aO aC aF on sC i pY sets most st nW qR pX pj qQ .plain rb DF r7 sd sx) (fun (r7:zu) A P'=>(True)∧(DY w.2 nm Z (@List.foldl _ _ (fun F c=>FO F (ol++[c]) pY) F (AA ol gs)) r7) P') (ra w.2 aI pM fr pL aT aO aC aF on sC i pY sets most st nW qR pX pj qQ .plain rb DF .plain sd sx) (wf w b b2) (Al (⟨3,Ax (AJ w.2 fr aC::E) zw⟩)) (DY w.2 nm Z F DF):=by
 refine Rd (K0:=fun (r7:zu)=>DY w.2 nm Z (@List.foldl _ _ (fun F c=>FO F (ol++[c]) pY) F (AA ol gs)) r7) ((Cs.on on).pp (Cs.oi sC)) _ (fun (r7:zu) A=>True) (fun z D=>ra w.2 aI pM fr pL aT aO aC aF z.1 z.2 i pY sets most st nW (gD D 0) (gD D 1) pj (gD D 2) .plain rb (gD D 3) .plain sd sx) (fun z D l=>ra w.2 aI pM fr pL aT aO aC aF z.1 z.2 i pY sets most st nW (gD D 0) (gD D 1) (ud l 3 0) (gD D 2) (ud l 3 2) (ud l 0 10) (gD D 3) (ud l 0 8) (ud l 3 1) (ud l 0 2)) (fun z D=>[fun y=>Au 0 1 i (gD D 0) (.ref aT),fun y=>md w.2 pL aO fr aC (gD D 1) (gD D 2) sd,fun l=>FA 11 (ud l 0 1) nW,fun y=>fI w.2 most nW,fun l=>nB w.2 aC aF aO pL pM sets (Oh most nW) st (pY:Nat) (ud l 2 1) (ud l 2 2) (gD D 3) (NC z.1) z.2]) 5 (fun z D l=>[]) (fun z=>[11]) [false,true,false,true,false,true,false,true] (hD 15 52 13253236147111709524617206635943511161791615485971729011114891) 0 [4,0,0,1] 0 [qR,pX,qQ,DF] (fun E0 ke=>?_)
 refine .q (AQ hL hi) fun y y y=>.qA (Xg hn.inj hE nd hp hN hX h hO hW) fun u1 y g1=>?_
 obtain rfl:eD (u1.d 1)=sd:=g1.2.1
 exact .q (Bz hW (by (try simp only [un,ud,CI]); rw [uo]; unfold AB; rw [vh]) (by unfold AB; rw [vh]; have:=h.g; have:(AA ol gs).length≤gs.length:=xy _ _; lia)) fun y y y=>.cons (KR (w:=w) (b1:=b) (b2:=b2) (by rfl)) fun y y y=>.qA (Y8 hn Z hW (g1.1.2.1.trans hO) ho hk hF) fun u4 y g4=>.nil fun P hP=>ke _ _ ⟨eD (u4.d 8),@id (eD (u1.d 0)=pj) (g1.1.1.trans eN.symm) ▸ @id (eD (u4.d 10)=rb) (((let ⟨_,k⟩:=g4.1; k.2.2.2.1).trans g1.1.2.1).trans eO.symm) ▸ @id (eD (u4.d 2)=sx) ((let ⟨_,k⟩:=g4.1; k.2.1).trans eW.symm) ▸ rfl,hP,fun y y=>trivial⟩
def iF(P:zp)(aI pM:Nat)(fr aC i:Nat)(DL pz:zu):Spec:=⟨XT P aI fr aC,[aI,pM],[AV pM i,A0 DL],fun A=>.fin (.done .next),fun A=>[Bn i,A0 pz],fun A=>[]⟩
theorem SG(aI pM:Nat)(fr aC i:Nat)(DL pz:zu)(vs:zf)(e:Nat)(hL:DL=.seq ⟨vs⟩ e)(hi:vs.length≤i)(eL:pz=DL)(I:zd):(iF w.2 aI pM fr aC i DL pz).PI w b b2 3 St I:=Bu (fun D=>iF w.2 aI pM fr aC i (gD D 0) pz) (fun D l=>iF w.2 aI pM fr aC i (gD D 0) (ud l 0 2)) (fun D=>(Ag [BM "list_iterator.__next__" 0 1 (fun X=>AV (A4 X 1) i) (Bn i) (A0 (gD D 0))])) 1 [] [false,true] [1,4] 0 [] 1 [DL] fun E0 ke=>.cons (Ay (by decide) hL hi) fun u0 q g0=>.pO ke (@id (eD (u0.d 2)=pz) (g0.1.1.trans eL.symm) ▸ rfl)
section
theorem DY.split{P:zp}{nm:zm}{Z rest:Lp}{F:zb}{D:zu}{L:Lp}{t o:Nat×Obj}(h:DY P nm Z F D L)(p:Z.Perm (t::o::rest)):∃ L1,L.Perm (t::o::L1)∧DY P nm rest F D L1:=by
 obtain ⟨es,M,he,hD,pm⟩:=h
 exact ⟨_,pm.trans (SS _ _ _ _ _ p),es,M,he,hD,.refl _⟩
theorem DY.join{P:zp}{nm:zm}{Z rest:Lp}{F:zb}{D:zu}{L:Lp}{t o:Nat×Obj}(h:DY P nm rest F D L)(p:Z.Perm (t::o::rest)):DY P nm Z F D (t::o::L):=by
 obtain ⟨es,M,he,hD,pm⟩:=h
 exact ⟨es,M,he,hD,((pm.cons o).cons t).trans (SS _ _ _ _ _ p).symm⟩
theorem DY.more{P:zp}{nm:zm}{Z:Lp}{F:zb}{D:zu}{L:Lp}(h:DY P nm Z F D L)(X:Lp):DY P nm Z F D (L++X):=by
 obtain ⟨es,M,he,hD,pm⟩:=h
 exact ⟨es,X++M,he,hD,(pm.append_right X).trans (Dm [es.flatMap (Fq nm),M,Z,X] (.a (.r [0,1] (.l 2)) (.l 3)) (.a (.l 0) (.a (.a (.l 3) (.l 1)) (.l 2))) rfl)⟩
inductive Jl (P:zp) (nm:zm) (R:Lp) (lv:zb) (e:Nat) (D:zu) (L:Lp):Prop
 | mk (es:List EN) (M:Lp) (he:es.map EN.pr=lv) (hD:D=.seq ⟨es.map fun q=>.ref q.aT⟩ e) (pm:L.Perm (es.flatMap (Fq nm)++(M++R))):Jl P nm R lv e D L
noncomputable abbrev Ve:=Option ((Nat×Int×Nat)×Option (Str×Str))
def N9(pT:zl→zl)(s:zb×Int)(e:zl×Nat):zb×Int:=
 ((AA e.1 (pT e.1)).foldl (fun F c=>FO F (e.1++[c]) e.2) s.1,Oh s.2 ((AA e.1 (pT e.1)).length:Nat))
def Gy(nm:zm)(pT:zl→zl):zb→Option (Str×Str)→Option (Str×Str)
 | [],s=>s
 | e::r,s=>Gy nm pT r (Jo nm e.1 (AA e.1 (pT e.1)) s)
noncomputable def wL:zb→Option Int→Option Int
 | [],s=>s
 | e::r,_=>wL r (some (e.2:Nat))
theorem bD{α:Type}{Q Q1:List α}(I L f N C F t o:α)(h:Q.Perm (t::o::Q1)):([I,L,f,N,C,F]++Q).Perm ([I,L,f,N,t,o,C,F]++Q1):=
 FQ [[I],[L],[f],[N],[C],[F],Q,[t],[o],Q1] (.a (.q [0,1,2,3,4,5]) (.l 6)) (.a (.q [0,1,2,3,7,8,4,5]) (.l 9)) (.l 6) (.r [7,8] (.l 9)) h rfl
theorem bC{α:Type}(I L f N C F t o g:α)(Q:List α):(([I,L,f,N,t,o,C,F]++Q)++[g]).Perm ([I,L,f,N,C,F]++((t::o::Q)++[g])):=
 Dm [[I],[L],[f],[N],[C],[F],[t],[o],[g],Q] (.a (.a (.q [0,1,2,3,6,7,4,5]) (.l 9)) (.q [8])) (.a (.q [0,1,2,3,4,5]) (.a (.r [6,7] (.l 9)) (.q [8]))) rfl
theorem Mn(os l:zl):(AA os l).length≤l.length:=xy _ _
theorem RX{nm:zm}(hn:DQ nm)(pT:zl→zl)(s:zb×Int)(e:zl×Nat):(N9 pT s e).1.length≤s.1.length+(AA e.1 (pT e.1)).length:=by
 unfold N9
 show (List.foldl _ s.1 _).length≤_
 generalize AA e.1 (pT e.1)=l
 generalize s.1=F
 induction l generalizing F with
 | nil=>exact vp _
 | cons c l ih=>
  have h1:=ih (FO F (e.1++[c]) e.2)
  have h2:=Iq hn F (e.1++[c]) e.2
  rw [yh,vr]
  lia
def Pm(P:zp)(aI pM fr pL aC aF:Nat)(sets most rW st:Int)(qR pX:zu)(on:Ve)(qP:Int)(ro:Option (Str×Str))(z:zu×zu):Spec:=
 ⟨XT P aI fr aC,[aI,pM,fr,pL,aC,aF],[AV pM 0,A0 qR,ek P pL pM sets most st on,A0 pX,B0 aF,BE [] 0],fun q=>.fin (.done .next),
  fun A=>[QX z.1,A0 qR,HH P pL pM sets rW (some st) (some (A 0,qP,A 1)) ro,A0 pX,B0 aF,A6 z.2],fun q=>[]⟩
section
variable{w:zt}{b b2:Bool}{nm:zm}(hn:DQ nm)(R:Lp){E:zi}(hE:AW E R){ts:zl}{ns:za}(nd:F5 nm R ts ns)(hp:H8 ns)(en:Nat){X:Str}(hX:CX nm ns none=some X)(pT:zl→zl)(aI pM fr pL aC aF:Nat)(sets st:Int)(es:List EN)(eL:Nat)(hg:∀ e∈es,Vb ns e.os (pT e.os)∧e.os.length≤40∧(AA e.os (pT e.os)).length≤20)
inductive dz (P:zp) (nm:zm) (R:Lp) (ts:zl) (en aI pM fr pL aC aF:Nat) (sets st:Int) (es:List EN) (eL:Nat) (It:Obj) (on:Ve) (s:zb×Int) (L:Lp):Prop
 | mk (D:zu) (Q:Lp) (h:DY P nm (es.flatMap (Fq nm)++R) s.1 D Q) (pm:L.Perm ([(aI,It),(pM,A0 (.seq ⟨es.map fun q=>.ref q.aT⟩ eL)),(fr,ek P pL pM sets s.2 st on),(pL,A0 (.seq ⟨ts.map .ref⟩ en)),(aC,B0 aF),(aF,A6 D)]++Q)):dz P nm R ts en aI pM fr pL aC aF sets st es eL It on s L
include hn hE nd hp hX hg
theorem SE{i:Nat}{e:EN}(hi:es[i]?=some e)(on:Ve)(s:zb×Int)(hs:s.1.length≤800) :
  AO w b b2 3 (Ax (AJ w.2 fr aC::E) zw) (XT w.2 aI fr aC) (dz w.2 nm R ts en aI pM fr pL aC aF sets st es eL (AV pM i) on s)
   (fun e1 L=>e1=.fin (.again (XT w.2 aI fr aC))∧∃ a:Nat,dz w.2 nm R ts en aI pM fr pL aC aF sets st es eL (AV pM ((i+1:Nat):Int)) (some ((e.aO,(e.w:Nat),a),Jo nm e.os (AA e.os (pT e.os)) (NC on))) (N9 pT s e.pr) L):=by
 rintro L0 ⟨D,Q,hQ,pm⟩
 obtain ⟨hw,ho,hk⟩:=hg e (wW hi)
 have hv:(es.map fun q=>Value.ref q.aT)[i]?=some (.ref e.aT):=by rw [wI,hi]; rfl
 have pZ:(es.flatMap (Fq nm)++R).Perm ((e.aT,AG (.seq #[.ref e.aO,.int (e.w:Nat) 0] 0))::(e.aO,A0 (.seq ⟨AB nm e.os⟩ 0))::((es.eraseIdx i).flatMap (Fq nm)++R)):=by
  have:=((Cc hi).flatMap_right (Fq nm)).append_right R
  rw [wO] at this
  exact this
 obtain ⟨Q1,p1,hQ1⟩:=hQ.split pZ
 refine Spec.pW.kq (Pre:=fun L=>L=L0) (XS w b b2 aI pM fr pL e.aT e.aO aC aF on _ i e.w sets s.2 st ((AA e.os (pT e.os)).length:Nat) _ (.seq ⟨ts.map .ref⟩ en) (.seq ⟨ts.map .ref⟩ en) (.seq ⟨AB nm e.os⟩ 0) (.seq ⟨AB nm e.os⟩ 0) D _ (.seq ⟨AB nm (AA e.os (pT e.os))⟩ (AA e.os (pT e.os)).length) hn (hE.perm (.refl _)) (nd.perm (.refl _)) hp rfl hX hw rfl ho (by lia) rfl rfl rfl _ eL rfl hv rfl rfl rfl) (fun L e2=>⟨Q1,(e2 ▸ pm).trans (bD _ _ _ _ _ _ _ _ p1),hQ1⟩) ?_ (hp:=rfl) (hF:=fun z=>rfl) (hc:=fun z z=>rfl) L0 rfl
 rintro D2 A1 P' ⟨_,hP⟩
 exact ⟨_,bC _ _ _ _ _ _ _ _ _ _,rfl,A1 0,D2,_,(hP.join pZ).more _,.refl _⟩
theorem SF:∀ (n i:Nat) (on:Ve) (s:zb×Int),i+n=es.length→s.1.length+20*n≤800→
  AO w b b2 3 (Ax (AJ w.2 fr aC::E) zw) (XT w.2 aI fr aC) (dz w.2 nm R ts en aI pM fr pL aC aF sets st es eL (AV pM i) on s)
   (fun e1 L=>e1=.fin (.done .next)∧∃ tZ,NC tZ=Gy nm pT ((es.drop i).map EN.pr) (NC on)∧tZ.map (·.1.2.1)=wL ((es.drop i).map EN.pr) (on.map (·.1.2.1))∧dz w.2 nm R ts en aI pM fr pL aC aF sets st es eL (Bn (es.length:Nat)) tZ (((es.drop i).map EN.pr).foldl (N9 pT) s) L):=by
 intro n
 induction n with
 | zero=>
  intro i on s hi hs
  have hi:i=es.length:=by lia
  subst hi
  rw [xC]
  rintro L0 ⟨D,Q,hQ,pm⟩
  exact ((SG (St:=Ax (AJ w.2 fr aC::E) zw) w b b2 aI pM fr aC es.length _ (.seq ⟨es.map fun q=>.ref q.aT⟩ eL) _ eL rfl (by rw [vh]; exact vp _) rfl (fun L=>L=[(fr,ek w.2 pL pM sets s.2 st on),(pL,A0 (.seq ⟨ts.map .ref⟩ en)),(aC,B0 aF),(aF,A6 D)]++Q)).kp (q8:=fun L=>L=L0) (fun L e=>e ▸ pm) fun A1=>⟨_,.refl _,rfl,on,rfl,rfl,D,Q,hQ,.refl _⟩) L0 rfl
 | succ n ih=>
  intro i on s hi hs
  have hlt:i < es.length:=Ap hi
  have hd:es.drop i=es[i]::es.drop (i+1):=wH hlt
  have hl:=RX hn pT s es[i].pr
  have hk:=(hg es[i] (zT hlt)).2.2
  rw [hd]
  refine AK.go (fun z z z h=>h) (by kernel_rfl) (SE (w:=w) (b:=b) (b2:=b2) hn R hE nd hp en hX pT aI pM fr pL aC aF sets st es eL hg (w0 hlt) on s (by lia)) ?_
  rintro L0 ⟨a,h⟩
  exact (ih (i+1) (some ((es[i].aO,(es[i].w:Nat),a),Jo nm es[i].os (AA es[i].os (pT es[i].os)) (NC on))) (N9 pT s es[i].pr) (Ci hi) (by have:(AA es[i].pr.1 (pT es[i].pr.1)).length≤20:=hk; lia)) L0 h
omit hg in
theorem WO{es:List EN}{eL:Nat}(hv:es≠[])(hl:es.length≤20)(hg:∀ e∈es,Vb ns e.os (pT e.os)∧e.os.length≤40∧(AA e.os (pT e.os)).length≤20)(on:Ve)(most:Int){qR pX:zu}(hN:pX=.seq ⟨ts.map .ref⟩ en)(hD:qR=.seq ⟨es.map fun q=>.ref q.aT⟩ eL){qP:Int}(hw:wL (es.map EN.pr) none=some qP) :
  Spec.pW (Pm w.2 aI pM fr pL aC aF sets most ((es.map EN.pr).foldl (N9 pT) ([],most)).2 st qR pX on qP (Gy nm pT (es.map EN.pr) (NC on))) (fun z y P'=>DY w.2 nm (es.flatMap (Fq nm)++R) ((es.map EN.pr).foldl (N9 pT) ([],most)).1 z.2 P') (Pm w.2 aI pM fr pL aC aF sets most ((es.map EN.pr).foldl (N9 pT) ([],most)).2 st qR pX on qP (Gy nm pT (es.map EN.pr) (NC on)) (.plain,.plain)) (wf w b b2) (Al ⟨3,Ax (AJ w.2 fr aC::E) zw⟩) (fun L=>∃ M,L.Perm (es.flatMap (Fq nm)++(M++R))):=by
 subst hN hD
 have h:=SF (w:=w) (b:=b) (b2:=b2) hn R hE nd hp en hX pT aI pM fr pL aC aF sets st es eL hg es.length 0 on ([],most) (by lia) (by show 0+20*es.length≤800; lia)
 rw [yr] at h
 refine AK.toD h ?_ ?_
 ·rintro P' ⟨M,pm⟩
  exact ⟨_,.refl _,A7 w.2 [] 0,P',⟨[],M,rfl,rfl,pm.trans (Dm [es.flatMap (Fq nm),M,R] (.r [0,1] (.l 2)) (.a .n (.a (.l 1) (.a (.l 0) (.l 2)))) rfl)⟩,.refl _⟩
 ·rintro e1 L ⟨rfl,tZ,h1,h2,D,Q,hQ,pm2⟩
  have e0:∀ s,wL (es.map EN.pr) s=wL (es.map EN.pr) none:=by
   intro s
   cases es with
   | nil=>exact absurd rfl hv
   | cons e r=>rfl
  rw [e0,hw] at h2
  obtain ⟨⟨⟨a,w',c⟩,nk⟩,rfl,rfl⟩:=xZ.mp h2
  have h1:nk=Gy nm pT (es.map EN.pr) (NC on):=h1
  subst h1
  exact ⟨((Bn (es.length:Nat)).data,D),fun k=>match k with | 0=>a | _=>c,Q,hQ,rfl,pm2⟩
omit hg in
theorem Yz{eL:Nat}{lv:zb}(hv:lv≠[])(hl:lv.length≤20)(hg:∀ q∈lv,Vb ns q.1 (pT q.1)∧q.1.length≤40∧(AA q.1 (pT q.1)).length≤20)(on:Ve)(most:Int){qR pX:zu}(hN:pX=.seq ⟨ts.map .ref⟩ en){qP:Int}(hw:wL lv none=some qP) :
  Spec.pW (Pm w.2 aI pM fr pL aC aF sets most (lv.foldl (N9 pT) ([],most)).2 st qR pX on qP (Gy nm pT lv (NC on))) (fun z y P'=>DY w.2 nm R (lv.foldl (N9 pT) ([],most)).1 z.2 P') (Pm w.2 aI pM fr pL aC aF sets most (lv.foldl (N9 pT) ([],most)).2 st qR pX on qP (Gy nm pT lv (NC on)) (.plain,.plain)) (wf w b b2) (Al ⟨3,Ax (AJ w.2 fr aC::E) zw⟩) (Jl w.2 nm R lv eL qR):=by
 rintro P ⟨es,M,rfl,hD,pm⟩
 refine (WO (b:=b) (b2:=b2) hn R hE nd hp en hX pT aI pM fr pL aC aF sets st (es:=es) (eL:=eL) (fun e=>hv (by rw [e]; rfl)) (by rw [vh] at hl; exact hl) (fun e m=>hg e.pr (vo m)) on most hN hD hw P ⟨M,pm⟩).pU (fun y h=>h) ?_
 rintro e L ⟨z,A,P',⟨rC,M',he,qU,pmQ⟩,sub,he1,hL⟩
 exact ⟨z,A,P',⟨rC,M'++es.flatMap (Fq nm),he,qU,pmQ.trans (.of_eq (by rw [vj]))⟩,sub,he1,hL⟩
end
end
end
section
open PySem PySem.W PySem.W.X PyProof.Rows
theorem PW{kt:KT}{s:zr}{h':Heap}{a:Nat}{O:Obj}{o':Obj}{F:Lp}(H:BA kt s ((a,O)::F))(hs:∀ b ob,b≠a→s.heap.get? b=some ob→h'.get? b=some ob)(ho:h'.get? a=some o') :
  BA kt { s with heap:=h' } ((a,eO o')::F)∧fv s { s with heap:=h' } ((a,O)::F) ((a,eO o')::F):=by
 have nd:=H.nd
 rw [vu,wZ] at nd
 have ne:∀ q∈F,q.1≠a:=fun q m e=>nd.1 (wC.mpr ⟨q,m,e⟩)
 refine ⟨⟨fun b ob h=>?_,fun q m=>?_,H.nd,fun q m=>?_⟩,rfl,rfl,rfl,fun b ob h n=>?_,fun q m=>?_⟩
 ·have:b≠a:=fun e=>by
   have:=H.off (a,O) (.head _)
   dsimp only at this
   rw [← e,h] at this; cases this
  exact hs b ob this (H.top b ob h)
 ·rcases wK.mp m with rfl | m
  ·exact ⟨o',ho,rfl⟩
  ·obtain ⟨ob,h1,h2⟩:=H.own q (.tail _ m)
   exact ⟨ob,hs _ _ (ne q m) h1,h2⟩
 ·rcases wK.mp m with rfl | m
  ·exact H.off (a,O) (.head _)
  ·exact H.off q (.tail _ m)
 ·exact hs b ob (fun e=>n (by rw [e]; exact .head _)) h
 ·rcases wK.mp m with rfl | m
  ·exact .inl (.head _)
  ·exact .inl (.tail _ (vo m))
def ef(a:Nat)(D d:zu):Spec:=⟨.call (.builtin "list.sort") ⟨[.ref a],[]⟩,[a],[A0 D],fun q=>.fin (.done (.ret .none)),fun q=>[A0 d],fun q=>[]⟩
theorem Mj{w:zt}{D:zu}{n:Nat}{ss qD:zj}{I:zd}(a:Nat)(hD:D=.seq ⟨AN ss⟩ n)(hs:ss.length < 64)(h:∀ qG:zj,qG.Perm ss→sortedS qG=true→qG=qD):Spec.px (fun d=>ef a D d) (fun d q=>∃ e,d=.seq ⟨AN qD⟩ e) (ef a D .plain) w Eh I I:=by
 subst hD
 intro P hI
 refine MJ fun as A s L hL ha H Q E hq=>?_
 subst hL
 obtain rfl:=D9 ha
 have H':BA (A5 w.2) s ((a,A0 (.seq ⟨AN ss⟩ n))::P):=H
 obtain ⟨o,ho,hO⟩:=H'.find
 obtain ⟨xs,rfl,hx⟩:=Ai hO
 have hS:=Fz hx
 have sZ:s.heap.get? a=some (seqObj "list" xs.toList.toArray n):=ho
 have hl:xs.toList.length < 64:=by have:=vm List.length hx; simp only [AN,vh] at this; exact this ▸ hs
 have z:wpAny (model pw w) A.in1 (Builtin.«list.sort» ⟨[.ref a],[]⟩) (fun fin s'=>∃ r,fin=.done (.ret r)∧Q r s') E s:=by
  refine list_sort_treeK strKind_oneLt sZ hS.keysOf (fun v₁ v₂ rest e=>keyKind_strs (by rw [← e]; exact hS)) hl fun sL hp qy=>?_
  obtain ⟨qG,h1,h2,h3⟩:=sorted_out_str hS hp qy
  have e0:=h qG h2 h3
  show ∃ r,Fin.done (.ret .none)=.done (.ret r)∧Q r { s with heap:=sortedHeap s.heap a xs.toList ((arrOf sL).map (·.2)) }
  generalize (arrOf sL).map (·.2)=out at h1
  obtain ⟨e,he⟩:=sortedHeap_at (out:=out) sZ
  have hold:∀ b ob,b≠a→s.heap.get? b=some ob→(sortedHeap s.heap a xs.toList out).get? b=some ob:=by
   intro b ob hb hget
   rw [sortedHeap_old hb (xm hget)]
   exact hget
  generalize sortedHeap s.heap a xs.toList out=h' at he hold
  have U:=PW H' hold he
  have eU:eO (seqObj "list" out e)=A0 (.seq ⟨AN qD⟩ e):=by
   rw [← e0,← Jw h1]; rfl
  rw [eU] at U
  exact ⟨.none,rfl,hq .none _ _ ⟨.seq ⟨AN qD⟩ e,fun q=>0,P,⟨e,rfl⟩,hI,fun q m=>m,rfl,rfl⟩ U.1 U.2⟩
 exact wF slot_list_sort ⟨_,ho,rfl⟩ entry_list_sort z (args_list_sort _)
def bV(m:Nat)(D:zu)(φ:zu→Prop):A8:=KI (fun q=>none) [m] [true] [] (fun X=>ef (A4 X m) D .plain) (fun X=>ef (A4 X m) D) (fun z q=>φ z)
theorem T8{w:zt}{St:Tl}{m n:Nat}{D:zu}{ss qD:zj}{I:zd}(hD:D=.seq ⟨AN ss⟩ n)(hs:ss.length < 64)(h:∀ qG:zj,qG.Perm ss→sortedS qG=true→qG=qD):(bV m D (fun d=>∃ e,d=.seq ⟨AN qD⟩ e)).qB pw w (A5 w.2) St I I:=
 Dd (w:=w) (Sf:=fun q=>Eh) (fun X=>Mj (A4 X m) hD hs h) (fun q q=>⟨rfl,rfl,rfl⟩) (fun q q q q q=>rfl) CP (by simp) (fun q=>⟨rfl,rfl,fun q q=>rfl⟩) (fun q q=>rfl)
end
section
open PySem PySem.W PySem.W.X
def LC(P:zp)(aF:Nat)(D D2 d:zu):Spec:=⟨.call (.builtin "sorted") ⟨[.ref aF],[]⟩,[aF],[A6 D],fun A=>.fin (.done (.ret (.ref (A 0)))),fun q=>[A6 D2],fun q=>[A0 d]⟩
def gv(k:Nat):zl:=hD 5 15 21362208284++((List.replicate k [2,2,2,3]).flatten++[5,2])
def mQ(n:Nat)(D:zu)(l:zj):List A8:=KW 0 D l.length n::(List.range l.length).map fun i=>EI 2 0 i l.length n D (.str (l.getD i default) 0)
noncomputable def ej(n:Nat)(qD:zj)(l:zj)(D:zu):List (zh→A8):=(fun q=>Dt 1 0)::(Ag (mQ n D l)++Ag [BM "dict_keyiterator.__next__" 2 0 (fun X=>Cg (A4 X 0) l.length l.length n) (Je l.length l.length n) (A6 D),bV 5 (.seq ⟨AN l⟩ 0) (fun d=>∃ e,d=.seq ⟨AN qD⟩ e)])
noncomputable def mT(w:zt)(b2:Bool)(aF n:Nat)(qD l:zj):=Hn w b2 (fun D=>LC w.2 aF (gD D 0) .plain .plain) (fun D=>ej n qD l (gD D 0)) (l.length+4) (fun q q=>[]) [5] [true] (gv l.length) 1 (List.replicate (l.length+2) 0) 20
noncomputable def mS(w:zt)(b2:Bool)(aF n:Nat)(qD l:zj):=Hm w b2 (fun D=>LC w.2 aF (gD D 0) .plain .plain) (fun D us=>LC w.2 aF (gD D 0) (ud us 1 2) (ud us 0 0)) (fun D=>ej n qD l (gD D 0)) (l.length+4) (fun q q=>[]) [5] [true] (gv l.length) 1 (List.replicate (l.length+2) 0) 20
theorem RY(w:zt)(b2:Bool)(aF n:Nat)(qD:zj){l:zj}(h:l.length∈List.range' 1 6):mT w b2 aF n qD l=mS w b2 aF n qD l:=
 Ku (List.range' 1 6) (⟨(),[()],.head _⟩:Cs Unit) (F:=fun l q=>mT w b2 aF n qD l) (G:=fun l q=>mS w b2 aF n qD l) (fun f=>by kernel_rfl) h
theorem Ck.app{E:zh→Lp→Prop}{p:zv}{w:zt}{kt:KT}{St:Tl}{I:zd}{fs:List (zh→A8)}:∀ {os:List A8},(∀ o∈os,o.Ok p w kt)→(∀ l,Ck E p w kt St I fs l)→∀ l,Ck E p w kt St I (Ag os++fs) l
 | [],_,he,l=>he l
 | o::os,h,he,l=>.cons ((h o (.head _)).s8 I) fun u q q=>Ck.app (fun o m=>h o (.tail _ m)) he (u::l)
theorem XB{St:zc}{w:zt}{b b2:Bool}(aF:Nat){D:zu}{N:List (Str×zq)}{n:Nat}(hN:D=A7 w.2 N n)(hl:N.length∈List.range' 1 6){qD:zj}(h:∀ qG:zj,qG.Perm (N.map (·.1))→PyProof.Rows.sortedS qG=true→qG=qD)(I:zd) :
  Spec.px (LC w.2 aF D D) (fun d q=>∃ e,d=.seq ⟨AN qD⟩ e) (LC w.2 aF D D .plain) (wf w b b2) (Al ⟨9,St⟩) I I:=by
 have hl':(N.map (·.1)).length∈List.range' 1 6:=by rw [vh]; exact hl
 have hk:(N.map (·.1)).length≤6:=zQ (yC.mp hl').2
 have e0:N.length=(N.map (·.1)).length:=(vh _).symm
 refine MV (fun D=>LC w.2 aF (gD D 0) .plain .plain) (fun D us=>LC w.2 aF (gD D 0) (ud us 1 2) (ud us 0 0)) (fun D=>ej n qD (N.map (·.1)) (gD D 0)) ((N.map (·.1)).length+4) (fun q q=>[]) [5] [true] (gv (N.map (·.1)).length) 1 (List.replicate ((N.map (·.1)).length+2) 0) 20 [D] (fun E0 ke=>.note (BP (by decide)) fun q q q=>Ck.app ?_ ?_ _) (RY w b2 aF n qD hl') (hm:=by simp [ej,mQ,Ag])
 ·intro o ho
  rcases wK.mp ho with rfl | ho
  ·rw [← e0]; exact HW (w:=wf w b b2) hN
  ·obtain ⟨i,hi,rfl⟩:=wC.mp ho
   have hi:i < N.length:=by rw [e0]; exact yo.mp hi
   have hv:N[i]?=some (N[i].1,N[i].2):=w0 hi
   have e1:(N.map (·.1)).getD i default=N[i].1:=by simp [hi]
   rw [e1,← e0]; exact D5 (w:=wf w b b2) hN hv
 ·intro l
  refine .cons (by rw [← e0]; exact HU (w:=wf w b b2) (by decide) hN (vp _)) fun u1 x1 g1=>.cons (T8 (w:=wf w b b2) rfl (by lia) h) fun u0 x0 g0=>.nil fun P hP=>ke _ _ ⟨eD (u0.d 0),?_,hP,fun A q=>let ⟨z,⟨e,hz⟩,k⟩:=g0.1; ⟨e,k.1.trans hz⟩⟩
  show LC w.2 aF D (eD (u1.d 2)) (eD (u0.d 0))=_
  rw [show eD (u1.d 2)=D from g1.1.1]
def kZ(P:zp):Expr:=VU ((EU (J0 P)).getD 2 (.Pass default))
def WQ(P:zp)(aK aC fr:Nat):Env:={ scope:=G9 (Nm (kZ P)),locals:=aK,globals:=3,cells:=[(Str.ofString "fresh",aC)],qual:=Str.ofString "_law_runs.<locals>.",func:=none,code:=.ref 953,frame:=some fr,builtins:=0 }
def Dz(P:zp)(aI aA aK aC fr:Nat):Code:=.compLoop (kZ P) 0 (.ref aI) (.ref aA) (WQ P aK aC fr)
def L8(P:zp)(aI aA aK aC fr:Nat):Code:=.compStart (kZ P) 0 (.ref aI) (.ref aA) (WQ P aK aC fr)
def WG(P:zp):Option Str→Obj
 | none=>BE [] 0
 | some X=>BE [kE P "key" (.str X 0)] 1
def iD(P:zp)(aI aS aA aK aC:Nat)(fr aF:Nat)(DS DA:zu):Spec:=⟨L8 P aI aA aK aC fr,[aI,aS,aA,aK,aC],[AV aS 0,A0 DS,A0 DA,WG P none,B0 aF],fun A=>.fin (.again (Dz P aI aA aK aC fr)),fun A=>[AV aS 0,A0 DS,A0 DA,WG P none,B0 aF],fun A=>[]⟩
variable{St:zc}(w:zt)(b b2:Bool)
theorem S5(aI aS aA aK aC:Nat)(fr aF:Nat)(DS DA:zu)(I:zd):(iD w.2 aI aS aA aK aC fr aF DS DA).PI w b b2 3 St I:=G8 (fun D=>iD w.2 aI aS aA aK aC fr aF (gD D 0) (gD D 1)) (fun D l=>iD w.2 aI aS aA aK aC fr aF (gD D 0) (gD D 1)) (fun D=>(Ag [])) 0 [] [false,true,true,false,false] (fun b2=>bif b2 then [] else [1,1,1,1]) (fun q=>1000000) (fun q=>[]) 0 [DS,DA] fun E0 ke=>.pO ke rfl
def iB(P:zp)(aI aS aA aK aC aF:Nat)(fr i nn:Nat)(o:Option Str)(X:Str)(vT:Nat)(DS DA qC DF:zu):Spec:=⟨Dz P aI aA aK aC fr,[aI,aS,aA,aK,aC,aF],[AV aS i,A0 DS,A0 DA,WG P o,B0 aF,A6 DF],fun A=>.fin (.again (Dz P aI aA aK aC fr)),fun A=>[AV aS ((i:Int)+1),A0 DS,A0 qC,WG P (some X),B0 aF,A6 DF],fun A=>[]⟩
theorem Rz(aI aS aA aK aC aF:Nat)(fr i nn:Nat)(o:Option Str)(X:Str)(vT:Nat)(DS DA qC DF:zu)(gs:zf)(eg:Nat)(hS:DS=.seq ⟨gs⟩ eg)(hi:gs[i]?=some (.str X 0))(N:List (Str×zq))(hF:DF=A7 w.2 N nn)(hX:A' N X=some (.ref vT))(vs:zf)(e:Nat)(hA:DA=.seq ⟨vs⟩ e)(sI:qC=.seq ⟨vs++[.ref vT]⟩ (e+1))(hs:vs.length≤1000)(I:zd):(iB w.2 aI aS aA aK aC aF fr i nn o X vT DS DA qC DF).PI w b b2 3 St I:=Ae (Cs.oo o ⟨#[]⟩) (fun z D=>iB w.2 aI aS aA aK aC aF fr i nn z X vT (gD D 0) (gD D 1) qC (gD D 2)) (fun z D l=>iB w.2 aI aS aA aK aC aF fr i nn z X vT (gD D 0) (gD D 1) (ud l 0 0) (gD D 2)) (fun z D=>(Ag [Au 0 1 i (gD D 0) (.str X 0),Bh 5 (gD D 2) X (.ref vT),Dn 2 (gD D 1) qC (.ref vT)])) 3 (fun z=>[]) [false,true,true,false,false,true] (hD 8 8 14371617) 0 [0,0] 0 [DS,DA,DF] fun E0 ke=>.q (AQ hS hi) fun y y y=>.q (AZ (w:=wf w b b2) hF hX) fun y y y=>.cons (Av hA sI (by have:=AD; lia)) fun u2 y g2=>.pO ke (@id (eD (u2.d 0)=qC) (g2.1.1) ▸ rfl)
def iC(P:zp)(aI aS aA aK:Nat)(fr aC i:Nat)(o:Option Str)(DS t7 DA:zu):Spec:=⟨Dz P aI aA aK aC fr,[aI,aS,aA,aK],[AV aS i,A0 DS,A0 DA,WG P o],fun A=>.fin (.done .next),fun A=>[Bn i,A0 t7,A0 DA,WG P o],fun A=>[]⟩
theorem S4(aI aS aA aK:Nat)(fr aC i:Nat)(o:Option Str)(DS t7 DA:zu)(gs:zf)(eg:Nat)(hS:DS=.seq ⟨gs⟩ eg)(hi:gs.length≤i)(eS:t7=DS)(I:zd):(iC w.2 aI aS aA aK fr aC i o DS t7 DA).PI w b b2 3 St I:=Ae (Cs.oo o ⟨#[]⟩) (fun z D=>iC w.2 aI aS aA aK fr aC i z (gD D 0) t7 (gD D 1)) (fun z D l=>iC w.2 aI aS aA aK fr aC i z (gD D 0) (ud l 0 2) (gD D 1)) (fun z D=>(Ag [BM "list_iterator.__next__" 0 1 (fun X=>AV (A4 X 1) i) (Bn i) (A0 (gD D 0))])) 1 (fun z=>[]) [false,true,true,false] [1,6] 0 [] 1 [DS,DA] fun E0 ke=>.cons (Ay (by decide) hS hi) fun u0 q g0=>.pO ke (@id (eD (u0.d 2)=t7) (g0.1.1.trans eS.symm) ▸ rfl)
section
noncomputable def Lr:zl→zl→Bool
 | [],_=>true
 | _::_,[]=>false
 | x::a,y::b=>x < y || (x==y&&Lr a b)
noncomputable def HZ:zl→zl→Bool
 | x::a,y::b=>x < y || (x==y&&HZ a b)
 | _,_=>false
def FF:List (zl)→Bool
 | a::b::r=>HZ a b&&FF (b::r)
 | _=>true
def IU{α:Type}(key:α→zl)(x:α):List α→List α
 | []=>[x]
 | y::l=>if Lr (key x) (key y) then x::y::l else y::IU key x l
def Cw{α:Type}(key:α→zl)(l:List α):List α:=l.foldr (IU key) []
theorem Hc{α:Type}(key:α→zl)(x:α):∀ l:List α,(IU key x l).Perm (x::l)
 | []=>.refl _
 | y::l=>by
  show (if _ then _ else _:List α).Perm _
  split
  ·exact .refl _
  ·exact ((Hc key x l).cons y).trans (.swap _ _ _)
theorem BZ{α:Type}(key:α→zl):∀ l:List α,(Cw key l).Perm l
 | []=>.refl _
 | x::l=>(Hc key x (Cw key l)).trans ((BZ key l).cons x)
theorem JS{α β:Type}{f:α→β}{k1:α→zl}{k2:β→zl}(h:∀ a,k2 (f a)=k1 a)(x:α):∀ l:List α,(IU k1 x l).map f=IU k2 (f x) (l.map f)
 | []=>rfl
 | y::l=>by
  show (if Lr (k1 x) (k1 y) then x::y::l else y::IU k1 x l).map f=if Lr (k2 (f x)) (k2 (f y)) then f x::f y::l.map f else f y::IU k2 (f x) (l.map f)
  rw [h,h]
  split
  ·rfl
  ·rw [vu,JS h x l]
theorem HF{α β:Type}{f:α→β}{k1:α→zl}{k2:β→zl}(h:∀ a,k2 (f a)=k1 a):∀ l:List α,(Cw k1 l).map f=Cw k2 (l.map f)
 | []=>rfl
 | x::l=>by
  show (IU k1 x (Cw k1 l)).map f=IU k2 (f x) (Cw k2 (l.map f))
  rw [JS h,HF h l]
def C8(F:zb):zb:=Cw (fun e=>Ah e.1) F
def Pt(es:List EN):List EN:=Cw (fun e=>Ah e.os) es
theorem Gh(es:List EN):(Pt es).map EN.pr=C8 (es.map EN.pr):=HF (f:=EN.pr) (k1:=fun e:EN=>Ah e.os) (k2:=fun e:zl×Nat=>Ah e.1) (fun q=>rfl) es
def Ik(nm:zm):Prop:=∀ (ks:List (zl)) (qG:zj),FF ks=true→qG.Perm (ks.map (AU nm))→PyProof.Rows.sortedS qG=true→qG=ks.map (AU nm)
theorem Ox{nm:zm}(r9:∀ k k',AU nm k=AU nm k'→k=k'):∀ {es:List EN},(es.map fun e=>Ah e.os).Nodup→∀ e∈es,A' (H6 nm es) (AU nm (Ah e.os))=some (.ref e.aT)
 | q::es,h,e,m=>by
  obtain ⟨h1,h2⟩:=wZ.mp h
  show A' ((AU nm (Ah q.os),.ref q.aT)::H6 nm es) _=_
  unfold A'
  cases m with
  | head=>rw [yn (by simp)]; rfl
  | tail _ m=>
   have qf:AU nm (Ah q.os)≠AU nm (Ah e.os):=fun k=>h1 (by show Ah q.os∈_; rw [r9 _ _ k]; exact vo (f:=fun e:EN=>Ah e.os) m)
   rw [yt (by simpa using qf)]
   exact Ox r9 h2 e m
def H0(nm:zm):zb→Option Str→Option Str
 | [],s=>s
 | e::r,_=>H0 nm r (some (AU nm (Ah e.1)))
def fY(P:zp)(aI aS aA aK aC aF fr:Nat)(DS DF:zu)(o:Option Str)(z:zu×zu):Spec:=
 ⟨L8 P aI aA aK aC fr,[aI,aS,aA,aK,aC,aF],[AV aS 0,A0 DS,A0 (.seq #[] 0),BE [] 0,B0 aF,A6 DF],fun q=>.fin (.done .next),fun q=>[QX z.1,A0 DS,A0 z.2,WG P o,B0 aF,A6 DF],fun q=>[]⟩
section
variable{w:zt}{b b2:Bool}{nm:zm}(hn:DQ nm)(R:Lp)(aI aS aA aK aC aF fr:Nat)(es q:List EN)(eS:Nat)(hq:∀ e∈q,e∈es)(sO:(es.map fun e=>Ah e.os).Nodup)(hl:q.length≤900)
def Zk(P:zp)(nm:zm)(aI aS aA aK aC aF:Nat)(es q:List EN)(eS:Nat)(It:Obj)(o:Option Str)(i:Nat):Lp:=
 [(aI,It),(aS,A0 (.seq ⟨AN (q.map fun e=>AU nm (Ah e.os))⟩ eS)),(aA,A0 (.seq ⟨(q.take i).map fun e=>.ref e.aT⟩ i)),(aK,WG P o),(aC,B0 aF),(aF,A6 (A7 P (H6 nm es) es.length))]
include hn hq sO hl
theorem VK(T:Lp){i:Nat}{e:EN}(hi:q[i]?=some e)(o:Option Str) :
  AO w b b2 3 (fun z=>True) (Dz w.2 aI aA aK aC fr) (fun L=>L.Perm (Zk w.2 nm aI aS aA aK aC aF es q eS (AV aS i) o i++T))
   (fun e1 L=>e1=.fin (.again (Dz w.2 aI aA aK aC fr))∧L.Perm (Zk w.2 nm aI aS aA aK aC aF es q eS (AV aS ((i+1:Nat):Int)) (some (AU nm (Ah e.os))) (i+1)++T)):=by
 have hv:(AN (q.map fun e=>AU nm (Ah e.os)))[i]?=some (.str (AU nm (Ah e.os)) 0):=by unfold AN; rw [wz,wI,hi]; rfl
 have ht:((q.take (i+1)).map fun e=>Value.ref e.aT)=((q.take i).map fun e=>Value.ref e.aT)++[.ref e.aT]:=by rw [y9,hi,vl]; rfl
 exact (Rz (St:=fun z=>True) w b b2 aI aS aA aK aC aF fr i es.length o (AU nm (Ah e.os)) e.aT _ (.seq ⟨(q.take i).map fun e=>.ref e.aT⟩ i) (.seq ⟨(q.take (i+1)).map fun e=>.ref e.aT⟩ (i+1)) (A7 w.2 (H6 nm es) es.length) _ eS rfl hv (H6 nm es) rfl (Ox hn.r9 sO e (hq e (wW hi))) _ _ rfl (by rw [ht]) (by rw [vh,xp]; lia) (fun L=>L=T)).kp (fun L p=>p) fun A1=>⟨_,.refl _,rfl,.refl _⟩
theorem VL(T:Lp):∀ (n i:Nat) (o:Option Str),i+n=q.length→
  AO w b b2 3 (fun z=>True) (Dz w.2 aI aA aK aC fr) (fun L=>L.Perm (Zk w.2 nm aI aS aA aK aC aF es q eS (AV aS i) o i++T))
   (fun e1 L=>e1=.fin (.done .next)∧L.Perm (Zk w.2 nm aI aS aA aK aC aF es q eS (Bn (q.length:Nat)) (H0 nm ((q.drop i).map EN.pr) o) q.length++T)):=by
 intro n
 induction n with
 | zero=>
  intro i o hi
  have hi:i=q.length:=by lia
  subst hi
  rw [xC]
  exact (S4 (St:=fun z=>True) w b b2 aI aS aA aK fr aC q.length o (.seq ⟨AN (q.map fun e:EN=>AU nm (Ah e.os))⟩ eS) (.seq ⟨AN (q.map fun e:EN=>AU nm (Ah e.os))⟩ eS) (.seq ⟨(q.take q.length).map fun e:EN=>.ref e.aT⟩ q.length) _ eS rfl (by simp [AN]) rfl (fun L=>L=[(aC,B0 aF),(aF,A6 (A7 w.2 (H6 nm es) es.length))]++T)).kp (fun L p=>p) fun A1=>⟨_,.refl _,rfl,.refl _⟩
 | succ n ih=>
  intro i o hi
  have hlt:i < q.length:=Ap hi
  have hd:q.drop i=q[i]::q.drop (i+1):=wH hlt
  rw [hd]
  exact AK.go (fun z z z h=>h) (by kernel_rfl) (VK (w:=w) (b:=b) (b2:=b2) hn aI aS aA aK aC aF fr es q eS hq sO hl T (w0 hlt) o) (ih (i+1) (some (AU nm (Ah q[i].os))) (Ci hi))
end
theorem ZN{w:zt}{b b2:Bool}{nm:zm}(hn:DQ nm)(R:Lp)(aI aS aA aK aC aF fr:Nat){F:zb}(sO:(F.map fun e=>Ah e.1).Nodup)(hl:F.length≤900){DS DF:zu}{eS:Nat}(hS:DS=.seq ⟨AN ((C8 F).map fun e=>AU nm (Ah e.1))⟩ eS) :
  Spec.pW (fY w.2 aI aS aA aK aC aF fr DS DF (H0 nm (C8 F) none)) (fun z q P'=>Jl w.2 nm R (C8 F) (C8 F).length z.2 P') (fY w.2 aI aS aA aK aC aF fr DS DF (H0 nm (C8 F) none) (.plain,.plain)) (wf w b b2) (Al ⟨3,fun q=>True⟩) (DY w.2 nm R F DF):=by
 subst hS
 rintro P ⟨es,M,rfl,rfl,pm⟩
 have hp:=BZ (fun e:EN=>Ah e.os) es
 have hnd':(es.map fun e=>Ah e.os).Nodup:=by rw [wz] at sO; exact sO
 have e1:((C8 (es.map EN.pr)).map fun e=>AU nm (Ah e.1))=(Pt es).map fun e=>AU nm (Ah e.os):=by rw [← Gh,wz]; rfl
 have hq:(Pt es).length≤900:=by show (Cw (fun e:EN=>Ah e.os) es).length≤900; rw [hp.length_eq]; rw [vh] at hl; exact hl
 have h1:=VL (w:=w) (b:=b) (b2:=b2) hn aI aS aA aK aC aF fr es (Pt es) eS (fun e m=>hp.mem_iff.mp m) hnd' hq P (Pt es).length 0 none (by lia)
 rw [yr,Gh] at h1
 have hz:=Spec.pP.tT (M:=fun L=>L.Perm (Zk w.2 nm aI aS aA aK aC aF es (Pt es) eS (AV aS ((0:Nat):Int)) none 0++P)) (S5 (St:=fun q=>True) w b b2 aI aS aA aK aC fr aF (.seq ⟨AN ((Pt es).map fun e=>AU nm (Ah e.os))⟩ eS) (.seq #[] 0) (fun L=>L=(aF,A6 (A7 w.2 (H6 nm es) es.length))::P)) (fun q q q h=>h) (by kernel_rfl) (fun q=>rfl) (fun q=>⟨_,.refl _,.refl _⟩) h1
 rw [e1]
 refine (?_:Spec.pW _ _ _ _ _ (fun L=>L=P)) P rfl
 refine AK.toD hz ?_ ?_
 ·rintro P' rfl
  exact ⟨_,.refl _,_,rfl,rfl⟩
 ·rintro e L ⟨rfl,p⟩
  refine ⟨((Bn ((Pt es).length:Nat)).data,.seq ⟨(Pt es).map fun e=>.ref e.aT⟩ (Pt es).length),fun q=>0,P,⟨Pt es,M,Gh es,(by rw [← Gh,vh]),pm.trans (xA _ (hp.symm.flatMap_right _))⟩,rfl,p.trans (.of_eq ?_)⟩
  unfold Zk
  rw [yG]; rfl
theorem aH{St:zc}{w:zt}{b b2:Bool}{nm:zm}(kl:Ik nm)(R:Lp)(aF:Nat){F:zb}(hx:FF ((C8 F).map fun e=>Ah e.1)=true)(hl:F.length∈List.range' 1 6)(DF:zu) :
  Spec.px (LC w.2 aF DF DF) (fun d q=>∃ e,d=.seq ⟨AN ((C8 F).map fun e=>AU nm (Ah e.1))⟩ e) (LC w.2 aF DF DF .plain) (wf w b b2) (Al ⟨9,St⟩) (DY w.2 nm R F DF) (DY w.2 nm R F DF):=by
 intro P hP
 have hQ:=hP
 obtain ⟨es,M,rfl,rfl,pm⟩:=hP
 have hl':(H6 nm es).length∈List.range' 1 6:=by unfold H6; rw [vh]; rw [vh] at hl; exact hl
 refine XB (St:=St) (w:=w) (b:=b) (b2:=b2) aF (N:=H6 nm es) rfl hl' (fun qG p s=>?_) _ P hQ
 have e1:((C8 (es.map EN.pr)).map fun e=>AU nm (Ah e.1))=((C8 (es.map EN.pr)).map fun e=>Ah e.1).map (AU nm):=by rw [wz]; rfl
 rw [e1]
 refine kl _ qG hx (p.trans ?_) s
 rw [← e1,← Gh,wz]
 show List.Perm ((es.map fun e=>(AU nm (Ah e.os),Value.ref e.aT)).map (·.1)) _
 rw [wz]
 exact ((BZ (fun e:EN=>Ah e.os) es).symm.map _)
end
noncomputable abbrev dv:=Option (Int×(Nat×Int×Nat)×(Str×Str))
def oN(P:zp)(pL pM:Nat)(sets most:Int):dv→Obj
 | none=>HH P pL pM sets most none none none
 | some (st,o,nk)=>HH P pL pM sets most (some st) (some o) (some nk)
def fF:dv→Ve
 | none=>none
 | some (_,o,nk)=>some (o,some nk)
def lj:dv→Nat→Obj
 | none,_=>{ cls:=.type "cell",data:=.cell none }
 | some _,a=>B0 a
def mh(P:zp)(pM pL:Nat)(fr aC:Nat)(sets most rW st:Int)(qR pX:zu)(on:Ve)(qP:Int)(ro:Option (Str×Str))(ni nf:Nat):A8:=KJ (fun q=>some [IL (AJ P fr aC)]) [ni,4,1,2,3,nf] [true,true,false,true,false,true] [] (fun x=>Pm P (A4 x ni) pM fr pL aC (A4 x nf) sets most rW st qR pX on qP ro (.plain,.plain)) (fun x=>Pm P (A4 x ni) pM fr pL aC (A4 x nf) sets most rW st qR pX on qP ro)
variable{w b b2}
theorem Xn{nm:zm}{R:Lp}{E:zi}{pM pL fr aC:Nat}{sets st most qK qJ:Int}{on:Ve}{qR pX:zu}{sC:Option (Str×Str)}{F:zb}{I:zd}(h:∀ aI aF,Spec.pW (Pm w.2 aI pM fr pL aC aF sets most qK st qR pX on qJ sC) (fun z q P'=>DY w.2 nm R F z.2 P') (Pm w.2 aI pM fr pL aC aF sets most qK st qR pX on qJ sC (.plain,.plain)) (wf w b b2) (Al ⟨3,Ax (AJ w.2 fr aC::E) zw⟩) I) :
  (mh w.2 pM pL fr aC sets most qK st qR pX on qJ sC 6 5).qM pw (wf w b b2) (A5 w.2) ⟨2,Ax (AJ w.2 fr aC::E) zw⟩ I (fun u q P'=>DY w.2 nm R F (eD (u.d 10)) P'):=
 (De (w:=wf w b b2) (Sf:=fun q=>Al ⟨3,Ax (AJ w.2 fr aC::E) zw⟩) (F0:=fun x=>Pm w.2 (A4 x 6) pM fr pL aC (A4 x 5) sets most qK st qR pX on qJ sC) (O:=fun q z q P'=>DY w.2 nm R F z.2 P') (fun x=>h _ _) (fun q q=>⟨rfl,rfl,rfl⟩) (fun q q q q q=>rfl) (BK (St:=⟨2,Ax (AJ w.2 fr aC::E) zw⟩) (n:=3) (Sf:=fun q=>Ax (AJ w.2 fr aC::E) zw) (V:=fun q=>[IL (AJ w.2 fr aC)]) (by rfl) fun x q c=>c.app (V:=[IL (AJ w.2 fr aC)]) (E':=[]) (qe:=[]) rfl rfl) (by decide) (fun q=>⟨rfl,rfl,fun q q=>rfl⟩) (fun q q=>rfl)).mono (fun q h=>h) fun u x P' _ ⟨z,a,h⟩=>by
  have e:eD (u.d 10)=z.2:=a.2.2.2.1
  rw [e]; exact h
def mf(P:zp)(m:Nat)(DF:zu)(ks:zj):A8:=I2 (fun q=>none) [m] [true] [true] (fun x=>LC P (A4 x m) DF DF .plain) (fun u q=>(∃ e,eD (u.d 1)=.seq ⟨AN ks⟩ e)∧eD (u.d 0)=DF)
theorem Xi{m:Nat}{DF:zu}{ks:zj}{I:zd}{St:Tl}(h:∀ aF,Spec.px (LC w.2 aF DF DF) (fun d q=>∃ e,d=.seq ⟨AN ks⟩ e) (LC w.2 aF DF DF .plain) (wf w b b2) (Al ⟨9,fun q=>True⟩) I I)(hn:Nat.ble (St.l+1) 9=true):(mf w.2 m DF ks).qB pw (wf w b b2) (A5 w.2) St I I:=
 (Bw (w:=wf w b b2) (Sf:=fun q=>Al ⟨9,fun q=>True⟩) (F0:=fun x=>LC w.2 (A4 x m) DF DF) (O:=fun q z q P'=>(∃ e,z=.seq ⟨AN ks⟩ e)∧I P') (fun u x z P a b c=>⟨let ⟨e,he⟩:=c.1; ⟨e,b.1.trans he⟩,a.1⟩) (fun x=>(h _).d) (fun q q=>⟨rfl,rfl⟩) (fun q q q q q=>rfl) (fun q q q=>rfl) (fun q q q q q=>rfl) (CO hn) (by simp) (fun q=>⟨rfl,rfl,fun q q=>rfl⟩) (fun q q=>rfl)).mono (fun q h=>h) fun _ _ _ _ ⟨_,_,_,h⟩=>h.2
def m5(n:Nat)(D:zu):Prop:=∃ vs e,D=.seq ⟨vs⟩ e∧vs.length=n
def nG(P:zp)(fr:Nat)(DS DF:zu)(o:Option Str)(n:Nat):A8:=I2 (fun q=>none) [8,7,9,10,3,5] [true,true,true,false,false,true] [] (fun x=>fY P (A4 x 8) (A4 x 7) (A4 x 9) (A4 x 10) (A4 x 3) (A4 x 5) fr DS DF o (.plain,.plain)) (fun u q=>m5 n (eD (u.d 4)))
theorem YF{nm:zm}(hn:DQ nm){R:Lp}{fr:Nat}{F:zb}(sO:(F.map fun e=>Ah e.1).Nodup)(hl:F.length≤900){DS DF tm:zu}{eS:Nat}(hS:DS=.seq ⟨AN ((C8 F).map fun e=>AU nm (Ah e.1))⟩ eS){o:Option Str}(ho:o=H0 nm (C8 F) none)(hD:tm=DF){n:Nat}(hL:(C8 F).length=n){St:zc} :
  (nG w.2 fr DS tm o n).qM pw (wf w b b2) (A5 w.2) ⟨2,St⟩ (DY w.2 nm R F DF) (fun u q P'=>Jl w.2 nm R (C8 F) (C8 F).length (eD (u.d 4)) P'):=by
 subst ho hD hL
 exact (Bw (w:=wf w b b2) (F0:=fun x=>fY w.2 (A4 x 8) (A4 x 7) (A4 x 9) (A4 x 10) (A4 x 3) (A4 x 5) fr DS tm (H0 nm (C8 F) none)) (O:=fun q z q P'=>Jl w.2 nm R (C8 F) (C8 F).length z.2 P') (fun u x z P a q c=>by
  obtain ⟨es,M,he,hD,_⟩:=c
  have e1:eD (u.d 4)=z.2:=a.2.2.1
  exact ⟨_,_,e1.trans hD,by rw [vh,← he,vh]⟩) (fun x=>ZN hn R (A4 x 8) (A4 x 7) (A4 x 9) (A4 x 10) (A4 x 3) (A4 x 5) fr sO hl hS) (fun q q=>⟨rfl,rfl⟩) (fun q q q q q=>rfl) (fun q q q=>rfl) (fun q q q q q=>rfl) (CO (by rfl)) (by decide) (fun q=>⟨rfl,rfl,fun q q=>rfl⟩) (fun q q=>rfl)).mono (fun q h=>h) fun u x P' _ ⟨z,a,_,h⟩=>by
  have e:eD (u.d 4)=z.2:=a.2.2.1
  rw [e]; exact h
def rs(P:zp)(aI fr pL aC pM:Nat)(F2:zb)(so:dv)(rS k aQ aW:Nat)(sets most qK st qJ nL:Int)(x2 k2 k3:Str)(ks:zj)(pX pj qR pz DF tm DS qk vL:zu):Spec:=⟨Rn P aI fr aC,[aI,fr,pL,aC,pM],[Bv st ((k+1:Nat):Int) 1,oN P pL pM sets most so,A0 pX,lj so rS,A0 qR],fun A=>.fin (.again (Rn P aI fr aC)),fun A=>[Bv (st+1) (((k+1:Nat):Int)-1) 1,HH P pL (A 0) (sets+nL) qK (some st) (some (aQ,qJ,aW)) (some (x2,k2)),A0 pj,B0 (A 1),A0 pz],fun A=>[A0 qk,A6 vL]⟩
variable{St:zc}(w b b2)
theorem Nr(aI fr pL aC pM:Nat)(F2:zb)(so:dv)(rS k:Nat)(sets most qK st qJ nL:Int)(x2 k2 k3:Str)(ks:zj)(pX pj qR pz:zu){nm:zm}(hn:DQ nm)(kl:Ik nm){R:Lp}{E:zi}{I0:zd}(ui:∀ aI aF,Spec.pW (Pm w.2 aI pM fr pL aC aF sets most qK st qR pX (fF so) qJ (some (x2,k2))) (fun z y P1=>DY w.2 nm R F2 z.2 P1) (Pm w.2 aI pM fr pL aC aF sets most qK st qR pX (fF so) qJ (some (x2,k2)) (.plain,.plain)) (wf w b b2) (Al ⟨3,Ax (AJ w.2 fr aC::E) zw⟩) I0)(h6:F2.length∈List.range' 1 6)(hx:FF ((C8 F2).map fun e=>Ah e.1)=true)(sO:(F2.map fun e=>Ah e.1).Nodup)(tL:ks=(C8 F2).map fun e=>AU nm (Ah e.1))(uk:some k3=H0 nm (C8 F2) none)(uq:nL=(C8 F2).length)(eN:pj=pX)(eL:pz=qR):Spec.pW (fun (z:zu×zu×Nat×Nat)=>rs w.2 aI fr pL aC pM F2 so rS k z.2.2.1 z.2.2.2 sets most qK st qJ nL x2 k2 k3 ks pX pj qR pz .plain .plain .plain z.1 z.2.1) (fun (z:zu×zu×Nat×Nat) A P'=>(True)∧(Jl w.2 nm R (C8 F2) (C8 F2).length z.1) P') (rs w.2 aI fr pL aC pM F2 so rS k 0 0 sets most qK st qJ nL x2 k2 k3 ks pX pj qR pz .plain .plain .plain .plain .plain) (wf w b b2) (Al (⟨2,Ax (AJ w.2 fr aC::E) zw⟩)) (I0):=Rd (K0:=fun (z:zu×zu×Nat×Nat)=>Jl w.2 nm R (C8 F2) (C8 F2).length z.1) (Cs.oi so) _ (fun (z:zu×zu×Nat×Nat) A=>True) (fun z D=>rs w.2 aI fr pL aC pM F2 z rS k 0 0 sets most qK st qJ nL x2 k2 k3 ks (gD D 0) pj (gD D 1) pz .plain .plain .plain .plain .plain) (fun z D l=>rs w.2 aI fr pL aC pM F2 z rS k (un l 3 0 3) (un l 3 0 4) sets most qK st qJ nL x2 k2 k3 ks (gD D 0) (ud l 3 6) (gD D 1) (ud l 3 2) (ud l 3 10) (ud l 2 0) (ud l 2 1) (ud l 1 4) (ud l 1 10)) (fun z D=>[fun y=>mh w.2 pM pL fr aC sets most qK st (gD D 1) (gD D 0) (fF z) qJ (some (x2,k2)) 6 5,fun l=>mf w.2 5 (ud l 0 10) ks,fun l=>nG w.2 fr (ud l 0 1) (ud l 0 0) (some k3) (C8 F2).length,fun l=>FA 9 (ud l 0 4) nL]) 4 (fun z D l=>[]) (fun z=>[9,5]) [false,false,true,false,true] (hD 13 36 2106751377813839635972487412405848614375) 2 [0,1,0] 0 [pX,qR] fun E0 ke=>.qA (Xn ui) fun u0 y g0=>.cons (Xi (fun aF=>by (try simp only [un,ud,CI]); rw [tL]; exact aH kl R aF hx h6 _) (by rfl)) fun y y g1=>.qA (let ⟨_,k⟩:=g1.1; YF hn sO (by have:=(yC.mp h6).2; lia) (k.trans (by (try simp only [un,ud,CI]); rw [tL])) uk g1.2 rfl) fun u2 y g2=>.q ((let ⟨_,_,k1,k2⟩:=g2; Bz k1 (by (try simp only [un,ud,CI]); rw [uq,k2]) (by (try simp only [un,ud,CI]); rw [k2,show (C8 F2).length=F2.length from (BZ _ F2).length_eq]; have:=(yC.mp h6).2; lia))) fun y y y=>.nil fun P hP=>ke _ _ ⟨(eD (u2.d 4),eD (u2.d 10),u0.n 0 3,u0.n 0 4),@id (eD (u0.d 6)=pj) ((let ⟨_,k⟩:=g0.1; k.2.2.1).trans eN.symm) ▸ @id (eD (u0.d 2)=pz) ((let ⟨_,k⟩:=g0.1; k.2.1).trans eL.symm) ▸ rfl,hP,fun y y=>trivial⟩
def oT(P:zp)(aI:Nat)(fr aC:Nat)(i:Int):Spec:=⟨Rn P aI fr aC,[aI],[Bv i 0 1],fun A=>.fin (.done .next),fun A=>[Bv i 0 1],fun A=>[]⟩
theorem Rm(aI:Nat)(fr aC:Nat)(i:Int)(I:zd):(oT w.2 aI fr aC i).PI w b b2 2 St I:=As (Ag []) 0 [] [1,1,1,1,1,3] 1000000 [] 1 fun E0 ke=>.pO ke rfl
def gV(P:zp):Stmt:=(CM (EW (Ti P))).getD 7 (.Pass default)
def Wv(P:zp)(fr aC:Nat):Code:=.whileLoop (gS (gV P)) (Zw (gV P)) (gT (gV P)) (AJ P fr aC)
def XM(P:zp)(pL pM:Nat)(sets most st:Int)(o:Nat×Int×Nat)(nk:Str×Str)(aS:Nat)(rounds:Int)(aG:Nat):Obj:=
 Bp (.dict ⟨gz P pL pM sets most (some st) (some o) (some nk)++[kE P "sorter" (.ref aS),kE P "rounds" (.int rounds 0),kE P "group" (.ref aG)]⟩ 13)
def nE(P:zp)(names:zf)(aS aD aN aR:Nat)(po nf qI:Int)(tr:zl):A8:=BU tr [] [] (fun x=>dA P names (A4 x (tr.headD 0)) aS aD aN aR po nf qI)
theorem YC{w:zt}{b b2:Bool}{names:zf}{aS aD aN aR:Nat}{po nf qI:Int}{tr:zl}{I O:zd}{St:Tl}(h:∀ pv,(dA w.2 names pv aS aD aN aR po nf qI).PO w b b2 7 (fun q=>True) I O)(nd:tr.Nodup)(hl:tr.length=3)(hn:Nat.ble (St.l+1) 7=true):(nE w.2 names aS aD aN aR po nf qI tr).qB pw (wf w b b2) (A5 w.2) St I O:=
 AL (w:=wf w b b2) (fun q=>h _) nd (fun q=>⟨hl.symm,hl.symm,fun q=>hl.symm⟩) (fun q q=>rfl) hn
def wd(P:zp)(fr aS aD aG:Nat)(nm:zm)(lc:zl)(aC pL pM aN aR:Nat)(sets most st rounds po qN nf qI:Int)(o:Nat×Int×Nat)(nk:Str×Str)(DG:zu):Spec:=⟨Wv P fr aC,[fr,aS,aD,aG],[XM P pL pM sets most st o nk aS rounds aG,AE aD,AF P aN (.ref aR) po nf,AG (.seq ⟨AB nm lc⟩ 0)],fun A=>.fin (.again (Wv P fr aC)),fun A=>[XM P pL pM sets most st o nk aS (rounds+1) (A 0),AE aD,AF P aN (.ref aR) qN qI,AG (.seq ⟨AB nm lc⟩ 0)],fun A=>[AG DG]⟩
theorem Wu(fr aS aD aG:Nat)(nm:zm)(lc:zl)(aC pL pM aN aR:Nat)(sets most st rounds po qN nf qI:Int)(o:Nat×Int×Nat)(nk:Str×Str)(DG:zu)(I J K:zd)(qf:lc≠[])(hl:lc.length≤4)(v5:∀ pv,(dA w.2 (AB nm lc) pv aS aD aN aR po nf qI).PO w b b2 7 (fun q=>True) I J)(sU:(Uq w.2 aS aD aN aR po qN qI DG).PO w b b2 7 (fun q=>True) J K):(wd w.2 fr aS aD aG nm lc aC pL pM aN aR sets most st rounds po qN nf qI o nk DG).PO w b b2 2 St I K:=Ae (Cs.len lc [1,2,3,4] (WA qf hl)) (fun z D=>wd w.2 fr aS aD aG nm z aC pL pM aN aR sets most st rounds po qN nf qI o nk DG) (fun z D l=>wd w.2 fr aS aD aG nm z aC pL pM aN aR sets most st rounds po qN nf qI o nk (ud l 0 1)) (fun z D=>(Ag [Dt 5 3,nE w.2 (AB nm z) aS aD aN aR po nf qI [4,1,2],fK w.2 aS aD aN aR po qN qI DG [1,2]])) 3 (fun z=>[6]) [] (hD 8 60 216723157651717397382152650354758154547931161309890624) 7 [0] 0 [] fun E0 ke=>.note (BP (by decide)) fun q q q=>.cons (YC v5 (by decide) rfl (by rfl)) fun q q q=>.cons (KV sU (by decide) rfl (by rfl)) fun u2 q g2=>.pO ke (@id (eD (u2.d 1)=DG) (g2.2.1) ▸ rfl)
def o8(P:zp)(fr aG:Nat)(aC pL pM aS:Nat)(sets most st rounds:Int)(o:Nat×Int×Nat)(nk:Str×Str):Spec:=⟨Wv P fr aC,[fr,aG],[XM P pL pM sets most st o nk aS rounds aG,AG (.seq ⟨[]⟩ 0)],fun A=>.fin (.done .next),fun A=>[XM P pL pM sets most st o nk aS rounds aG,AG (.seq ⟨[]⟩ 0)],fun A=>[]⟩
theorem Qz(fr aG:Nat)(aC pL pM aS:Nat)(sets most st rounds:Int)(o:Nat×Int×Nat)(nk:Str×Str)(I:zd):(o8 w.2 fr aG aC pL pM aS sets most st rounds o nk).PI w b b2 2 St I:=As (Ag []) 0 [] [0,0,1,2,2,2] 1000000 [] 0 fun E0 ke=>.pO ke rfl
section
structure RS where
 lv:zb
 sets:Int
 most:Int
 wy:Int
 nk:Str×Str
def E3(pT:zl→zl)(lv:zb)(most:Int):zb×Int:=lv.foldl (N9 pT) ([],most)
def LA(nm:zm)(pT:zl→zl)(s:RS):RS:=
 ⟨C8 (E3 pT s.lv s.most).1,s.sets+((C8 (E3 pT s.lv s.most).1).length:Nat),(E3 pT s.lv s.most).2,(wL s.lv none).getD 0,(Gy nm pT s.lv none).getD (⟨#[]⟩,⟨#[]⟩)⟩
def JQ(nm:zm)(pT:zl→zl):Nat→RS→RS
 | 0,s=>s
 | n+1,s=>JQ nm pT n (LA nm pT s)
structure Zo(ns:za)(pT:zl→zl)(lv:zb)(most:Int):Prop where
 ne:lv≠[]
 len:lv.length≤20
 g:∀ q∈lv,Vb ns q.1 (pT q.1)∧q.1.length≤40∧(AA q.1 (pT q.1)).length≤20
 kn:∀ q∈lv,AA q.1 (pT q.1)≠[]
 h6:(E3 pT lv most).1.length∈List.range' 1 6
 hx:FF ((C8 (E3 pT lv most).1).map fun e=>Ah e.1)=true
 nd:((E3 pT lv most).1.map fun e=>Ah e.1).Nodup
def FK(ns:za)(nm:zm)(pT:zl→zl):Nat→RS→Prop
 | 0,_=>True
 | n+1,s=>Zo ns pT s.lv s.most∧FK ns nm pT n (LA nm pT s)
theorem Tu{nm:zm}{os:zl}:∀ {W:zl},W≠[]→∀ s,Jo nm os W s=Jo nm os W none
 | [],h,_=>absurd rfl h
 | c::r,_,_=>rfl
theorem JL{nm:zm}{os:zl}:∀ (W:zl) (s:Option (Str×Str)),W≠[]∨s.isSome=true→(Jo nm os W s).isSome=true
 | [],s,h=>h.elim (fun h=>absurd rfl h) id
 | c::r,s,_=>JL r _ (.inr rfl)
theorem Tv{nm:zm}{pT:zl→zl}:∀ {lv:zb},lv≠[]→(∀ q∈lv,AA q.1 (pT q.1)≠[])→∀ s,Gy nm pT lv s=Gy nm pT lv none
 | [],h,_,_=>absurd rfl h
 | q::r,_,k,s=>by show Gy nm pT r (Jo nm q.1 _ s)=Gy nm pT r (Jo nm q.1 _ none); rw [Tu (k q (.head _))]
theorem GQ{nm:zm}{pT:zl→zl}:∀ {lv:zb} (s:Option (Str×Str)),lv≠[]∨s.isSome=true→(∀ q∈lv,AA q.1 (pT q.1)≠[])→(Gy nm pT lv s).isSome=true
 | [],s,h,_=>h.elim (fun h=>absurd rfl h) id
 | q::r,s,_,k=>by
  show (Gy nm pT r (Jo nm q.1 (AA q.1 (pT q.1)) s)).isSome=true
  exact GQ _ (.inr (JL _ _ (.inl (k q (.head _))))) (fun q m=>k q (.tail _ m))
theorem Hp:∀ (lv:zb) (s:Option Int),lv≠[]∨s.isSome=true→(wL lv s).isSome=true
 | [],s,h=>h.elim (fun h=>absurd rfl h) id
 | q::r,s,_=>Hp r _ (.inr rfl)
theorem Ep{nm:zm}:∀ (lv:zb) (s:Option Str),lv≠[]∨s.isSome=true→(H0 nm lv s).isSome=true
 | [],s,h=>h.elim (fun h=>absurd rfl h) id
 | q::r,s,_=>Ep r _ (.inr rfl)
theorem Di{α:Type}{o:Option α}{d:α}(h:o.isSome=true):some (o.getD d)=o:=by cases o with | none=>cases h | some a=>rfl
theorem Jl.more{P:zp}{nm:zm}{R:Lp}{lv:zb}{e:Nat}{D:zu}{L:Lp}(h:Jl P nm R lv e D L)(X:Lp):Jl P nm R lv e D (L++X):=by
 obtain ⟨es,M,he,hD,pm⟩:=h
 exact ⟨es,X++M,he,hD,(pm.append_right X).trans (Dm [es.flatMap (Fq nm),M,R,X] (.a (.r [0,1] (.l 2)) (.l 3)) (.a (.l 0) (.a (.a (.l 3) (.l 1)) (.l 2))) rfl)⟩
theorem Jl.cons{P:zp}{nm:zm}{R:Lp}{lv:zb}{e:Nat}{D:zu}{L:Lp}(q:Nat×Obj)(h:Jl P nm R lv e D L):Jl P nm (q::R) lv e D (q::L):=by
 obtain ⟨es,M,he,hD,pm⟩:=h
 exact ⟨es,M,he,hD,(pm.cons q).trans (Dm [[q],es.flatMap (Fq nm),M,R] (.r [0,1,2] (.l 3)) (.r [1,2,0] (.l 3)) rfl)⟩
theorem az{α:Type}(I f N C L l d:α)(P:List α):(([I,f,N,C,L]++P)++[l,d]).Perm ([I,f,N,C,l]++(P++[L,d])):=
 Dm [[I],[f],[N],[C],[L],[l],[d],P] (.a (.a (.q [0,1,2,3,4]) (.l 7)) (.q [5,6])) (.a (.q [0,1,2,3,5]) (.a (.l 7) (.q [4,6]))) rfl
theorem ay{α:Type}(I f N C L l d:α)(P:List α):(([I,f,N,C,L]++P)++[l,d]).Perm ([I,f,N,C,l]++(L::(P++[d]))):=
 Dm [[I],[f],[N],[C],[L],[l],[d],P] (.a (.a (.q [0,1,2,3,4]) (.l 7)) (.q [5,6])) (.a (.q [0,1,2,3,5]) (.a (.q [4]) (.a (.l 7) (.q [6])))) rfl
section
variable{w:zt}{b b2:Bool}{nm:zm}(hn:DQ nm)(kl:Ik nm)(R:Lp){E:zi}(hE:AW E R){ts:zl}{ns:za}(nd:F5 nm R ts ns)(hp:H8 ns)(en:Nat){X:Str}(hX:CX nm ns none=some X)(pT:zl→zl)(aI fr pL aC:Nat)
inductive Zp (P:zp) (nm:zm) (R:Lp) (ts:zl) (en aI fr pL aC:Nat) (st rU:Int) (k rl:Nat) (s:RS) (L:Lp):Prop
 | mk (pM rS a c:Nat) (D:zu) (Q:Lp) (h:Jl P nm R s.lv rl D Q) (pm:L.Perm ([(aI,Bv st (k:Nat) 1),(fr,HH P pL pM s.sets s.most (some rU) (some (a,s.wy,c)) (some s.nk)),(pL,A0 (.seq ⟨ts.map .ref⟩ en)),(aC,B0 rS),(pM,A0 D)]++Q)):Zp P nm R ts en aI fr pL aC st rU k rl s L
include hn kl hE nd hp hX
theorem Rk(st rU:Int)(k rl:Nat)(s:RS)(h:Zo ns pT s.lv s.most) :
  AO w b b2 2 (Ax (AJ w.2 fr aC::E) zw) (Rn w.2 aI fr aC) (Zp w.2 nm R ts en aI fr pL aC st rU (k+1) rl s)
   (fun e L=>e=.fin (.again (Rn w.2 aI fr aC))∧Zp w.2 nm R ts en aI fr pL aC (st+1) st k (C8 (E3 pT s.lv s.most).1).length (LA nm pT s) L):=by
 rintro L0 ⟨pM,rS,a,c,D,Q,hQ,pm⟩
 have hw:=Di (d:=0) (Hp s.lv none (.inl h.ne))
 have hk:=Di (d:=((⟨#[]⟩,⟨#[]⟩):Str×Str)) (GQ (nm:=nm) (pT:=pT) none (.inl h.ne) h.kn)
 have qf:C8 (E3 pT s.lv s.most).1≠[]:=fun e=>by
  have h1:=(BZ (fun e:zl×Nat=>Ah e.1) (E3 pT s.lv s.most).1).length_eq
  have h2:=(yC.mp h.h6).1
  rw [show Cw (fun e:zl×Nat=>Ah e.1) (E3 pT s.lv s.most).1=[] from e] at h1
  rw [← h1] at h2
  cases h2
 have hK:=Di (d:=(⟨#[]⟩:Str)) (Ep (nm:=nm) (C8 (E3 pT s.lv s.most).1) none (.inl qf))
 refine Spec.pW.kq (Pre:=fun L=>L=L0) (Nr w b b2 aI fr pL aC pM (E3 pT s.lv s.most).1 (some (rU,(a,s.wy,c),s.nk)) rS k s.sets s.most (E3 pT s.lv s.most).2 st ((wL s.lv none).getD 0) ((C8 (E3 pT s.lv s.most).1).length:Nat) ((Gy nm pT s.lv none).getD (⟨#[]⟩,⟨#[]⟩)).1 ((Gy nm pT s.lv none).getD (⟨#[]⟩,⟨#[]⟩)).2 ((H0 nm (C8 (E3 pT s.lv s.most).1) none).getD ⟨#[]⟩) _ (.seq ⟨ts.map .ref⟩ en) (.seq ⟨ts.map .ref⟩ en) D D hn kl (R:=R) (I0:=Jl w.2 nm R s.lv rl D) (fun aI aF=>?_) h.h6 h.hx h.nd rfl hK rfl rfl rfl) (fun L e=>⟨Q,e ▸ pm,hQ⟩) ?_ (hp:=rfl) (hF:=fun q=>rfl) (hc:=fun q q=>rfl) L0 rfl
 ·have hf:=Yz (w:=w) (b:=b) (b2:=b2) hn R hE nd hp en hX pT aI pM fr pL aC aF s.sets st (eL:=rl) h.ne h.len h.g (fF (some (rU,(a,s.wy,c),s.nk))) s.most (qR:=D) rfl hw.symm
  rw [Tv h.ne h.kn,← hk] at hf
  exact hf
 ·rintro ⟨D2,D3,aQ,aW⟩ A1 P' ⟨_,hP⟩
  refine ⟨_,az _ _ _ _ _ _ _ _,rfl,A1 0,A1 1,aQ,aW,D2,_,Jl.more hP [(pM,A0 D),(A1 1,A6 D3)],.of_eq ?_⟩
  rw [show (((k+1:Nat):Int)-1)=(k:Nat) by lia]
  rfl
theorem Rl:∀ (k:Nat) (st rU:Int) (rl:Nat) (s:RS),FK ns nm pT k s→
  AO w b b2 2 (Ax (AJ w.2 fr aC::E) zw) (Rn w.2 aI fr aC) (Zp w.2 nm R ts en aI fr pL aC st rU k rl s)
   (fun e L=>e=.fin (.done .next)∧∃ sL,(k=0→sL=rU)∧(k≠0→sL=st+(k:Nat)-1)∧∃ e',(k≠0→e'=(JQ nm pT k s).lv.length)∧(k=0→e'=rl)∧Zp w.2 nm R ts en aI fr pL aC (st+(k:Nat)) sL 0 e' (JQ nm pT k s) L):=by
 intro k
 induction k with
 | zero=>
  intro st rU rl s _
  rintro L0 ⟨pM,rS,a,c,D,Q,hQ,pm⟩
  refine ((Rm (St:=Ax (AJ w.2 fr aC::E) zw) w b b2 aI fr aC st (fun L=>L=[(fr,HH w.2 pL pM s.sets s.most (some rU) (some (a,s.wy,c)) (some s.nk)),(pL,A0 (.seq ⟨ts.map .ref⟩ en)),(aC,B0 rS),(pM,A0 D)]++Q)).kp (q8:=fun L=>L=L0) (fun L e=>e ▸ pm) fun A1=>⟨_,.refl _,rfl,rU,fun q=>rfl,fun h=>absurd rfl h,rl,fun h=>absurd rfl h,fun q=>rfl,pM,rS,a,c,D,Q,hQ,.of_eq ?_⟩) L0 rfl
  rw [show st+((0:Nat):Int)=st by lia]; rfl
 | succ k ih=>
  intro st rU rl s h
  obtain ⟨h1,h2⟩:=(show Zo ns pT s.lv s.most∧FK ns nm pT k (LA nm pT s) from h)
  refine AK.go (fun q q q h=>h) (by kernel_rfl) (Rk (w:=w) (b:=b) (b2:=b2) hn kl R hE nd hp en hX pT aI fr pL aC st rU k rl s h1) ((ih (st+1) st (C8 (E3 pT s.lv s.most).1).length (LA nm pT s) h2).pU (fun L h=>⟨L,.refl _,h⟩) fun e L ⟨a1,sL,a2,a3,e',a4,a5,a6⟩=>⟨L,.refl _,a1,sL,fun h=>absurd h (ya _),fun q=>?_,e',fun q=>?_,fun h=>absurd h (ya _),?_⟩)
  ·cases k with
   | zero=>rw [a2 rfl]; lia
   | succ k=>rw [a3 (ya _)]; lia
  ·cases k with
   | zero=>rw [a5 rfl]; rfl
   | succ k=>exact a4 (ya _)
  ·rw [show st+((k+1:Nat):Int)=st+1+(k:Nat) by lia]; exact a6
end
end
section
noncomputable def Ih:RS:=⟨[([],1)],1,0,0,(⟨#[]⟩,⟨#[]⟩)⟩
def nj(P:zp)(nm:zm)(aI fr pL aC pM aT aO:Nat)(pX:zu)(s:RS)(os:zl)(wy:Nat):Spec:=
 ⟨Rn P aI fr aC,[aI,fr,pL,aC,pM,aT,aO],[Bv 0 4 1,HH P pL pM 1 0 none none none,A0 pX,{ cls:=.type "cell",data:=.cell none },A0 (.seq #[.ref aT] 0),AG (.seq #[.ref aO,.int 1 0] 0),A0 (.seq #[] 0)],fun q=>.fin (.done .next),
  fun A=>[Bv 4 0 1,HH P pL (A 0) s.sets s.most (some 3) (some (A 3,s.wy,A 4)) (some s.nk),A0 pX,B0 (A 5),A0 (.seq #[.ref aT] 0),AG (.seq #[.ref aO,.int 1 0] 0),A0 (.seq #[] 0)],
  fun A=>[A0 (.seq #[.ref (A 1)] 1),AG (.seq #[.ref (A 2),.int (wy:Nat) 0] 0),A0 (.seq ⟨AB nm os⟩ 0)]⟩
theorem b8{α:Type}(I f N C L T O:α)(R:List α):([I,f,N,C,L,T,O]++R).Perm ([I,f,N,C,L]++(T::O::R)):=
 Dm [[I],[f],[N],[C],[L],[T],[O],R] (.a (.q [0,1,2,3,4,5,6]) (.l 7)) (.a (.q [0,1,2,3,4]) (.r [5,6] (.l 7))) rfl
theorem b7{α:Type}{Q:List α}(I f N C L T O l t o:α)(M R:List α)(h:Q.Perm ([t,o]++(M++(L::T::O::R)))):([I,f,N,C,l]++Q).Perm (([I,f,N,C,L,T,O]++[l,t,o])++(R++M)):=
 FQ [[I],[f],[N],[C],[L],[T],[O],[l],[t],[o],M,R,Q] (.a (.q [0,1,2,3,7]) (.l 12)) (.a (.a (.q [0,1,2,3,4,5,6]) (.q [7,8,9])) (.a (.l 11) (.l 10))) (.l 12) (.a (.q [8,9]) (.a (.l 10) (.r [4,5,6] (.l 11)))) h rfl
section
variable{w:zt}{b b2:Bool}{nm:zm}(hn:DQ nm)(kl:Ik nm)(R:Lp){E:zi}(hE:AW E R){ts:zl}{ns:za}(nd:F5 nm R ts ns)(hp:H8 ns)(en:Nat){X:Str}(hX:CX nm ns none=some X)(pT:zl→zl)(aI fr pL aC pM aT aO:Nat)
include hn kl hE nd hp hX
theorem Nq(h:Zo ns pT [([],1)] 0) :
  AO w b b2 2 (Ax (AJ w.2 fr aC::E) zw) (Rn w.2 aI fr aC) (fun L=>L=[(aI,Bv 0 4 1),(fr,HH w.2 pL pM 1 0 none none none),(pL,A0 (.seq ⟨ts.map .ref⟩ en)),(aC,{ cls:=.type "cell",data:=.cell none }),(pM,A0 (.seq #[.ref aT] 0)),(aT,AG (.seq #[.ref aO,.int 1 0] 0)),(aO,A0 (.seq #[] 0))]++R)
   (fun e L=>e=.fin (.again (Rn w.2 aI fr aC))∧Zp w.2 nm ((pM,A0 (.seq #[.ref aT] 0))::(aT,AG (.seq #[.ref aO,.int 1 0] 0))::(aO,A0 (.seq #[] 0))::R) ts en aI fr pL aC 1 0 3 (LA nm pT Ih).lv.length (LA nm pT Ih) L):=by
 have hw:=Di (d:=0) (Hp [([],1)] none (.inl h.ne))
 have hk:=Di (d:=((⟨#[]⟩,⟨#[]⟩):Str×Str)) (GQ (nm:=nm) (pT:=pT) none (.inl h.ne) h.kn)
 have qf:C8 (E3 pT [([],1)] 0).1≠[]:=fun e=>by
  have h1:=(BZ (fun e:zl×Nat=>Ah e.1) (E3 pT [([],1)] 0).1).length_eq
  have h2:=(yC.mp h.h6).1
  rw [show Cw (fun e:zl×Nat=>Ah e.1) (E3 pT [([],1)] 0).1=[] from e] at h1
  rw [← h1] at h2
  cases h2
 have hK:=Di (d:=(⟨#[]⟩:Str)) (Ep (nm:=nm) (C8 (E3 pT [([],1)] 0).1) none (.inl qf))
 refine Spec.pW.kq (Nr w b b2 aI fr pL aC pM (E3 pT [([],1)] 0).1 none 0 3 1 0 (E3 pT [([],1)] 0).2 0 ((wL [([],1)] none).getD 0) ((C8 (E3 pT [([],1)] 0).1).length:Nat) ((Gy nm pT [([],1)] none).getD (⟨#[]⟩,⟨#[]⟩)).1 ((Gy nm pT [([],1)] none).getD (⟨#[]⟩,⟨#[]⟩)).2 ((H0 nm (C8 (E3 pT [([],1)] 0).1) none).getD ⟨#[]⟩) _ (.seq ⟨ts.map .ref⟩ en) (.seq ⟨ts.map .ref⟩ en) (.seq #[.ref aT] 0) (.seq #[.ref aT] 0) hn kl (R:=[(⟨aT,aO,[],1⟩:EN)].flatMap (Fq nm)++R) (I0:=fun L=>∃ M,L.Perm ([(⟨aT,aO,[],1⟩:EN)].flatMap (Fq nm)++(M++R))) (fun aI aF=>?_) h.h6 h.hx h.nd rfl hK rfl rfl rfl) (fun L e=>⟨(aT,AG (.seq #[.ref aO,.int 1 0] 0))::(aO,A0 (.seq #[] 0))::R,e ▸ b8 _ _ _ _ _ _ _ _,[],.refl _⟩) ?_ (hp:=rfl) (hF:=fun q=>rfl) (hc:=fun q q=>rfl)
 ·have hf:=WO (w:=w) (b:=b) (b2:=b2) hn R hE nd hp en hX pT aI pM fr pL aC aF 1 0 (es:=[⟨aT,aO,[],1⟩]) (eL:=0) (by simp) (by simp) (fun e m=>by
   rw [xX] at m; subst m
   exact h.g ([],1) (.head _)) none 0 (qR:=.seq #[.ref aT] 0) rfl rfl hw.symm
  have hk':Gy nm pT ([(⟨aT,aO,[],1⟩:EN)].map EN.pr) (NC none)=some (((Gy nm pT [([],1)] none).getD (⟨#[]⟩,⟨#[]⟩)).1,((Gy nm pT [([],1)] none).getD (⟨#[]⟩,⟨#[]⟩)).2):=hk.symm
  rw [hk'] at hf
  exact hf
 ·rintro ⟨D2,D3,aQ,aW⟩ A1 P' ⟨_,hP⟩
  exact ⟨_,ay _ _ _ _ _ _ _ _,rfl,A1 0,A1 1,aQ,aW,D2,_,(Jl.more hP [(A1 1,A6 D3)]).cons _,.refl _⟩
theorem Uu{pX:zu}(hN:pX=.seq ⟨ts.map .ref⟩ en)(h:FK ns nm pT 4 Ih){os:zl}{wy:Nat}(hl:(JQ nm pT 4 Ih).lv=[(os,wy)]) :
  (nj w.2 nm aI fr pL aC pM aT aO pX (JQ nm pT 4 Ih) os wy).PO w b b2 2 (Ax (AJ w.2 fr aC::E) zw) (fun P=>P=R) (fun P=>∃ L,P.Perm (R++L)):=by
 subst hN
 obtain ⟨h1,h2⟩:=(show Zo ns pT [([],1)] 0∧FK ns nm pT 3 (LA nm pT Ih) from h)
 have hl3:(JQ nm pT 3 (LA nm pT Ih)).lv=[(os,wy)]:=hl
 have e4:JQ nm pT 4 Ih=JQ nm pT 3 (LA nm pT Ih):=rfl
 rw [e4]
 have hE1:AW E ((pM,A0 (.seq #[.ref aT] 0))::(aT,AG (.seq #[.ref aO,.int 1 0] 0))::(aO,A0 (.seq #[] 0))::R):=hE.mono fun q m=>.tail _ (.tail _ (.tail _ m))
 have nd1:F5 nm ((pM,A0 (.seq #[.ref aT] 0))::(aT,AG (.seq #[.ref aO,.int 1 0] 0))::(aO,A0 (.seq #[] 0))::R) ts ns:=((nd.cons _).cons _).cons _
 have hk:=AK.go (fun z z z h=>h) (by kernel_rfl) (Nq (w:=w) (b:=b) (b2:=b2) hn kl R hE nd hp en hX pT aI fr pL aC pM aT aO h1) (Rl (w:=w) (b:=b) (b2:=b2) hn kl _ hE1 nd1 hp en hX pT aI fr pL aC 3 1 0 _ _ h2)
 rintro P rfl
 refine (hk _ rfl).out ?_
 rintro e L ⟨⟨he,sL,_,a3,e',a4,_,aLv',rS,a,c,D,Q,⟨es,M,hes,hD,pmQ⟩,pm⟩,_⟩
 rw [hl3] at hes
 have hst:sL=3:=by rw [a3 (by decide)]; rfl
 have he':e'=1:=by rw [a4 (by decide),hl3]; rfl
 subst hst he'
 match es,hes with
 | [e0],hes=>
  have h3:e0.pr=(os,wy):=(wB hes).1
  have ho:e0.os=os:=vm (·.1) h3
  have hw:e0.w=wy:=vm (·.2) h3
  subst ho hw hD
  exact ⟨_,pm.trans (b7 _ _ _ _ _ _ _ _ _ _ _ _ pmQ),fun k=>match k with | 0=>aLv' | 1=>e0.aT | 2=>e0.aO | 3=>a | 4=>c | _=>rS,P++M,⟨M,.refl _⟩,fun x m=>by rw [vl]; exact vq _ m,he,rfl⟩
end
end
section
def Ei:Nat→GS→zl→Nat→Option Nat
 | 0,_,_,_=>none
 | n+1,G,l,e=>if l=[] then some 0 else match Ea G.sc l G.np [] e with
  | none=>none
  | some r=>if H3 G l∧H3 G r.2.1 then (Ei n (BH r.2.1 { G with np:=r.1 }) r.2.1 (Fp r.2.1 r.2.2)).map (· + 1) else none
inductive m7 (n:Nat) (G:GS) (l:zl) (e m:Nat):Prop
 | z (h:l=[]) (hm:m=0):m7 n G l e m
 | s (h:l≠[]) (r:(Nat→Int)×zl×Nat) (m':Nat) (hr:Ea G.sc l G.np [] e=some r) (h1:H3 G l) (h2:H3 G r.2.1) (hm:m=m'+1) (k:Ei n (BH r.2.1 { G with np:=r.1 }) r.2.1 (Fp r.2.1 r.2.2)=some m'):m7 n G l e m
theorem XN{n:Nat}{G:GS}{l:zl}{e m:Nat}(h:Ei (n+1) G l e=some m):m7 n G l e m:=by
 have h:(if l=[] then some 0 else match Ea G.sc l G.np [] e with
  | none=>none
  | some r=>if H3 G l∧H3 G r.2.1 then (Ei n (BH r.2.1 { G with np:=r.1 }) r.2.1 (Fp r.2.1 r.2.2)).map (· + 1) else none)=some m:=h
 by_cases hl:l=[]
 ·rw [wD hl] at h; exact .z hl (x8 h).symm
 ·rw [w2 hl] at h
  cases hr:Ea G.sc l G.np [] e with
  | none=>rw [hr] at h; cases h
  | some r=>
   rw [hr] at h
   have h:(if H3 G l∧H3 G r.2.1 then (Ei n (BH r.2.1 { G with np:=r.1 }) r.2.1 (Fp r.2.1 r.2.2)).map (· + 1) else none)=some m:=h
   by_cases k:H3 G l∧H3 G r.2.1
   ·rw [wD k] at h
    obtain ⟨m',h1,h2⟩:=xZ.mp h
    exact .s hl r m' hr k.1 k.2 h2.symm h1
   ·rw [w2 k] at h; cases h
theorem RG.more{P:zp}{nm:zm}{aN aR:Nat}{R0:Lp}{G:GS}{l:zl}{e:Nat}{L:Lp}(h:RG P nm aN aR R0 G l e L)(X:Lp):RG P nm aN aR R0 G l e (L++X):=by
 obtain ⟨A,M,pm⟩:=h
 exact ⟨A,X++M,(pm.append_right X).trans (Dm [[(aN,A6 (A7 P (Ar nm A G.ord) G.ord.length)),(aR,A0 (.seq ⟨AB nm l⟩ e))],G.ord.flatMap (Du nm G A),M,R0,X] (.a (.a (.l 0) (.r [1,2] (.l 3))) (.l 4)) (.a (.l 0) (.a (.l 1) (.a (.a (.l 4) (.l 2)) (.l 3)))) rfl)⟩
def fk(P:zp)(nm:zm)(aN aR aG:Nat)(R0:Lp)(G:GS)(l:zl)(e:Nat)(L:Lp):Prop:=∃ Q,RG P nm aN aR R0 G [] e Q∧L.Perm ((aG,AG (.seq ⟨AB nm l⟩ 0))::Q)
section
variable{w:zt}{b b2:Bool}{nm:zm}(inj:∀ a b,nm a=nm b→a=b)(R0:Lp)(fr aC pL pM aS aD aN aR:Nat)(sets most st:Int)(o:Nat×Int×Nat)(nk:Str×Str)
inductive du (P:zp) (nm:zm) (R0:Lp) (fr pL pM aS aD aN aR:Nat) (sets most st:Int) (o:Nat×Int×Nat) (nk:Str×Str) (rounds:Int) (G:GS) (l:zl) (e:Nat) (aG:Nat) (L:Lp):Prop
 | mk (po nf:Int) (Q:Lp) (h:RG P nm aN aR R0 G [] e Q) (pm:L.Perm ([(fr,XM P pL pM sets most st o nk aS rounds aG),(aS,AE aD),(aD,AF P aN (.ref aR) po nf),(aG,AG (.seq ⟨AB nm l⟩ 0))]++Q)):du P nm R0 fr pL pM aS aD aN aR sets most st o nk rounds G l e aG L
theorem ax{α:Type}(f S D g g2:α)(P:List α):(([f,S,D,g]++P)++[g2]).Perm ([f,S,D,g2]++(P++[g])):=
 Dm [[f],[S],[D],[g],[g2],P] (.a (.a (.q [0,1,2,3]) (.l 5)) (.q [4])) (.a (.q [0,1,2,4]) (.a (.l 5) (.q [3]))) rfl
theorem Vv{α:Type}(f g S D:α)(P:List α):([f,S,D,g]++P).Perm ([f,g]++([S,D]++P)):=
 Dm [[f],[S],[D],[g],P] (.a (.q [0,1,2,3]) (.l 4)) (.a (.q [0,3]) (.a (.q [1,2]) (.l 4))) rfl
include inj
theorem Qx(qO:∀ (G:GS),True):∀ (n:Nat) (rounds:Int) (G:GS) (l:zl) (e aG m:Nat),G.ord.Nodup→(∀ c∈G.ord,∀ d∈G.sc c,d∈G.ord)→(∀ c,(G.sc c).length < 20)→Ei n G l e=some m→
  AO w b b2 2 (fun q=>True) (Wv w.2 fr aC) (du w.2 nm R0 fr pL pM aS aD aN aR sets most st o nk rounds G l e aG)
   (fun e1 L=>e1=.fin (.done .next)∧∃ G' e' tX,du w.2 nm R0 fr pL pM aS aD aN aR sets most st o nk (rounds+(m:Nat)) G' [] e' tX L):=by
 intro n
 induction n with
 | zero=>intro rounds G l e aG m _ _ _ h; cases h
 | succ n ih=>
  intro rounds G l e aG m no hc qY h
  rcases XN h with ⟨rfl,rfl⟩ | ⟨qf,r,m',hr,h1,h2,rfl,k⟩
  ·rintro L0 ⟨po,nf,Q,hQ,pm⟩
   refine ((Qz (St:=fun q=>True) w b b2 fr aG aC pL pM aS sets most st rounds o nk (fun L=>L=[(aS,AE aD),(aD,AF w.2 aN (.ref aR) po nf)]++Q)).kp (q8:=fun L=>L=L0) (fun L e=>(e ▸ pm).trans (Vv _ _ _ _ _)) fun A1=>⟨_,.refl _,rfl,G,e,aG,po,nf,Q,hQ,?_⟩) L0 rfl
   rw [show rounds+((0:Nat):Int)=rounds by lia]
   exact (Vv _ _ _ _ _).symm
  ·have ht:AO w b b2 2 (fun q=>True) (Wv w.2 fr aC) (du w.2 nm R0 fr pL pM aS aD aN aR sets most st o nk rounds G l e aG) (fun e1 L=>e1=.fin (.again (Wv w.2 fr aC))∧∃ uM,du w.2 nm R0 fr pL pM aS aD aN aR sets most st o nk (rounds+1) (BH r.2.1 { G with np:=r.1 }) r.2.1 (Fp r.2.1 r.2.2) uM L):=by
    rintro L0 ⟨po,nf,Q,hQ,pm⟩
    refine Spec.pW.kq (Pre:=fun L=>L=L0) (Spec.pP.d (Wu (St:=fun q=>True) w b b2 fr aS aD aG nm l aC pL pM aN aR sets most st rounds po (po+r.2.1.length) nf (nf+l.length) o nk (.seq ⟨AB nm r.2.1⟩ 0) (RG w.2 nm aN aR R0 G [] e) _ (RG w.2 nm aN aR R0 (BH r.2.1 { G with np:=r.1 }) [] (Fp r.2.1 r.2.2)) qf h1.2.2 (fun pv=>ZA inj no hc pv aS aD aN aR R0 po nf h1.2.1 h1.2.2 qf qY [] e (by decide) hr) (Kh (G:={ G with np:=r.1 }) inj no aS aD aN aR R0 po (nf+l.length) r.2.2 h2.1 h2.2.1 h2.2.2))) (fun L e=>⟨Q,e ▸ pm,hQ⟩) ?_ (hp:=rfl) (hF:=fun q=>rfl) (hc:=fun q q=>rfl) L0 rfl
    rintro _ A1 P' hP
    exact ⟨_,ax _ _ _ _ _ _,rfl,A1 0,po+r.2.1.length,nf+l.length,_,RG.more hP [(aG,AG (.seq ⟨AB nm l⟩ 0))],.refl _⟩
   refine AK.go (fun q q q h=>h) (by kernel_rfl) ht ?_
   rintro L0 ⟨uM,h⟩
   have:=ih (rounds+1) (BH r.2.1 { G with np:=r.1 }) r.2.1 (Fp r.2.1 r.2.2) uM m' no hc qY k L0 h
   rwa [show rounds+1+((m':Nat):Int)=rounds+((m'+1:Nat):Int) by lia] at this
def gL(P:zp)(fr aC pL pM aS aD aN aR aG:Nat)(sets most st:Int)(o:Nat×Int×Nat)(nk:Str×Str)(po nf rounds:Int)(z:zu):Spec:=
 ⟨Wv P fr aC,[fr,aS,aD],[XM P pL pM sets most st o nk aS 0 aG,AE aD,AF P aN (.ref aR) po nf],fun q=>.fin (.done .next),fun A=>[XM P pL pM sets most st o nk aS rounds (A 0),AE aD,A6 z],fun q=>[]⟩
theorem Qy(po nf:Int)(aG:Nat){G:GS}{l:zl}{e n m:Nat}(no:G.ord.Nodup)(hc:∀ c∈G.ord,∀ d∈G.sc c,d∈G.ord)(qY:∀ c,(G.sc c).length < 20)(h:Ei n G l e=some m) :
  Spec.pW (gL w.2 fr aC pL pM aS aD aN aR aG sets most st o nk po nf (m:Nat)) (fun q q P'=>∃ L,P'.Perm (R0++L)) (gL w.2 fr aC pL pM aS aD aN aR aG sets most st o nk po nf (m:Nat) .plain) (wf w b b2) (Al ⟨2,fun q=>True⟩) (fk w.2 nm aN aR aG R0 G l e):=by
 refine AK.toD (Qx (w:=w) (b:=b) (b2:=b2) inj R0 fr aC pL pM aS aD aN aR sets most st o nk (fun q=>trivial) n 0 G l e aG m no hc qY h) ?_ ?_
 ·rintro P ⟨Q,hQ,pm⟩
  exact ⟨_,.append_left _ pm,po,nf,Q,hQ,.refl _⟩
 ·rintro e1 L ⟨rfl,G',e',tX,po',nf',Q,hQ,pm⟩
  obtain ⟨L1,_,p⟩:=hQ.rn
  rw [Int.zero_add] at pm
  exact ⟨(AF w.2 aN (.ref aR) po' nf').data,fun q=>tX,(tX,AG (.seq ⟨AB nm []⟩ 0))::Q,⟨(tX,AG (.seq ⟨AB nm []⟩ 0))::L1,(p.cons _).trans wV.symm⟩,rfl,pm⟩
end
def lC(P:zp)(aS aD aN aR:Nat)(po qN nf:Int):Spec:=
 ⟨.call (.ref 154) ⟨[.ref aS],[]⟩,[aS,aD],[AE aD,AF P aN (.ref aR) po nf],fun A=>.fin (.done (.ret (.ref (A 0)))),fun q=>[AE aD,AF P aN (.ref aR) qN nf],fun q=>[]⟩
theorem Up{w:zt}{b b2:Bool}{nm:zm}{R:Lp}{aS aD aN aR:Nat}{po qN nf:Int}{G G':GS}{l:zl}{e e':Nat}{Sh:Pos→ze→Prop}(h:(Uq w.2 aS aD aN aR po qN nf (.seq ⟨AB nm l⟩ 0)).pP (wf w b b2) Sh (RG w.2 nm aN aR R G l e) (RG w.2 nm aN aR R G' [] e')) :
  Spec.pW (fun _:Unit=>lC w.2 aS aD aN aR po qN nf) (fun q A P'=>fk w.2 nm aN aR (A 0) R G' l e' P') (lC w.2 aS aD aN aR po qN nf) (wf w b b2) Sh (RG w.2 nm aN aR R G l e):=by
 intro P hP
 refine (h P hP).qd ?_
 rintro e1 L ⟨A,P',hQ,sub,he,rfl⟩
 exact ⟨_,.of_eq rfl,(),A,(A 0,AG (.seq ⟨AB nm l⟩ 0))::P',⟨P',hQ,.refl _⟩,fun a m=>.tail _ (sub a m),he,rfl⟩
end
def c7(P:zp)(nm:zm)(pL:Nat)(pX:zu)(s:RS)(ol:zl)(wy:Nat):A8:=Cm (fun x=>some [C0 (AJ P (A4 x 1) (A4 x 2))]) [7,1,0,2,5,4,3] [false,false,true,false,false,false,false] [false,false,true] (fun x=>nj P nm (A4 x 7) (A4 x 1) pL (A4 x 2) (A4 x 5) (A4 x 4) (A4 x 3) pX s ol wy)
def bW(P:zp)(pL:Nat)(pX:zu):A8:=KJ (fun x=>some [C0 (AJ P (A4 x 1) (A4 x 2))]) [0,1] [true,false] [] (fun x=>(Vu P pL pX).own (A4 x 1) (B9 x 1)) (fun x (_:Unit)=>(Vu P pL pX).own (A4 x 1) (B9 x 1))
def n8(P:zp)(aS aD aN aR:Nat)(po qN nf:Int)(tr:zl):A8:=O9 (fun q=>none) tr [] [] (fun q=>lC P aS aD aN aR po qN nf)
def bM(P:zp)(pL pM aS aD aN aR aG:Nat)(sets most st:Int)(o:Nat×Int×Nat)(nk:Str×Str)(po nf rounds:Int):A8:=O9 (fun q=>none) [1,11,12] [false,false,true] [] (fun x=>gL P (A4 x 1) (A4 x 2) pL pM aS aD aN aR aG sets most st o nk po nf rounds .plain)
variable{w b b2}
theorem Tc{nm:zm}(hn:DQ nm)(kl:Ik nm){R:Lp}{E:zi}(hE:AW E R){ts:zl}{ns:za}(nd:F5 nm R ts ns)(hp:H8 ns){en pL:Nat}{pX:zu}(hN:pX=.seq ⟨ts.map .ref⟩ en){X:Str}(hX:CX nm ns none=some X){pT:zl→zl}(h:FK ns nm pT 4 Ih){s4:RS}(hs:s4=JQ nm pT 4 Ih){ol:zl}{wy:Nat}(hl:s4.lv=[(ol,wy)]) :
  (c7 w.2 nm pL pX s4 ol wy).qB pw (wf w b b2) (A5 w.2) ⟨1,Ax E zw⟩ (fun P=>P=R) (fun P=>∃ L,P.Perm (R++L)):=by
 subst hs
 exact Ab (w:=wf w b b2) (Sf:=fun x=>Al ⟨2,Ax (AJ w.2 (A4 x 1) (A4 x 2)::E) zw⟩) (fun x=>Uu hn kl R hE nd hp en hX pT (A4 x 7) (A4 x 1) pL (A4 x 2) (A4 x 5) (A4 x 4) (A4 x 3) hN h hl) (BK (St:=⟨1,Ax E zw⟩) (n:=2) (Sf:=fun x=>Ax (AJ w.2 (A4 x 1) (A4 x 2)::E) zw) (V:=fun x=>[C0 (AJ w.2 (A4 x 1) (A4 x 2))]) (by rfl) fun x q c=>c.app (V:=[C0 (AJ w.2 (A4 x 1) (A4 x 2))]) (E':=[AJ w.2 (A4 x 1) (A4 x 2)]) (qe:=[]) rfl rfl) (by decide) (fun q=>⟨rfl,rfl,fun q=>rfl⟩) (fun q q=>rfl)
theorem T9{nm:zm}(inj:∀ a b,nm a=nm b→a=b){R:Lp}{E:zi}(hE:AW E R){ts:zl}{ns:za}(nd:F5 nm R ts ns)(hp:H8 ns){en pL:Nat}{pX:zu}(hN:pX=.seq ⟨ts.map .ref⟩ en){X:Str}(hX:CX nm ns none=some X):(bW w.2 pL pX).qM pw (wf w b b2) (A5 w.2) ⟨1,Ax E zw⟩ (fun P=>∃ L,P.Perm (R++L)) (fun u q P'=>RG w.2 nm (u.n 0 5) (u.n 0 6) R (A3 G0 ns) (AM (A3 G0 ns) (A3 G0 ns).ord) (AM (A3 G0 ns) (A3 G0 ns).ord).length P'):=
 (A8.qM.all (I:=fun P=>∃ L,P.Perm (R++L)) (O:=fun R' u q P'=>RG w.2 nm (u.n 0 5) (u.n 0 6) R' (A3 G0 ns) (AM (A3 G0 ns) (A3 G0 ns).ord) (AM (A3 G0 ns) (A3 G0 ns).ord).length P') rfl fun R' ⟨M,hR⟩=>
  have hR:R'.Perm (M++R):=hR.trans wJ
  (De (w:=wf w b b2) (F0:=fun x (_:Unit)=>(Vu w.2 pL pX).own (A4 x 1) (B9 x 1)) (O:=fun q q A P'=>∃ L,RN w.2 nm (A 2) (A 3) (A3 G0 ns) (AM (A3 G0 ns) (A3 G0 ns).ord) (AM (A3 G0 ns) (A3 G0 ns).ord).length L∧P'.Perm (R'++L)) (fun x=>Spec.r5 (Ni inj ((hE.perm hR).cons (ak w.2 (A4 x 1) (A4 x 2)) rfl) ((nd.perm hR).cons (A4 x 1,Bp (B9 x 1))) hp hN hX) rfl (fun q q=>rfl)) (fun q q=>⟨rfl,rfl,rfl⟩) (fun q q q q q=>rfl) (BK (St:=⟨1,Ax E zw⟩) (n:=5) (Sf:=fun x=>Ax (AJ w.2 (A4 x 1) (A4 x 2)::E) zw) (V:=fun x=>[C0 (AJ w.2 (A4 x 1) (A4 x 2))]) (by rfl) fun x q c=>c.app (V:=[C0 (AJ w.2 (A4 x 1) (A4 x 2))]) (E':=[AJ w.2 (A4 x 1) (A4 x 2)]) (qe:=[]) rfl rfl) (by decide) (fun q=>⟨rfl,rfl,fun q q=>rfl⟩) (fun q q=>rfl)).mono (fun q h=>h) fun u x P' _ ⟨_,_,L,h,p⟩=>h.rg p).mono (fun q h=>h) fun u x P' _ ⟨R',⟨M,hR⟩,A,M',pm⟩=>
  ⟨A,M'++M,pm.trans (.append_left _ (.append_left _ (((hR.trans wJ).append_left M').trans (.of_eq (vj _ _ _).symm))))⟩
theorem Y5{nm:zm}{R:Lp}{aS aD aN aR:Nat}{po qN nf:Int}{G G':GS}{l:zl}{e e':Nat}(h:(Uq w.2 aS aD aN aR po qN nf (.seq ⟨AB nm l⟩ 0)).PO w b b2 7 (fun q=>True) (RG w.2 nm aN aR R G l e) (RG w.2 nm aN aR R G' [] e')){tr:zl}(nt:tr.Nodup)(ht:tr.length=2){St:zc}{n:Nat}(hn:Nat.ble (n+1) 7=true) :
  (n8 w.2 aS aD aN aR po qN nf tr).qM pw (wf w b b2) (A5 w.2) ⟨n,St⟩ (RG w.2 nm aN aR R G l e) (fun u q P'=>fk w.2 nm aN aR (u.n 0 3) R G' l e' P'):=
 (Fj (w:=wf w b b2) (fun x=>Up h) (fun q q=>⟨rfl,rfl,rfl⟩) (fun q q q q q=>rfl) (CO hn) nt (fun q=>⟨ht.symm,ht.symm,fun q q=>ht.symm⟩) (fun q q=>rfl)).mono (fun q h=>h) fun u x P' _ ⟨_,_,h⟩=>h
theorem Sx{nm:zm}(inj:∀ a b,nm a=nm b→a=b)(R0:Lp){pL pM aS aD aN aR aG:Nat}{sets most st:Int}{o:Nat×Int×Nat}{nk:Str×Str}{po nf rounds:Int}{G:GS}{l:zl}{e n m:Nat}(no:G.ord.Nodup)(hc:∀ c∈G.ord,∀ d∈G.sc c,d∈G.ord)(qY:∀ c,(G.sc c).length < 20)(h:Ei n G l e=some m)(hr:rounds=(m:Nat)){St:zc} :
  (bM w.2 pL pM aS aD aN aR aG sets most st o nk po nf rounds).qM pw (wf w b b2) (A5 w.2) ⟨1,St⟩ (fk w.2 nm aN aR aG R0 G l e) (fun q q P'=>∃ L,P'.Perm (R0++L)):=by
 subst hr
 exact (Fj (w:=wf w b b2) (fun x=>Qy (w:=w) (b:=b) (b2:=b2) inj R0 (A4 x 1) (A4 x 2) pL pM aS aD aN aR sets most st o nk po nf aG no hc qY h) (fun q q=>⟨rfl,rfl,rfl⟩) (fun q q q q q=>rfl) (CO (by rfl)) (by decide) (fun q=>⟨rfl,rfl,fun q q=>rfl⟩) (fun q q=>rfl)).mono (fun q h=>h) fun u x P' _ ⟨_,_,h⟩=>h
def rx(P:zp)(pL:Nat)(nm:zm)(s4:RS)(ol:zl)(wy:Nat)(po rounds:Int)(qD:zj)(pX pj vf DO DR:zu):Spec:=⟨.call (.ref 954) ⟨[.ref pL],[]⟩,[pL],[A0 pX],fun A=>.fin (.done (.ret (.ref (A 0)))),fun A=>[A0 pj],fun A=>[AG (.seq #[.ref (A 1),.int s4.sets 0,.int s4.most 0,.int rounds 0] 0),A0 (.seq #[.ref (A 2)] 1),AG (.seq #[.ref (A 3),.int (wy:Nat) 0] 0),A0 DR]⟩
variable{St:zc}(w b b2)
theorem XI(pL:Nat)(nm:zm)(s4:RS)(ol:zl)(wy:Nat)(po rounds:Int)(qD:zj)(pX pj:zu)(hn:DQ nm)(kl:Ik nm){R:Lp}{E:zi}(hE:AW E R){ts:zl}{ns:za}(nd:F5 nm R ts ns)(hp:H8 ns){en:Nat}(hN:pX=.seq ⟨ts.map .ref⟩ en)(h4:ts.length=4){X:Str}(hX:CX nm ns none=some X){pT:zl→zl}(h:FK ns nm pT 4 Ih)(hs:s4=JQ nm pT 4 Ih)(hl:s4.lv=[(ol,wy)])(hq:H3 (A3 G0 ns) (AM (A3 G0 ns) (A3 G0 ns).ord))(rt:∀ c,((A3 G0 ns).sc c).length < 20){n m:Nat}(hr:Ei n (BH (AM (A3 G0 ns) (A3 G0 ns).ord) (A3 G0 ns)) (AM (A3 G0 ns) (A3 G0 ns).ord) (Fp (AM (A3 G0 ns) (A3 G0 ns).ord) (AM (A3 G0 ns) (A3 G0 ns).ord).length)=some m)(hm:rounds=(m:Nat))(tK:po=0+(AM (A3 G0 ns) (A3 G0 ns).ord).length)(ho:ol.length < 64)(qY:qD=(Ah ol).map nm)(eN:pj=pX):Spec.px (fun (DR:zu)=>rx w.2 pL nm s4 ol wy po rounds qD pX pj .plain .plain DR) (fun (DR:zu) A=>∃ e,DR=.seq ⟨AN qD⟩ e) (rx w.2 pL nm s4 ol wy po rounds qD pX pj .plain .plain .plain) (wf w b b2) (Al (⟨1,Ax E zw⟩)) (fun P=>P=R) (fun P=>∃ L,P.Perm (R++L)):=by
 refine aa (fun D=>rx w.2 pL nm s4 ol wy po rounds qD (gD D 0) pj .plain .plain .plain) (fun D l=>rx w.2 pL nm s4 ol wy po rounds qD (gD D 0) (ud l 3 0) (ud l 4 4) (ud l 4 5) (ud l 0 0)) (fun D=>[fun z=>FA 0 (gD D 0) 4,fun z=>c7 w.2 nm pL (gD D 0) s4 ol wy,fun l=>bW w.2 pL (ud l 0 4),fun l=>n8 w.2 (un l 0 0 3) (un l 0 0 4) (un l 0 0 5) (un l 0 0 6) 0 po 0 [11,12],fun l=>bM w.2 pL (un l 2 0 3) (un l 1 0 3) (un l 1 0 4) (un l 1 0 5) (un l 1 0 6) (un l 0 0 3) s4.sets s4.most 3 (un l 2 0 6,s4.wy,un l 2 0 7) s4.nk po 0 rounds,fun l=>OH 10 (ud l 3 5) qD]) 6 (fun D l=>[]) [23,14,20,19] [true] (fun b2=>bif b2 then (hD 25 120 47186125120114102558588283077618450005623317529465990744455571395752601989623673594942119312653211004396402478263235473318031636129650833548036340887844562848409016925) else (hD 25 124 18432080125044571311948548077194707033446608409947652634552957576465860152196747498024265362775009439303905738994953763109758876979109303325158701151546354591846783955891925)) (fun z=>0) (fun b2=>bif b2 then [4,0,0,0,7] else [4,0,0,0,8]) 1 [pX] (fun E0 ke=>?_)
 refine .q (Bz hN (by rw [vh,h4]; rfl) (by rw [vh,h4]; decide)) fun z z z=>.cons (Tc hn kl hE nd hp hN hX h hs hl) fun z z g1=>.qA (T9 hn.inj hE nd hp (g1.1.1.trans hN) hX) fun u2 z g2=>.qA (Y5 (Pd hn.inj hp hq R _ _ _ _ tK rfl rfl) (by decide) rfl (by rfl)) fun z z z=>.qA (Sx (G:=BH (AM (A3 G0 ns) (A3 G0 ns).ord) (A3 G0 ns)) hn.inj R hp.nd (fun c z d m=>(Gu.all ns Yi).cl c d m) rt hr hm) fun z z z=>.q (Fl (n:=0) (ss:=ol.map nm) (g1.2.1.trans (by (try simp only [un,ud,CI]); rw [Dh]; rfl)) (by (try simp only [un,ud,CI]); rw [vh]; exact ho) (fun ss h1 h2=>(hn.sS ol ss h1 h2).trans qY.symm)) fun u5 z g5=>.nil fun P hP=>ke _ _ ⟨eD (u5.d 0),@id (eD (u2.d 0)=pj) ((let ⟨_,k⟩:=g2.1; k.1).trans (g1.1.1.trans eN.symm)) ▸ rfl,hP,fun A a=>?_⟩
 try dsimp only
 exact g5 rfl
theorem Ud{p:zv}{w:zt}(a:Int){b:Nat}(hb:b=0∨b=1∨b=2)(t u:Nat):Bm p w (.call (.builtin "int.__mod__") ⟨[.int a t,.int ((b+1:Nat):Int) u],[]⟩) (Ef (a.fmod ((b+1:Nat):Int))):=by
 rcases hb with rfl | rfl | rfl<;>exact CJ (T:=.fresh fun t=>.pure (.done (.ret (.int (a.fmod _) t)))) (by kernel_rfl) (by kernel_rfl) (fun q q q=>by rw [← Aq]; kernel_rfl) (HJ (v:=fun t=>.int _ t) fun t=>⟨t,rfl⟩)
def OP(a:Int)(b:Nat)(v:Int):A8:=En (.call (.builtin "int.__mod__") ⟨[.int a 0,.int ((b+1:Nat):Int) 0],[]⟩) fun u=>.ok (.ret (.int v u))
theorem Fo{p:zv}{w:zt}{kt:KT}{a v:Int}{b:Nat}(hb:b=0∨b=1∨b=2)(h:a.fmod ((b+1:Nat):Int)=v):(OP a b v).Ok p w kt:=BG fun c hc=>by
 obtain ⟨t,u,rfl⟩:=Hi hc
 intro s k g l cd pc rest
 obtain ⟨s',res,⟨tk,e⟩,G,go⟩:=Ud (p:=p) (w:=w) a hb t u s k g l cd pc rest
 exact ⟨s',res,⟨tk,by rw [e,h]⟩,G,go⟩
def Nz(P:zp):Stmt:=(CM (EW (YI P))).getD 1 (.Pass default)
def d4(P:zp)(fr:Nat):Env:=Br P 923 YI fr
def LS(P:zp)(aI fr:Nat):Code:=.forLoop (IV (Nz P)) (.ref aI) (EU (Nz P)) (IW (Nz P)) (d4 P fr)
def ma(P:zp):Option (Int×Int×zq×zq)→List DictEntry
 | none=>[]
 | some (x,p,a,c)=>[kE P "x" (.int x 0),kE P "place" (.int p 0),kE P "first" a,kE P "second" c]
def NA(P:zp)(pM aX qH:Nat)(o:Option (Int×Int×zq×zq)):Obj:=Bp (.dict ⟨[kE P "leaves" (.ref pM),kE P "numbers" (.ref aX),kE P "pieces" (.ref qH)]++ma P o⟩ (3+(ma P o).length))
noncomputable abbrev Gs:=Nat×Nat×Bool×Bool×Bool×Bool
def EE:List Gs:=[(2,0,true,true,true,true),(2,1,true,true,true,true),(2,2,true,true,true,true)]++([(false,true,true),(true,false,true),(true,true,false)].flatMap fun k=>[(1,0,k.1,k.2.1,k.2.2,true),(1,1,k.1,k.2.1,k.2.2,true)])++[(0,0,false,true,true,true),(0,0,true,false,true,true),(0,0,false,false,true,true)]
noncomputable def XZ(n:Nat)(q:Int×Int×zq×zq):Option (Int×Int×zq×zq):=match n with
 | 2=>none
 | _=>some q
def KD(kk:Gs)(s0 s1 s2 s3:zl)(a0 a1 a2 a3:Nat):zf:=[vk kk.2.2.1 s0 a0,vk kk.2.2.2.1 s1 a1,vk kk.2.2.2.2.1 s2 a2,vk kk.2.2.2.2.2 s3 a3].take (kk.1+2)
noncomputable def Zc(l:zf)(p:Nat)(v:zq):zf:=l.take p++v::l.drop (p+2)
def iO(P:zp)(aI aX fr qH:Nat)(kk:Gs)(s0 s1 s2 s3:zl)(a0 a1 a2 a3:Nat)(qo:Int×Int×zq×zq)(pM i:Nat)(x kd:Int)(DX:zu):Spec:=⟨LS P aI fr,[aI,aX,fr,qH],[AV aX i,A0 DX,NA P pM aX qH (XZ kk.1 qo),A0 (.seq ⟨(KD kk s0 s1 s2 s3 a0 a1 a2 a3)⟩ 0)],fun A=>.fin (.again (LS P aI fr)),fun A=>[AV aX ((i:Int)+1),A0 DX,NA P pM aX (A 0) (some (x,(kk.2.1:Nat),(KD kk s0 s1 s2 s3 a0 a1 a2 a3).getD (kk.2.1+0) .none,(KD kk s0 s1 s2 s3 a0 a1 a2 a3).getD (kk.2.1+1) .none)),A0 (.seq ⟨(KD kk s0 s1 s2 s3 a0 a1 a2 a3)⟩ 0)],fun A=>[A0 (.seq ⟨Zc (KD kk s0 s1 s2 s3 a0 a1 a2 a3) kk.2.1 (.ref (A 1))⟩ 0),HA kd ((KD kk s0 s1 s2 s3 a0 a1 a2 a3).getD (kk.2.1+0) .none) ((KD kk s0 s1 s2 s3 a0 a1 a2 a3).getD (kk.2.1+1) .none)]⟩
theorem SQ(aI aX fr qH:Nat)(kk:Gs)(s0 s1 s2 s3:zl)(a0 a1 a2 a3:Nat)(qo:Int×Int×zq×zq)(pM i:Nat)(x kd:Int)(DX:zu)(hK:kk∈EE)(xs:zf)(ex:Nat)(hX:DX=.seq ⟨xs⟩ ex)(hi:xs[i]?=some (.int x 0))(h1:x.fmod ((kk.1+1:Nat):Int)=(kk.2.1:Nat))(h2:decide (x≥12)=false)(h3:(x.fdiv 6).fmod ((1+1:Nat):Int)=kd)(I:zd):(iO w.2 aI aX fr qH kk s0 s1 s2 s3 a0 a1 a2 a3 qo pM i x kd DX).PI w b b2 2 St I:=Ae ⟨kk,EE,hK⟩ (fun z D=>iO w.2 aI aX fr qH z s0 s1 s2 s3 a0 a1 a2 a3 qo pM i x kd (gD D 0)) (fun z D l=>iO w.2 aI aX fr qH z s0 s1 s2 s3 a0 a1 a2 a3 qo pM i x kd (gD D 0)) (fun z D=>(Ag [Au 0 1 i (gD D 0) (.int x 0),OP x z.1 (z.2.1:Nat),Le x 12 false,OP (x.fdiv 6) 1 kd])) 4 (fun z=>[11,6]) [false,true,false,false] (hD 13 74 6861622349132701289956741396732836973110700352293045576687475137384099171543485417) 0 [3,3,2] 0 [DX] fun E0 ke=>.q (AQ hX hi) fun y y y=>.q (Fo ((by decide:∀ k∈EE,k.1=0∨k.1=1∨k.1=2) kk hK) h1) fun y y y=>.q (Bb h2) fun y y y=>.q (Fo (.inr (.inl rfl)) h3) fun y y y=>.pO ke rfl
def iN(P:zp)(aI aX fr qH:Nat)(kk:Gs)(s0 s1 s2 s3:zl)(a0 a1 a2 a3:Nat)(qo:Int×Int×zq×zq)(pM i:Nat)(x kd:Int)(DX:zu):Spec:=⟨LS P aI fr,[aI,aX,fr,qH],[AV aX i,A0 DX,NA P pM aX qH (XZ kk.1 qo),A0 (.seq ⟨(KD kk s0 s1 s2 s3 a0 a1 a2 a3)⟩ 0)],fun A=>.fin (.again (LS P aI fr)),fun A=>[AV aX ((i:Int)+1),A0 DX,NA P pM aX (A 0) (some (x,(kk.2.1:Nat),(KD kk s0 s1 s2 s3 a0 a1 a2 a3).getD (kk.2.1+1) .none,(KD kk s0 s1 s2 s3 a0 a1 a2 a3).getD (kk.2.1+0) .none)),A0 (.seq ⟨(KD kk s0 s1 s2 s3 a0 a1 a2 a3)⟩ 0)],fun A=>[A0 (.seq ⟨Zc (KD kk s0 s1 s2 s3 a0 a1 a2 a3) kk.2.1 (.ref (A 1))⟩ 0),HA kd ((KD kk s0 s1 s2 s3 a0 a1 a2 a3).getD (kk.2.1+1) .none) ((KD kk s0 s1 s2 s3 a0 a1 a2 a3).getD (kk.2.1+0) .none)]⟩
theorem SP(aI aX fr qH:Nat)(kk:Gs)(s0 s1 s2 s3:zl)(a0 a1 a2 a3:Nat)(qo:Int×Int×zq×zq)(pM i:Nat)(x kd:Int)(DX:zu)(hK:kk∈EE)(xs:zf)(ex:Nat)(hX:DX=.seq ⟨xs⟩ ex)(hi:xs[i]?=some (.int x 0))(h1:x.fmod ((kk.1+1:Nat):Int)=(kk.2.1:Nat))(h2:decide (x≥12)=true)(h3:(x.fdiv 6).fmod ((1+1:Nat):Int)=kd)(I:zd):(iN w.2 aI aX fr qH kk s0 s1 s2 s3 a0 a1 a2 a3 qo pM i x kd DX).PI w b b2 2 St I:=Ae ⟨kk,EE,hK⟩ (fun z D=>iN w.2 aI aX fr qH z s0 s1 s2 s3 a0 a1 a2 a3 qo pM i x kd (gD D 0)) (fun z D l=>iN w.2 aI aX fr qH z s0 s1 s2 s3 a0 a1 a2 a3 qo pM i x kd (gD D 0)) (fun z D=>(Ag [Au 0 1 i (gD D 0) (.int x 0),OP x z.1 (z.2.1:Nat),Le x 12 true,OP (x.fdiv 6) 1 kd])) 4 (fun z=>[11,6]) [false,true,false,false] (hD 13 92 771626533622363795554860490279673344556364733656468591991165720573271432199183001741028161569614154433) 0 [3,3,5] 0 [DX] fun E0 ke=>.q (AQ hX hi) fun y y y=>.q (Fo ((by decide:∀ k∈EE,k.1=0∨k.1=1∨k.1=2) kk hK) h1) fun y y y=>.q (Bb h2) fun y y y=>.q (Fo (.inr (.inl rfl)) h3) fun y y y=>.pO ke rfl
def iM(P:zp)(aI aL:Nat)(fr i:Nat)(DL pz:zu):Spec:=⟨LS P aI fr,[aI,aL],[AV aL i,A0 DL],fun A=>.fin (.done .next),fun A=>[Bn i,A0 pz],fun A=>[]⟩
theorem SO(aI aL:Nat)(fr i:Nat)(DL pz:zu)(vs:zf)(e:Nat)(hL:DL=.seq ⟨vs⟩ e)(hi:vs.length≤i)(eL:pz=DL)(I:zd):(iM w.2 aI aL fr i DL pz).PI w b b2 2 St I:=Bu (fun D=>iM w.2 aI aL fr i (gD D 0) pz) (fun D l=>iM w.2 aI aL fr i (gD D 0) (ud l 0 2)) (fun D=>(Ag [BM "list_iterator.__next__" 0 1 (fun X=>AV (A4 X 1) i) (Bn i) (A0 (gD D 0))])) 1 [] [false,true] [1,4] 0 [] 1 [DL] fun E0 ke=>.cons (Ay (by decide) hL hi) fun u0 q g0=>.pO ke (@id (eD (u0.d 2)=pz) (g0.1.1.trans eL.symm) ▸ rfl)
section
noncomputable def E7:PA:=.leaf []
def Gw(L:List PA)(n p:Nat):Gs:=(n,p,(L.getD 0 E7).vs.1,(L.getD 1 E7).vs.1,(L.getD 2 E7).vs.1,(L.getD 3 E7).vs.1)
def QV(L:List PA)(kk:Gs):zf:=KD kk (L.getD 0 E7).vs.2.1 (L.getD 1 E7).vs.2.1 (L.getD 2 E7).vs.2.1 (L.getD 3 E7).vs.2.1 (L.getD 0 E7).vs.2.2 (L.getD 1 E7).vs.2.2 (L.getD 2 E7).vs.2.2 (L.getD 3 E7).vs.2.2
theorem Xb{L:List PA}{n p:Nat}(hl:L.length=n+2)(hn:n≤2):QV L (Gw L n p)=L.map PA.val:=by
 match L,hl with
 | [x,y],h=>
  obtain rfl:n=0:=by have:2=n+2:=h; lia
  show [vk _ _ _,vk _ _ _]=[x.val,y.val]
  rw [PA.q7 x,PA.q7 y]; rfl
 | [x,y,z],h=>
  obtain rfl:n=1:=by have:3=n+2:=h; lia
  show [vk _ _ _,vk _ _ _,vk _ _ _]=[x.val,y.val,z.val]
  rw [PA.q7 x,PA.q7 y,PA.q7 z]; rfl
 | [x,y,z,u],h=>
  obtain rfl:n=2:=by have:4=n+2:=h; lia
  show [vk _ _ _,vk _ _ _,vk _ _ _,vk _ _ _]=[x.val,y.val,z.val,u.val]
  rw [PA.q7 x,PA.q7 y,PA.q7 z,PA.q7 u]; rfl
 | [],h=>have:0=n+2:=h; lia
 | [_],h=>have:1=n+2:=h; lia
 | _::_::_::_::_::_,h=>simp only [vr] at h; lia
def Zq(P:zp)(R:Lp)(aI aX fr pM:Nat)(DX:zu)(L:List PA)(i:Nat)(o:Option (Int×Int×zq×zq))(qH:Nat)(M K:Lp):Prop:=
 K.Perm ([(aI,AV aX i),(aX,A0 DX),(fr,NA P pM aX qH o),(qH,A0 (.seq ⟨L.map PA.val⟩ 0))]++(L.flatMap PA.lp++(M++R)))
theorem ib{α:Type}(I X F C c t:α)(L1 L2 M R:List α)(h:L2.Perm (t::L1)):(([I,X,F,C]++(L1++(M++R)))++[c,t]).Perm ([I,X,F,c]++(L2++((C::M)++R))):=
 (Dm [[I],[X],[F],[C],[c],[t],L1,M,R] (.a (.a (.q [0,1,2,3]) (.a (.l 6) (.a (.l 7) (.l 8)))) (.q [4,5])) (.a (.q [0,1,2,4]) (.a (.r [5] (.l 6)) (.a (.r [3] (.l 7)) (.l 8)))) rfl).trans (.append_left _ (h.symm.append_right _))
theorem U7(A B:List PA)(x y:PA)(sw t:Bool)(a:Nat):((A++PA.node a t (bif sw then y else x) (bif sw then x else y)::B).flatMap PA.lp).Perm ((a,HA (bif t then 1 else 0) (bif sw then y else x).val (bif sw then x else y).val)::(A++x::y::B).flatMap PA.lp):=by
 rw [wo,wo,wO,wO,wO]
 cases sw
 ·exact Dm [A.flatMap PA.lp,[(a,_)],x.lp,y.lp,B.flatMap PA.lp] (.a (.l 0) (.a (.r [1] (.a (.l 2) (.l 3))) (.l 4))) (.r [1] (.a (.l 0) (.a (.l 2) (.a (.l 3) (.l 4))))) rfl
 ·exact Dm [A.flatMap PA.lp,[(a,_)],x.lp,y.lp,B.flatMap PA.lp] (.a (.l 0) (.a (.r [1] (.a (.l 3) (.l 2))) (.l 4))) (.r [1] (.a (.l 0) (.a (.l 2) (.a (.l 3) (.l 4))))) rfl
theorem Ph{α:Type}(A B:List α)(x y d:α):(A++x::y::B).getD (A.length+0) d=x∧(A++x::y::B).getD (A.length+1) d=y:=by
 constructor
 ·rw [wa,Nat.add_zero,List.getElem?_append_right (vp _),Nat.sub_self]; rfl
 ·rw [wa,List.getElem?_append_right (xo _ _),Nat.add_sub_cancel_left]; rfl
def iL(P:zp)(aI aX fr qH pM i:Nat)(DX:zu)(o:Option (Int×Int×zq×zq))(x pl kd:Int)(V:zf)(V2:Nat→zf)(f s:zq):Spec:=
 ⟨LS P aI fr,[aI,aX,fr,qH],[AV aX i,A0 DX,NA P pM aX qH o,A0 (.seq ⟨V⟩ 0)],fun q=>.fin (.again (LS P aI fr)),fun A=>[AV aX ((i:Int)+1),A0 DX,NA P pM aX (A 0) (some (x,pl,f,s)),A0 (.seq ⟨V⟩ 0)],fun A=>[A0 (.seq ⟨V2 (A 1)⟩ 0),HA kd f s]⟩
def F6(L:List PA)(p:Nat)(sw t:Bool)(a:Nat):List PA:=L.take p++PA.node a t (bif sw then L.getD (p+1) E7 else L.getD p E7) (bif sw then L.getD p E7 else L.getD (p+1) E7)::L.drop (p+2)
theorem MH{α:Type}(d:α):∀ (L:List α) (p:Nat),p+2≤L.length→L=L.take p++L.getD p d::L.getD (p+1) d::L.drop (p+2)
 | x::y::L,0,_=>rfl
 | x::L,p+1,h=>vm (x::·) (MH d L p (by simp only [vr] at h; lia))
structure QM(n:Nat)(x:Int)(p:Nat)(sw t:Bool):Prop where
 h1:x.fmod ((n+1:Nat):Int)=(p:Nat)
 h2:decide (x≥12)=sw
 h3:(x.fdiv 6).fmod ((1+1:Nat):Int)=bif t then 1 else 0
section
variable{w:zt}{b b2:Bool}{St:zc}(R:Lp)(aI aX fr pM:Nat){xs:zf}{ex:Nat}{DX:zu}(hX:DX=.seq ⟨xs⟩ ex)
include hX
theorem SK(A B:List PA)(x y:PA){n i:Nat}{sw t:Bool}{xv:Int}(hl:(A++x::y::B).length=n+2)(hK:Gw (A++x::y::B) n A.length∈EE)(h1:xv.fmod ((n+1:Nat):Int)=(A.length:Nat))(h2:decide (xv≥12)=sw)(h3:(xv.fdiv 6).fmod ((1+1:Nat):Int)=bif t then 1 else 0)(hi:xs[i]?=some (.int xv 0))(qo:Int×Int×zq×zq)(qH:Nat)(M:Lp) :
  AO w b b2 2 St (LS w.2 aI fr) (Zq w.2 R aI aX fr pM DX (A++x::y::B) i (XZ n qo) qH M) (fun e K=>e=.fin (.again (LS w.2 aI fr))∧∃ a sq,Zq w.2 R aI aX fr pM DX (A++PA.node a t (bif sw then y else x) (bif sw then x else y)::B) (i+1) (some (xv,(A.length:Nat),(bif sw then y else x).val,(bif sw then x else y).val)) sq ((qH,A0 (.seq ⟨(A++x::y::B).map PA.val⟩ 0))::M) K):=by
 have hn:n≤2:=by rcases (by decide:∀ k∈EE,k.1=0∨k.1=1∨k.1=2) _ hK with h | h | h<;>(have:n=_:=h; lia)
 have hp:=Xb (p:=A.length) hl hn
 have hm:(A++x::y::B).map PA.val=A.map PA.val++x.val::y.val::B.map PA.val:=by rw [vl]; rfl
 obtain ⟨g0,g1⟩:=Ph (A.map PA.val) (B.map PA.val) x.val y.val .none
 rw [vh,← hm,← hp] at g0 g1
 have hN:∀ a,Zc (QV (A++x::y::B) (Gw (A++x::y::B) n A.length)) A.length (.ref a)=(A++PA.node a t (bif sw then y else x) (bif sw then x else y)::B).map PA.val:=fun a=>by
  rw [hp,hm]
  unfold Zc
  rw [vl,vu]
  have e:A.length=(A.map PA.val).length:=(vh ..).symm
  rw [e,List.take_left,← yF,List.drop_left]; rfl
 have z:∀ qH (I:zd),(iL w.2 aI aX fr qH pM i DX (XZ n qo) xv (A.length:Nat) (bif t then 1 else 0) ((A++x::y::B).map PA.val) (fun a=>(A++PA.node a t (bif sw then y else x) (bif sw then x else y)::B).map PA.val) (bif sw then y else x).val (bif sw then x else y).val).PI w b b2 2 St I:=fun qH I=>by
  have e:=funext hN
  rw [← e,← hp]
  cases sw with
  | false=>
   have h:(iL w.2 aI aX fr qH pM i DX (XZ n qo) xv (A.length:Nat) (bif t then 1 else 0) (QV (A++x::y::B) (Gw (A++x::y::B) n A.length)) (fun a=>Zc (QV (A++x::y::B) (Gw (A++x::y::B) n A.length)) A.length (.ref a)) ((QV (A++x::y::B) (Gw (A++x::y::B) n A.length)).getD (A.length+0) .none) ((QV (A++x::y::B) (Gw (A++x::y::B) n A.length)).getD (A.length+1) .none)).PI w b b2 2 St I:=SQ w b b2 aI aX fr qH (Gw (A++x::y::B) n A.length) _ _ _ _ _ _ _ _ qo pM i xv (bif t then 1 else 0) DX hK xs ex hX hi h1 h2 h3 I
   rw [g0,g1] at h
   exact h
  | true=>
   have h:(iL w.2 aI aX fr qH pM i DX (XZ n qo) xv (A.length:Nat) (bif t then 1 else 0) (QV (A++x::y::B) (Gw (A++x::y::B) n A.length)) (fun a=>Zc (QV (A++x::y::B) (Gw (A++x::y::B) n A.length)) A.length (.ref a)) ((QV (A++x::y::B) (Gw (A++x::y::B) n A.length)).getD (A.length+1) .none) ((QV (A++x::y::B) (Gw (A++x::y::B) n A.length)).getD (A.length+0) .none)).PI w b b2 2 St I:=SP w b b2 aI aX fr qH (Gw (A++x::y::B) n A.length) _ _ _ _ _ _ _ _ qo pM i xv (bif t then 1 else 0) DX hK xs ex hX hi h1 h2 h3 I
   rw [g0,g1] at h
   exact h
 intro K0 pm
 refine Spec.pW.kq (Pre:=fun L=>L=K0) (Spec.pP.d (z qH (fun P=>P=(A++x::y::B).flatMap PA.lp++(M++R)))) (fun L e=>⟨_,e ▸ pm,rfl⟩) ?_ (hp:=rfl) (hF:=fun q=>rfl) (hc:=fun q q=>rfl) K0 rfl
 rintro _ A1 P' rfl
 exact ⟨_,ib _ _ _ _ _ _ _ _ _ _ (U7 A B x y sw t (A1 1)),rfl,A1 1,A1 0,.refl _⟩
theorem XY{L:List PA}{i:Nat}{o:Option (Int×Int×zq×zq)}{qH:Nat}{M:Lp}(hi:xs.length≤i):AO w b b2 2 St (LS w.2 aI fr) (Zq w.2 R aI aX fr pM DX L i o qH M) (fun e K=>e=.fin (.done .next)∧K.Perm ([(aI,Bn i),(aX,A0 DX),(fr,NA w.2 pM aX qH o),(qH,A0 (.seq ⟨L.map PA.val⟩ 0))]++(L.flatMap PA.lp++(M++R)))):=by
 intro K0 pm
 refine Spec.pP.kq (q8:=fun L=>L=K0) (SO w b b2 aI aX fr i DX DX xs ex hX hi rfl (fun P=>P=[(fr,NA w.2 pM aX qH o),(qH,A0 (.seq ⟨L.map PA.val⟩ 0))]++(L.flatMap PA.lp++(M++R)))) (fun L e=>⟨_,e ▸ pm,rfl⟩) ?_ (hp:=rfl) (hc:=fun q=>rfl) K0 rfl
 rintro A1 P' rfl
 exact ⟨_,.refl _,rfl,.refl _⟩
theorem KC(L:List PA){n i p:Nat}{sw t:Bool}{xv:Int}(hl:L.length=n+2)(hp:p≤n)(hK:Gw L n p∈EE)(h:QM n xv p sw t)(hi:xs[i]?=some (.int xv 0))(qo:Int×Int×zq×zq)(qH:Nat)(M:Lp) :
  AO w b b2 2 St (LS w.2 aI fr) (Zq w.2 R aI aX fr pM DX L i (XZ n qo) qH M) (fun e K=>e=.fin (.again (LS w.2 aI fr))∧∃ a sq,Zq w.2 R aI aX fr pM DX (F6 L p sw t a) (i+1) (some (xv,(p:Nat),(bif sw then L.getD (p+1) E7 else L.getD p E7).val,(bif sw then L.getD p E7 else L.getD (p+1) E7).val)) sq ((qH,A0 (.seq ⟨L.map PA.val⟩ 0))::M) K):=by
 have e:=MH E7 L p (by lia)
 have ep:(L.take p).length=p:=by rw [xp]; lia
 unfold F6
 generalize L.getD p E7=x at e ⊢
 generalize L.getD (p+1) E7=y at e ⊢
 generalize L.take p=A at e ep ⊢
 generalize L.drop (p+2)=B at e ⊢
 subst ep e
 exact SK R aI aX fr pM hX A B x y hl hK h.h1 h.h2 h.h3 hi qo qH M
end
noncomputable def PA.er:PA→PA
 | .leaf s=>.leaf s
 | .node _ t l r=>.node 0 t l.er r.er
theorem Gg(p:PA):p.er.vs.1=p.vs.1:=by cases p<;>rfl
theorem Dk(L:List PA)(i:Nat):(L.map PA.er).getD i E7=(L.getD i E7).er:=by
 rw [wa,wa,wI]
 cases L[i]?<;>rfl
theorem Pp(L:List PA)(n p:Nat):Gw (L.map PA.er) n p=Gw L n p:=by
 unfold Gw
 rw [Dk,Dk,Dk,Dk,Gg,Gg,Gg,Gg]
theorem Eu(L:List PA)(p:Nat)(sw t:Bool)(a:Nat):(F6 L p sw t a).map PA.er=F6 (L.map PA.er) p sw t 0:=by
 unfold F6
 rw [Dk,Dk,vl,vu,yD,xh]
 cases sw<;>rfl
theorem L6{L:List PA}{p n:Nat}{sw t:Bool}{a:Nat}(h:L.length=n+2)(hp:p≤n):(F6 L p sw t a).length=n+1:=by
 unfold F6
 simp only [vn,xp,vr,xc]
 lia
noncomputable abbrev Kx:=Nat×Bool×Bool
noncomputable def Gv(s0 s1 s2 s3:zl):List PA:=[.leaf s0,.leaf s1,.leaf s2,.leaf s3]
def QT(L:List PA)(c:Kx):List PA:=F6 L c.1 c.2.1 c.2.2 0
def Em(s0 s1 s2 s3:zl)(c1 c2 c3:Kx):PA:=(QT (QT (QT (Gv s0 s1 s2 s3) c1) c2) c3).getD 0 E7
theorem kj(s0 s1 s2 s3:zl){p:Nat}(h:p≤2):Gw (Gv s0 s1 s2 s3) 2 p∈EE:=by
 rcases (by lia:p=0∨p=1∨p=2) with rfl | rfl | rfl
 ·exact (by decide:((2,0,true,true,true,true):Gs)∈EE)
 ·exact (by decide:((2,1,true,true,true,true):Gs)∈EE)
 ·exact (by decide:((2,2,true,true,true,true):Gs)∈EE)
theorem ki(s0 s1 s2 s3:zl){p p2:Nat}{sw t:Bool}(h:p≤2)(h2:p2≤1):Gw (F6 (Gv s0 s1 s2 s3) p sw t 0) 1 p2∈EE:=by
 rcases (by lia:p=0∨p=1∨p=2) with rfl | rfl | rfl<;>rcases (by lia:p2=0∨p2=1) with rfl | rfl
 ·exact (by decide:((1,0,false,true,true,true):Gs)∈EE)
 ·exact (by decide:((1,1,false,true,true,true):Gs)∈EE)
 ·exact (by decide:((1,0,true,false,true,true):Gs)∈EE)
 ·exact (by decide:((1,1,true,false,true,true):Gs)∈EE)
 ·exact (by decide:((1,0,true,true,false,true):Gs)∈EE)
 ·exact (by decide:((1,1,true,true,false,true):Gs)∈EE)
theorem kh(s0 s1 s2 s3:zl){p p2:Nat}{sw t uZ t2:Bool}(h:p≤2)(h2:p2≤1):Gw (F6 (F6 (Gv s0 s1 s2 s3) p sw t 0) p2 uZ t2 0) 0 0∈EE:=by
 rcases (by lia:p=0∨p=1∨p=2) with rfl | rfl | rfl<;>rcases (by lia:p2=0∨p2=1) with rfl | rfl
 ·exact (by decide:((0,0,false,true,true,true):Gs)∈EE)
 ·exact (by decide:((0,0,false,false,true,true):Gs)∈EE)
 ·exact (by decide:((0,0,false,true,true,true):Gs)∈EE)
 ·exact (by decide:((0,0,true,false,true,true):Gs)∈EE)
 ·exact (by decide:((0,0,false,false,true,true):Gs)∈EE)
 ·exact (by decide:((0,0,true,false,true,true):Gs)∈EE)
structure Jk(x1 x2 x3:Int)(c1 c2 c3:Kx):Prop where
 a1:c1.1≤2
 a2:c2.1≤1
 a3:c3.1=0
 h1:QM 2 x1 c1.1 c1.2.1 c1.2.2
 h2:QM 1 x2 c2.1 c2.2.1 c2.2.2
 h3:QM 0 x3 c3.1 c3.2.1 c3.2.2
theorem Uz{s0 s1 s2 s3:zl}{c1 c2 c3:Kx}{a1 a2 a3:Nat}:(F6 (F6 (F6 (Gv s0 s1 s2 s3) c1.1 c1.2.1 c1.2.2 a1) c2.1 c2.2.1 c2.2.2 a2) c3.1 c3.2.1 c3.2.2 a3).map PA.er=QT (QT (QT (Gv s0 s1 s2 s3) c1) c2) c3:=by
 rw [Eu,Eu,Eu]; rfl
theorem SM{w:zt}{b b2:Bool}{St:zc}(R:Lp)(aI aX fr pM:Nat){x1 x2 x3:Int}{ex:Nat}{DX:zu}(hX:DX=.seq ⟨[.int x1 0,.int x2 0,.int x3 0]⟩ ex)(s0 s1 s2 s3:zl){c1 c2 c3:Kx}(h:Jk x1 x2 x3 c1 c2 c3) :
  AO w b b2 2 St (LS w.2 aI fr) (Zq w.2 R aI aX fr pM DX (Gv s0 s1 s2 s3) 0 none pM []) (fun e K=>e=.fin (.done .next)∧∃ (a qH:Nat) (t:Bool) (l r:PA) (M:Lp),(PA.node a t l r).er=Em s0 s1 s2 s3 c1 c2 c3∧K.Perm ([(aI,Bn 3),(aX,A0 DX),(fr,NA w.2 pM aX qH (some (x3,(0:Nat),l.val,r.val))),(pM,A0 (.seq ⟨(Gv s0 s1 s2 s3).map PA.val⟩ 0))]++([(qH,A0 (.seq ⟨[.ref a]⟩ 0))]++((PA.node a t l r).lp++(M++R))))):=by
 have hs:∀ (p p':Pos) (pN:ze),Al ⟨2,St⟩ p pN→Al ⟨2,St⟩ p' pN:=fun z z z h=>h
 refine AK.go hs (by kernel_rfl) (KC R aI aX fr pM hX (Gv s0 s1 s2 s3) rfl h.a1 (kj _ _ _ _ h.a1) h.h1 rfl (0,0,.none,.none) pM []) ?_
 rintro K1 ⟨a1,p1,pm1⟩
 have e1:(F6 (Gv s0 s1 s2 s3) c1.1 c1.2.1 c1.2.2 a1).length=1+2:=L6 rfl h.a1
 have k2:Gw (F6 (Gv s0 s1 s2 s3) c1.1 c1.2.1 c1.2.2 a1) 1 c2.1∈EE:=by rw [← Pp,Eu]; exact ki _ _ _ _ h.a1 h.a2
 refine AK.go hs (by kernel_rfl) (KC R aI aX fr pM hX _ e1 h.a2 k2 h.h2 rfl _ p1 _) ?_ K1 pm1
 rintro K2 ⟨a2,p2,pm2⟩
 have e2:(F6 (F6 (Gv s0 s1 s2 s3) c1.1 c1.2.1 c1.2.2 a1) c2.1 c2.2.1 c2.2.2 a2).length=0+2:=L6 e1 h.a2
 have k3:Gw (F6 (F6 (Gv s0 s1 s2 s3) c1.1 c1.2.1 c1.2.2 a1) c2.1 c2.2.1 c2.2.2 a2) 0 c3.1∈EE:=by rw [← Pp,Eu,Eu,h.a3]; exact kh _ _ _ _ h.a1 h.a2
 refine AK.go hs (by kernel_rfl) (KC R aI aX fr pM hX _ e2 (by rw [h.a3]; exact vp _) k3 h.h3 rfl _ p2 _) ?_ K2 pm2
 rintro K3 ⟨a3,p3,pm3⟩
 refine ((XY (w:=w) (b:=b) (b2:=b2) (St:=St) R aI aX fr pM hX (vp 3)) K3 pm3).pU (fun z h=>h) ?_
 rintro e K ⟨⟨he,pm⟩,sub⟩
 have ep:=Uz (s0:=s0) (s1:=s1) (s2:=s2) (s3:=s3) (c1:=c1) (c2:=c2) (c3:=c3) (a1:=a1) (a2:=a2) (a3:=a3)
 have ep2:Em s0 s1 s2 s3 c1 c2 c3=(QT (QT (QT (Gv s0 s1 s2 s3) c1) c2) c3).getD 0 E7:=rfl
 rw [← ep] at ep2
 clear ep k3 pm3 pm2 pm1 k2
 obtain ⟨q1,q2,q3⟩:=c3
 obtain rfl:q1=0:=h.a3
 revert pm ep2
 generalize F6 (F6 (Gv s0 s1 s2 s3) c1.1 c1.2.1 c1.2.2 a1) c2.1 c2.2.1 c2.2.2 a2=L2 at e2 ⊢
 match L2,e2 with
 | [u,v],_=>
  intro pm ep2
  refine ⟨⟨he,a3,p3,q3,bif q2 then v else u,bif q2 then u else v,[(p2,A0 (.seq ⟨[u,v].map PA.val⟩ 0)),(p1,A0 (.seq ⟨(F6 (Gv s0 s1 s2 s3) c1.1 c1.2.1 c1.2.2 a1).map PA.val⟩ 0))],ep2.symm,pm.trans ?_⟩,sub⟩
  show ([_,_,_,_]++(((PA.node a3 q3 (bif q2 then v else u) (bif q2 then u else v)).lp++[])++([_,_,_]++R))).Perm ([_,_,_,_]++([_]++((PA.node a3 q3 (bif q2 then v else u) (bif q2 then u else v)).lp++([_,_]++R))))
  rw [w9]
  exact Dm [[(aI,Bn 3)],[(aX,A0 DX)],[(fr,_)],[(p3,_)],(PA.node a3 q3 (bif q2 then v else u) (bif q2 then u else v)).lp,[(p2,_)],[(p1,_)],[(pM,_)],R] (.a (.q [0,1,2,3]) (.a (.l 4) (.a (.q [5,6,7]) (.l 8)))) (.a (.q [0,1,2,7]) (.a (.q [3]) (.a (.l 4) (.a (.q [5,6]) (.l 8))))) rfl
end
theorem Z1(p:PA):p.er.vs.2.1=p.vs.2.1:=by cases p<;>rfl
theorem Po{p q:PA}(h:p.er=q):p.val=vk q.vs.1 q.vs.2.1 p.vs.2.2:=by
 subst h
 rw [Gg,Z1]
 exact PA.q7 p
def d'(R:Lp)(ql qr:PA)(a1 a2:Nat)(L:Lp):Prop:=∃ (l r:PA) (M:Lp),l.er=ql∧r.er=qr∧l.val=vk ql.vs.1 ql.vs.2.1 a1∧r.val=vk qr.vs.1 qr.vs.2.1 a2∧L.Perm (l.lp++(r.lp++(M++R)))
def aw(P:zp)(aI fr aX pM:Nat)(s0 s1 s2 s3:zl)(DX:zu)(x3:Int)(kt k1 k2:Bool)(t1 t2:zl):Spec:=
 ⟨LS P aI fr,[aI,aX,fr,pM],[AV aX 0,A0 DX,NA P pM aX pM none,A0 (.seq ⟨(Gv s0 s1 s2 s3).map PA.val⟩ 0)],fun q=>.fin (.done .next),
  fun A=>[Bn 3,A0 DX,NA P pM aX (A 0) (some (x3,(0:Nat),vk k1 t1 (A 2),vk k2 t2 (A 3))),A0 (.seq ⟨(Gv s0 s1 s2 s3).map PA.val⟩ 0)],
  fun A=>[A0 (.seq #[.ref (A 1)] 0),HA (bif kt then 1 else 0) (vk k1 t1 (A 2)) (vk k2 t2 (A 3))]⟩
theorem ic{α:Type}(I X F V C t:α)(l r M R:List α):([I,X,F,V]++([C]++((t::(l++r))++(M++R)))).Perm (([I,X,F,V]++[C,t])++(l++(r++(M++R)))):=
 Dm [[I],[X],[F],[V],[C],[t],l,r,M,R] (.a (.q [0,1,2,3]) (.a (.q [4]) (.a (.r [5] (.a (.l 6) (.l 7))) (.a (.l 8) (.l 9))))) (.a (.a (.q [0,1,2,3]) (.q [4,5])) (.a (.l 6) (.a (.l 7) (.a (.l 8) (.l 9))))) rfl
variable{w b b2}
theorem SN{St:zc}(R:Lp)(aI aX fr pM:Nat){x1 x2 x3:Int}{ex:Nat}{DX:zu}(hX:DX=.seq ⟨[.int x1 0,.int x2 0,.int x3 0]⟩ ex)(s0 s1 s2 s3:zl){c1 c2 c3:Kx}(h:Jk x1 x2 x3 c1 c2 c3){kt:Bool}{ql qr:PA}(hq:Em s0 s1 s2 s3 c1 c2 c3=.node 0 kt ql qr) :
  Spec.pW (fun _:Unit=>aw w.2 aI fr aX pM s0 s1 s2 s3 DX x3 kt ql.vs.1 qr.vs.1 ql.vs.2.1 qr.vs.2.1) (fun q A P'=>d' R ql qr (A 2) (A 3) P') (aw w.2 aI fr aX pM s0 s1 s2 s3 DX x3 kt ql.vs.1 qr.vs.1 ql.vs.2.1 qr.vs.2.1) (wf w b b2) (Al ⟨2,St⟩) (fun P=>P=R):=by
 rintro P rfl
 refine ((SM (w:=w) (b:=b) (b2:=b2) (St:=St) P aI aX fr pM hX s0 s1 s2 s3 h) _ (.refl _)).out ?_
 rintro e K ⟨⟨rfl,a,qH,t,l,r,M,hz,pm⟩,_⟩
 ·rw [hq] at hz
  obtain ⟨e1,e2,e3⟩:t=kt∧l.er=ql∧r.er=qr:=by injection hz with _ a b c; exact ⟨a,b,c⟩
  subst e1
  have v1:=Po e2
  have v2:=Po e3
  refine ⟨_,pm.trans ?_,(),fun k=>match k with | 0=>qH | 1=>a | 2=>l.vs.2.2 | _=>r.vs.2.2,l.lp++(r.lp++(M++P)),⟨l,r,M,e2,e3,v1,v2,.refl _⟩,fun x m=>by simp only [vl,wY]; exact .inr (.inr (.inr m)),rfl,rfl⟩
  rw [v1,v2]
  have e4:(PA.node a t l r).lp=(a,HA (bif t then 1 else 0) (vk ql.vs.1 ql.vs.2.1 l.vs.2.2) (vk qr.vs.1 qr.vs.2.1 r.vs.2.2))::(l.lp++r.lp):=by rw [← v1,← v2]; rfl
  rw [e4]
  exact ic _ _ _ _ _ _ _ _ _ _
def mn(P:zp)(s0 s1 s2 s3:zl)(DX:zu)(x3:Int)(kt k1 k2:Bool)(t1 t2:zl):A8:=KJ (fun q=>none) [3,1,2,0] [false,true,false,false] [] (fun x=>aw P (A4 x 3) (A4 x 2) (A4 x 1) (A4 x 0) s0 s1 s2 s3 DX x3 kt k1 k2 t1 t2) (fun x (_:Unit)=>aw P (A4 x 3) (A4 x 2) (A4 x 1) (A4 x 0) s0 s1 s2 s3 DX x3 kt k1 k2 t1 t2)
theorem Xp{R:Lp}{x1 x2 x3:Int}{ex:Nat}{DX:zu}(hX:DX=.seq ⟨[.int x1 0,.int x2 0,.int x3 0]⟩ ex){s0 s1 s2 s3:zl}{c1 c2 c3:Kx}(h:Jk x1 x2 x3 c1 c2 c3){kt k1 k2:Bool}{t1 t2:zl}{ql qr:PA}(hq:Em s0 s1 s2 s3 c1 c2 c3=.node 0 kt ql qr)(e1:k1=ql.vs.1)(e2:k2=qr.vs.1)(e3:t1=ql.vs.2.1)(e4:t2=qr.vs.2.1){St:zc} :
  (mn w.2 s0 s1 s2 s3 DX x3 kt k1 k2 t1 t2).qM pw (wf w b b2) (A5 w.2) ⟨1,St⟩ (fun P=>P=R) (fun u q P'=>d' R ql qr (u.n 0 5) (u.n 0 6) P'):=by
 subst e1 e2 e3 e4
 exact (De (w:=wf w b b2) (F0:=fun x (_:Unit)=>aw w.2 (A4 x 3) (A4 x 2) (A4 x 1) (A4 x 0) s0 s1 s2 s3 DX x3 kt ql.vs.1 qr.vs.1 ql.vs.2.1 qr.vs.2.1) (O:=fun q q A P'=>d' R ql qr (A 2) (A 3) P') (fun x=>SN R (A4 x 3) (A4 x 1) (A4 x 2) (A4 x 0) hX s0 s1 s2 s3 h hq) (fun q q=>⟨rfl,rfl,rfl⟩) (fun q q q q q=>rfl) (CO (by rfl)) (by decide) (fun q=>⟨rfl,rfl,fun q q=>rfl⟩) (fun q q=>rfl)).mono (fun q h=>h) fun u x P' _ ⟨_,_,h⟩=>h
def pm(P:zp)(pM aX:Nat)(s0 s1 s2 s3 t1 t2:zl)(kt k1 k2:Bool)(x3:Int)(aQ aW:Nat)(DX r4:zu):Spec:=⟨.call (.ref 923) ⟨[.ref pM,.ref aX],[]⟩,[pM,aX],[A0 (.seq ⟨(Gv s0 s1 s2 s3).map PA.val⟩ 0),A0 DX],fun A=>.fin (.done (.ret (.ref (A 0)))),fun A=>[A0 (.seq ⟨(Gv s0 s1 s2 s3).map PA.val⟩ 0),A0 r4],fun A=>[HA (bif kt then 1 else 0) (vk k1 t1 aQ) (vk k2 t2 aW)]⟩
variable{St:zc}(w b b2)
theorem Xa(pM aX:Nat)(s0 s1 s2 s3 t1 t2:zl)(kt k1 k2:Bool)(x3:Int)(DX r4:zu){R:Lp}{x1 x2:Int}{ex:Nat}(hX:DX=.seq ⟨[.int x1 0,.int x2 0,.int x3 0]⟩ ex){c1 c2 c3:Kx}(h:Jk x1 x2 x3 c1 c2 c3){ql qr:PA}(hq:Em s0 s1 s2 s3 c1 c2 c3=.node 0 kt ql qr)(e1:k1=ql.vs.1)(e2:k2=qr.vs.1)(e3:t1=ql.vs.2.1)(e4:t2=qr.vs.2.1)(eX:r4=DX):Spec.pW (fun (z:Nat×Nat)=>pm w.2 pM aX s0 s1 s2 s3 t1 t2 kt k1 k2 x3 z.1 z.2 DX r4) (fun (z:Nat×Nat) A P'=>(True)∧(d' R ql qr z.1 z.2) P') (pm w.2 pM aX s0 s1 s2 s3 t1 t2 kt k1 k2 x3 0 0 DX r4) (wf w b b2) (Al (⟨1,St⟩)) (fun P=>P=R):=Rd (K0:=fun (z:Nat×Nat)=>d' R ql qr z.1 z.2) ((Cs.bb kt).pp ((Cs.bb k1).pp (Cs.bb k2))) _ (fun (z:Nat×Nat) A=>True) (fun z D=>pm w.2 pM aX s0 s1 s2 s3 t1 t2 z.1 z.2.1 z.2.2 x3 0 0 (gD D 0) r4) (fun z D l=>pm w.2 pM aX s0 s1 s2 s3 t1 t2 z.1 z.2.1 z.2.2 x3 (un l 0 0 5) (un l 0 0 6) (gD D 0) (ud l 0 2)) (fun z D=>(Ag [mn w.2 s0 s1 s2 s3 (gD D 0) x3 z.1 z.2.1 z.2.2 t1 t2])) 1 (fun z D l=>[]) (fun z=>[5]) [false,true] (hD 7 19 9498864787918268) 1 [] 1 [DX] fun E0 ke=>.qA (Xp hX h hq e1 e2 e3 e4) fun u0 q g0=>.nil fun P hP=>ke _ _ ⟨(u0.n 0 5,u0.n 0 6),@id (eD (u0.d 2)=r4) ((let ⟨_,k⟩:=g0.1; k.1).trans eX.symm) ▸ rfl,hP,fun q q=>trivial⟩
noncomputable def ZZ(m n v:Int):Spec:=⟨.call (.ref 961) ⟨[.int m 0,.int n 0],[]⟩,[],[],fun q=>.fin (.done (.ret (.int v 0))),fun q=>[],fun q=>[]⟩
def fH(m n v:Int):A8:=BU [] [] [] (fun q=>ZZ m n v)
theorem KN{w:zt}{b1 b2:Bool}{m n m' n' v:Int}{I:zd}{l:Nat}{St:zc}(h:(ZZ m' n' v).pP (wf w b1 b2) (Al ⟨l+1,fun q=>True⟩) I I)(e1:m=m')(e2:n=n'):(fH m n v).qB pw (wf w b1 b2) (A5 w.2) ⟨l,St⟩ I I:=by
 subst e1 e2
 exact AL (w:=wf w b1 b2) (fun q=>h) (by decide) (fun q=>⟨rfl,rfl,fun q=>rfl⟩) (fun q q=>rfl) (wR.mpr (vp _))
noncomputable def oH(P:zp)(lq:Nat)(n:Int):Spec:=⟨.call (.ref 961) ⟨[.int 0 0,.int n 0],[]⟩,[],[],fun A=>.fin (.done (.ret (.int 1 0))),fun A=>[],fun A=>[]⟩
theorem Rb(lq:Nat)(n:Int)(hq:lq≤12)(I:zd):(oH w.2 lq n).PI w b b2 lq St I:=by
 refine As (Ag []) 0 [] [0,1,1,1,1,1] 1000000 [] 1 (fun E0 ke=>?_) (hT:=wR.mpr (show lq≤13 by lia))
 exact .pO ke rfl
noncomputable def oG(P:zp)(lq k:Nat):Spec:=⟨.call (.ref 961) ⟨[.int ((k+1:Nat):Int) 0,.int 0 0],[]⟩,[],[],fun A=>.fin (.done (.ret (.int 1 0))),fun A=>[],fun A=>[]⟩
theorem Ra(lq k:Nat)(hq:lq≤12)(I:zd):(oG w.2 lq k).PI w b b2 lq St I:=by
 refine As (Ag []) 0 [] [0,1,1,1,1,1,1] 1000000 [] 1 (fun E0 ke=>?_) (hT:=wR.mpr (show lq≤13 by lia))
 exact .pO ke rfl
noncomputable def oF(P:zp)(lq k j:Nat)(v1 v2:Int):Spec:=⟨.call (.ref 961) ⟨[.int ((k+1:Nat):Int) 0,.int ((j+1:Nat):Int) 0],[]⟩,[],[],fun A=>.fin (.done (.ret (.int (v1+v2) 0))),fun A=>[],fun A=>[]⟩
theorem RZ(lq k j:Nat)(v1 v2:Int){I:zd}(hq:lq≤12)(h1:(ZZ (k:Nat) ((j+1:Nat):Int) v1).PI w b b2 (lq+1) (fun q=>True) I)(h2:(ZZ ((k+1:Nat):Int) (j:Nat) v2).PI w b b2 (lq+1) (fun q=>True) I):(oF w.2 lq k j v1 v2).PI w b b2 lq St I:=by
 refine As (Ag [fH (((k+1:Nat):Int)-1) ((j+1:Nat):Int) v1,fH ((k+1:Nat):Int) (((j+1:Nat):Int)-1) v2]) 2 [] (hD 3 15 2153100) 3 [1] 1 (fun E0 ke=>?_) (hT:=wR.mpr (show lq≤13 by lia))
 exact .cons (KN h1 (by lia) rfl) fun q q q=>.cons (KN h2 rfl (by lia)) fun q q q=>.pO ke rfl
noncomputable def NF:Nat→Nat→Nat
 | 0,_=>1
 | m+1,n=>Nat.rec 1 (fun n' r=>NF m (n'+1)+r) n
theorem K5{w:zt}{b b2:Bool}(I:zd):∀ (m n l:Nat),l+(m+n)≤12→(ZZ (m:Nat) (n:Nat) (NF m n:Nat)).PI w b b2 l (fun q=>True) I
 | 0,n,l,h=>Rb w b b2 l (n:Nat) (by lia) I
 | m+1,0,l,h=>Ra w b b2 l m (by lia) I
 | m+1,n+1,l,h=>by
  have z:=RZ (St:=fun q=>True) w b b2 l m n (NF m (n+1):Nat) (NF (m+1) n:Nat) (I:=I) (by lia) (K5 I m (n+1) (l+1) (by lia)) (K5 I (m+1) n (l+1) (by lia))
  have e:((NF (m+1) (n+1):Nat):Int)=(NF m (n+1):Nat)+(NF (m+1) n:Nat):=rfl
  rw [e]
  exact z
termination_by m n=>m+n
def Ro(v:zq)(ns:Dy)(o s m r:Int):Spec:=⟨.call (.ref 968) ⟨[v],[]⟩,[],[],fun A=>.fin (.done (.ret (.ref (A 0)))),fun q=>[],fun A=>[AG (.seq #[.ref (A 1),.int o 0,.int s 0,.int m 0,.int r 0] 0),A0 (.seq ⟨Dl ns⟩ 0)]⟩
def Xl(v:zq)(ns:Dy)(o s m r:Int):A8:=BU [] [] [false,true] (fun q=>Ro v ns o s m r)
theorem GL{w:zt}{b1 b2:Bool}{v:zq}{ns:Dy}{o s m r:Int}{I:zd}{l:Nat}{St:zc}(h:(Ro v ns o s m r).pP (wf w b1 b2) (Al ⟨l+1,fun q=>True⟩) I I):(Xl v ns o s m r).qB pw (wf w b1 b2) (A5 w.2) ⟨l,St⟩ I I:=
 AL (w:=wf w b1 b2) (fun q=>h) (by decide) (fun q=>⟨rfl,rfl,fun q=>rfl⟩) (fun q q=>rfl) (wR.mpr (vp _))
theorem cL{a b:Int}(ha:a.natAbs < 1024)(hb:b.natAbs < 1024):IntMulOk a b:=IntMulOk.of_le (m:=10) (n:=10) (intBits_le_iff.mpr ha) (intBits_le_iff.mpr hb) (by decide)
theorem Uc{p:zv}{w:zt}(a b:Int)(t u:Nat)(hm:IntMulOk a b):Bm p w (.call (.builtin "int.__mul__") ⟨[.int a t,.int b u],[]⟩) (Ef (a*b)):=
 GF fun A s Q E hq=>PySem.call_givesAt F.slot_int_mul (typeIs_int s a t) F.entry_int_mul (F.args_int_mul_2 _ _) (Gives.at (P:=fun q=>True) (AutoIntG1.int___mul___int_int_0 a t b u hm)) trivial (hq _ _ ⟨_,rfl⟩ ⟨rfl,fun q q h=>h,rfl,rfl,rfl⟩)
def OO(a b:Int):A8:=En (.call (.builtin "int.__mul__") ⟨[.int a 0,.int b 0],[]⟩) fun u=>.ok (.ret (.int (a*b) u))
theorem Fn{p:zv}{w:zt}{kt:KT}{a b:Int}(ha:a.natAbs < 1024)(hb:b.natAbs < 1024):(OO a b).Ok p w kt:=BG fun c hc=>by
 obtain ⟨t,u,rfl⟩:=Hi hc
 intro s k g l cd pc rest
 obtain ⟨s',res,⟨tk,e⟩,G,go⟩:=Uc (p:=p) (w:=w) a b t u (cL ha hb) s k g l cd pc rest
 exact ⟨s',res,⟨tk,e⟩,G,go⟩
def oU(P:zp)(lq:Nat)(s0:zl):Spec:=⟨.call (.ref 968) ⟨[.str ⟨⟨s0⟩⟩ 0],[]⟩,[],[],fun A=>.fin (.done (.ret (.ref (A 0)))),fun A=>[],fun A=>[AG (.seq #[.ref (A 1),.int 1 0,.int 2 0,.int 1 0,.int 1 0] 0),A0 (.seq #[.str ⟨⟨s0⟩⟩ 0] 0)]⟩
theorem Rr(lq:Nat)(s0:zl)(hq:lq≤12)(I:zd):(oU w.2 lq s0).PI w b b2 lq St I:=by
 refine As (Ag []) 0 [2,1] (hD 3 9 6816) 1000000 [] 1 (fun E0 ke=>?_) (hT:=wR.mpr (show lq≤13 by lia))
 exact .pO ke rfl
def i7(P:zp)(aT:Nat)(lq:Nat)(k1 k2:Bool)(s1 s2:zl)(a1 a2:Nat)(n1 n2:Dy)(o1 z1 m1 r1 o2 z2 m2 r2:Int)(DA rm DN DM:zu):Spec:=⟨.call (.ref 968) ⟨[.ref aT],[]⟩,[aT],[HA 0 (vk k1 s1 a1) (vk k2 s2 a2)],fun A=>.fin (.done (.ret (.ref (A 0)))),fun A=>[HA 0 (vk k1 s1 a1) (vk k2 s2 a2)],fun A=>[AG (.seq #[.ref (A 1),.int (o1*o2) 0,.int (z1+z2-1) 0,.int (Oh m1 m2) 0,.int (r1+r2) 0] 0),A0 rm]⟩
theorem Rq(aT:Nat)(lq:Nat)(k1 k2:Bool)(s1 s2:zl)(a1 a2:Nat)(n1 n2:Dy)(o1 z1 m1 r1 o2 z2 m2 r2:Int)(DA rm:zu){I:zd}(hq:lq≤5)(h1:(Ro (vk k1 s1 a1) n1 o1 z1 m1 r1).PI w b b2 (lq+1) (fun y=>True) I)(h2:(Ro (vk k2 s2 a2) n2 o2 z2 m2 r2).PI w b b2 (lq+1) (fun y=>True) I)(l1:n1.length≤4)(l2:n2.length≤4)(q1:o1.natAbs < 1024)(q2:o2.natAbs < 1024)(hA:DA=.seq ⟨Dl n1++Dl n2⟩ 0)(eA:rm=DA):(i7 w.2 aT lq k1 k2 s1 s2 a1 a2 n1 n2 o1 z1 m1 r1 o2 z2 m2 r2 DA rm .plain .plain).PI w b b2 lq St I:=by
 refine Ae ((Cs.bb k1).pp (Cs.bb k2)) (fun z D=>i7 w.2 aT lq z.1 z.2 s1 s2 a1 a2 n1 n2 o1 z1 m1 r1 o2 z2 m2 r2 DA rm .plain .plain) (fun z D l=>i7 w.2 aT lq z.1 z.2 s1 s2 a1 a2 n1 n2 o1 z1 m1 r1 o2 z2 m2 r2 DA (ud l 2 0) (ud l 4 3) (ud l 3 3)) (fun z D=>[fun y=>Xl (vk z.1 s1 a1) n1 o1 z1 m1 r1,fun y=>Xl (vk z.2 s2 a2) n2 o2 z2 m2 r2,fun l=>Ce 3 8 (ud l 1 3) (ud l 0 3) DA,fun y=>OO o1 o2,fun y=>fI w.2 m1 m2]) 5 (fun z=>[13,12]) [] (hD 14 168 545237088177036770954232480466173455165495884202015928229025579972271142609970118208190153774740279476227384468082613667199198790798338085419939563365925592399572915123468570438331703155320420) 4 [8,9,0,2] 1 [] (fun E0 ke=>?_) (hT:=wR.mpr (show lq≤13 by lia))
 exact .cons (GL h1) fun y y g0=>.cons (GL h2) fun y y g1=>.q (Bg g0.2.1 g1.2.1 hA (by unfold Dl; rw [vh,vh]; have:=AD; lia)) fun u2 y g2=>.q (Fn q1 q2) fun y y y=>.cons (KR (w:=w) (b1:=b) (b2:=b2) (wR.mpr (show lq+1≤9 by lia))) fun y y y=>.pO ke (@id (eD (u2.d 0)=rm) ((g2 rfl).trans eA.symm) ▸ rfl)
def i6(P:zp)(aT:Nat)(lq:Nat)(k1 k2:Bool)(s1 s2:zl)(a1 a2:Nat)(n1 n2:Dy)(o1 z1 m1 r1 o2 z2 m2 r2:Int)(i1 i2 vs:Int)(DA rm DN DM:zu):Spec:=⟨.call (.ref 968) ⟨[.ref aT],[]⟩,[aT],[HA 1 (vk k1 s1 a1) (vk k2 s2 a2)],fun A=>.fin (.done (.ret (.ref (A 0)))),fun A=>[HA 1 (vk k1 s1 a1) (vk k2 s2 a2)],fun A=>[AG (.seq #[.ref (A 1),.int (o1*o2*vs) 0,.int (z1*z2) 0,.int (m1+m2) 0,.int (Oh r1 r2) 0] 0),A0 rm]⟩
theorem Rp(aT:Nat)(lq:Nat)(k1 k2:Bool)(s1 s2:zl)(a1 a2:Nat)(n1 n2:Dy)(o1 z1 m1 r1 o2 z2 m2 r2:Int)(i1 i2 vs:Int)(DA rm:zu){I:zd}(hq:lq≤5)(h1:(Ro (vk k1 s1 a1) n1 o1 z1 m1 r1).PI w b b2 (lq+1) (fun y=>True) I)(h2:(Ro (vk k2 s2 a2) n2 o2 z2 m2 r2).PI w b b2 (lq+1) (fun y=>True) I)(l1:n1.length≤4)(l2:n2.length≤4)(q1:o1.natAbs < 1024)(q2:o2.natAbs < 1024)(hA:DA=.seq ⟨Dl n1++Dl n2⟩ 0)(eA:rm=DA)(uv:(n1.length:Int)=i1)(uu:(n2.length:Int)=i2)(hs:(ZZ i1 i2 vs).PI w b b2 (lq+1) (fun y=>True) I)(q3:(o1*o2).natAbs < 1024)(q4:vs.natAbs < 1024)(q5:z1.natAbs < 1024)(q6:z2.natAbs < 1024):(i6 w.2 aT lq k1 k2 s1 s2 a1 a2 n1 n2 o1 z1 m1 r1 o2 z2 m2 r2 i1 i2 vs DA rm .plain .plain).PI w b b2 lq St I:=by
 refine Ae ((Cs.bb k1).pp (Cs.bb k2)) (fun z D=>i6 w.2 aT lq z.1 z.2 s1 s2 a1 a2 n1 n2 o1 z1 m1 r1 o2 z2 m2 r2 i1 i2 vs DA rm .plain .plain) (fun z D l=>i6 w.2 aT lq z.1 z.2 s1 s2 a1 a2 n1 n2 o1 z1 m1 r1 o2 z2 m2 r2 i1 i2 vs DA (ud l 2 0) (ud l 9 3) (ud l 8 3)) (fun z D=>[fun y=>Xl (vk z.1 s1 a1) n1 o1 z1 m1 r1,fun y=>Xl (vk z.2 s2 a2) n2 o2 z2 m2 r2,fun y=>OO o1 o2,fun l=>FA 3 (ud l 2 3) i1,fun l=>FA 8 (ud l 2 3) i2,fun y=>fH i1 i2 vs,fun y=>OO (o1*o2) vs,fun l=>Ce 3 8 (ud l 6 3) (ud l 5 3) DA,fun y=>OO z1 z2,fun y=>fI w.2 r1 r2]) 10 (fun z=>[13,12]) [] (hD 14 179 2196822321298068295418296168742004134160693806409062088565904972451620478525532816467269375721787665957824886576132940618564713394885504647423101844490465230620638882580359586637845785896415220142828775012) 4 [8,9,0,0,0,0,0,0,1] 1 [] (fun E0 ke=>?_) (hT:=wR.mpr (show lq≤13 by lia))
 exact .cons (GL h1) fun y y g0=>.cons (GL h2) fun y y g1=>.q (Fn q1 q2) fun y y y=>.q (Bz g0.2.1 (by unfold Dl; rw [vh]; exact uv) (by unfold Dl; rw [vh]; lia)) fun y y y=>.q (Bz g1.2.1 (by unfold Dl; rw [vh]; exact uu) (by unfold Dl; rw [vh]; lia)) fun y y y=>.cons (KN hs rfl rfl) fun y y y=>.q (Fn q3 q4) fun y y y=>.q (Bg g0.2.1 g1.2.1 hA (by unfold Dl; rw [vh,vh]; have:=AD; lia)) fun u7 y g7=>.q (Fn q5 q6) fun y y y=>.cons (KR (w:=w) (b1:=b) (b2:=b2) (wR.mpr (show lq+1≤9 by lia))) fun y y y=>.pO ke (@id (eD (u7.d 0)=rm) ((g7 rfl).trans eA.symm) ▸ rfl)
def PA.pg:PA→Dy
 | .leaf s=>[s]
 | .node _ _ l r=>l.pg++r.pg
structure RK where
 o:Int
 z:Int
 m:Int
 r:Int
def PA.rk:PA→RK
 | .leaf _=>⟨1,2,1,1⟩
 | .node _ false l r=>⟨l.rk.o*r.rk.o,l.rk.z+r.rk.z-1,Oh l.rk.m r.rk.m,l.rk.r+r.rk.r⟩
 | .node _ true l r=>⟨l.rk.o*r.rk.o*(NF l.pg.length r.pg.length:Nat),l.rk.z*r.rk.z,l.rk.m+r.rk.m,Oh l.rk.r r.rk.r⟩
def PA.sM:PA→Prop
 | .leaf _=>True
 | .node _ _ l r=>l.sM∧r.sM∧l.rk.o.natAbs < 1024∧r.rk.o.natAbs < 1024∧(l.rk.o*r.rk.o).natAbs < 1024∧((NF l.pg.length r.pg.length:Nat):Int).natAbs < 1024∧l.rk.z.natAbs < 1024∧r.rk.z.natAbs < 1024∧l.pg.length+r.pg.length≤4
theorem iz{C:Code}{fin:(Nat→Nat)→End}{a:Nat}{o:Obj}{nw:(Nat→Nat)→List Obj}{w:zt}{Sh:Pos→ze→Prop}{X R:Lp}(h:(⟨C,[a],[o],fin,fun q=>[o],nw⟩:Spec).pP w Sh (fun P=>P=X) (fun P=>P=X))(hR:R.Perm ((a,o)::X)):(⟨C,[],[],fin,fun q=>[],nw⟩:Spec).pP w Sh (fun P=>P=R) (fun P=>P=R):=by
 rintro P rfl
 refine ((h X rfl).qT (q8:=fun L=>L=P) fun L e=>⟨_,rfl,by rw [e]; exact hR⟩).out ?_
 rintro e L ⟨A,P',rfl,sub,he,rfl⟩
 refine ⟨(⟨C,[],[],fin,fun q=>[],nw⟩:Spec).pV A++P,?_,A,P,rfl,fun q m=>m,he,rfl⟩
 show (([(a,o)]++Spec.qp _ A)++P').Perm (([]++Spec.qp _ A)++P)
 refine List.Perm.trans ?_ (hR.symm.append_left _)
 rw [List.nil_append,vj]
 exact (wV (a:=(a,o)) (l₁:=(⟨C,[],[],fin,fun q=>[],nw⟩:Spec).qp A) (l₂:=P')).symm
theorem K7{w:zt}{b b2:Bool}:∀ (p:PA) (l:Nat),p.sM→l+p.qa≤5→∀ R:Lp,(∃ R0,R.Perm (p.lp++R0))→(Ro p.val p.pg p.rk.o p.rk.z p.rk.m p.rk.r).PI w b b2 l (fun y=>True) (fun P=>P=R)
 | .leaf s,l,_,h,R,_=>Rr (St:=fun y=>True) w b b2 l s (by have:l+0≤5:=h; lia) (fun P=>P=R)
 | .node a t p q,l,h0,h,R,hR0=>by
  obtain ⟨R0,hR⟩:=hR0
  have o1:p.sM:=h0.1
  have o2:q.sM:=h0.2.1
  have k:=h0.2.2
  have ln:=k.2.2.2.2.2.2
  have hh:l+(max p.qa q.qa+1)≤5:=h
  have hX:R.Perm ((a,HA (bif t then 1 else 0) p.val q.val)::(p.lp++(q.lp++R0))):=hR.trans (.cons _ (.of_eq (vj _ _ _)))
  have i1:=K7 (w:=w) (b:=b) (b2:=b2) p (l+1) o1 (by lia) (p.lp++(q.lp++R0)) ⟨_,.refl _⟩
  have i2:=K7 (w:=w) (b:=b) (b2:=b2) q (l+1) o2 (by lia) (p.lp++(q.lp++R0)) ⟨p.lp++R0,by rw [← vj,← vj]; exact wJ.append_right _⟩
  refine iz ?_ hX
  have e:Dl (PA.node a t p q).pg=Dl p.pg++Dl q.pg:=by show List.map _ (p.pg++q.pg)=_; rw [vl]; rfl
  show (⟨_,_,_,_,_,fun A=>[_,A0 (.seq ⟨Dl (PA.node a t p q).pg⟩ 0)]⟩:Spec).pP _ _ _ _
  rw [e]
  rw [PA.q7] at i1 i2
  rw [PA.q7 p,PA.q7 q]
  cases t with
  | false=>exact Rq (St:=fun y=>True) w b b2 a l p.vs.1 q.vs.1 p.vs.2.1 q.vs.2.1 p.vs.2.2 q.vs.2.2 p.pg q.pg p.rk.o p.rk.z p.rk.m p.rk.r q.rk.o q.rk.z q.rk.m q.rk.r (.seq ⟨Dl p.pg++Dl q.pg⟩ 0) (.seq ⟨Dl p.pg++Dl q.pg⟩ 0) (by lia) i1 i2 (by lia) (by lia) k.1 k.2.1 rfl rfl
  | true=>exact Rp (St:=fun y=>True) w b b2 a l p.vs.1 q.vs.1 p.vs.2.1 q.vs.2.1 p.vs.2.2 q.vs.2.2 p.pg q.pg p.rk.o p.rk.z p.rk.m p.rk.r q.rk.o q.rk.z q.rk.m q.rk.r _ _ _ (.seq ⟨Dl p.pg++Dl q.pg⟩ 0) (.seq ⟨Dl p.pg++Dl q.pg⟩ 0) (by lia) i1 i2 (by lia) (by lia) k.1 k.2.1 rfl rfl rfl rfl (K5 _ p.pg.length q.pg.length (l+1) (by lia)) k.2.2.1 k.2.2.2.1 k.2.2.2.2.1 k.2.2.2.2.2.1
theorem bl{a b:Bool}(h:(a&&b)=true):a=true:=(vz.mp h).1
theorem br{a b:Bool}(h:(a&&b)=true):b=true:=(vz.mp h).2
noncomputable def Zm(s:zl):Nat:=s.getD 0 0
def Mf:PA→zl→za×zl
 | .leaf s,ah=>([(Zm s,ah)],[Zm s])
 | .node _ false l r,ah=>((Mf l ah).1++(Mf r (Mf l ah).2).1,(Mf r (Mf l ah).2).2)
 | .node _ true l r,ah=>((Mf l ah).1++(Mf r ah).1,(Mf l ah).2++(Mf r ah).2)
def C7(p:PA):za:=(Mf p []).1
def GC(ns:za):zl:=AM (A3 G0 ns) (A3 G0 ns).ord
def ng(ns:za)(os:zl):Option (zl):=Ip os (BH (GC ns) (A3 G0 ns)) (Fp (GC ns) (GC ns).length) (GC ns)
def pT(ns:za)(os:zl):zl:=(ng ns os).getD []
noncomputable def cH:zl→za→Bool
 | _,[]=>true
 | o,(x,l)::r=>!o.contains x&&l.all o.contains&&decide l.Nodup&&Nat.ble l.length 3&&cH (o++[x]) r
def d7(ns:za)(q:zl×Nat):Bool:=(ng ns q.1).isSome&&Nat.ble q.1.length 40&&Nat.ble (pT ns q.1).length 20 && !(AA q.1 (pT ns q.1)).isEmpty
def L7(ns:za)(lv:zb)(F:zb):Bool:=!lv.isEmpty&&Nat.ble lv.length 20&&lv.all (d7 ns)&&Nat.ble 1 F.length&&Nat.ble F.length 6&&FF ((C8 F).map fun e=>Ah e.1)&&decide (F.map fun e=>Ah e.1).Nodup
def K6(ns:za):Nat→zb→Int→Int→Option (zb×Int×Int)
 | 0,lv,sets,most=>some (lv,sets,most)
 | n+1,lv,sets,most=>match L7 ns lv (E3 (pT ns) lv most).1 with
  | true=>K6 ns n (C8 (E3 (pT ns) lv most).1) (sets+((C8 (E3 (pT ns) lv most).1).length:Nat)) (E3 (pT ns) lv most).2
  | false=>none
def di(p:PA)(ol:zl)(wy:Nat)(sets most:Int)(m:Nat):Bool:=cH [] (C7 p)&&Nat.beq (C7 p).length 4&&MG (A3 G0 (C7 p)).sc 30 (A3 G0 (C7 p)).ord []&&decide (H3 (A3 G0 (C7 p)) (GC (C7 p)))&&Nat.ble ol.length 60&&decide (p.rk.o=(wy:Nat))&&decide (p.rk.z=sets)&&decide (p.rk.m=most)&&decide (p.rk.r=(m:Nat))&&decide (Ah (p.pg.map Zm)=Ah ol)
def ZO(p:PA):Bool:=match K6 (C7 p) 4 [([],1)] 1 0 with
 | some ([(ol,wy)],sets,most)=>match Ei 6 (BH (GC (C7 p)) (A3 G0 (C7 p))) (GC (C7 p)) (Fp (GC (C7 p)) (GC (C7 p)).length) with
  | some m=>di p ol wy sets most m
  | none=>false
 | _=>false
def nums(n:Nat):List Kx:=(List.range n).flatMap fun p=>[(p,false,false),(p,false,true),(p,true,false),(p,true,true)]
def fZ(c1 c2 c3:Kx):PA:=Em [0] [1] [2] [3] c1 c2 c3
noncomputable def fG(c:Nat):Bool:=[97,98,99,100,61,34,32,39].contains c
theorem IS(X:zl):∀ (s:zl),s.all fG=true→∀ (xs:zl) (p:Nat),Bc (F7 s++X) 39 xs p=Bc X 39 (xs++s) (p+(F7 s).length)
 | [],_,xs,p=>by rw [w9]; rfl
 | c::s,h,xs,p=>by
  rw [List.all_cons,xY] at h
  have ih:=fun xs p=>IS X s h.2 xs p
  have e:F7 (c::s)=if c=39 then 39::34::39::34::39::F7 s else c::F7 s:=rfl
  rw [e]
  by_cases c1:c=39
  ·subst c1
   rw [wD rfl]
   have z:Bc (39::34::39::34::39::(F7 s++X)) 39 xs p=Bc (F7 s++X) 39 (xs++[39]) (p+5):=by kernel_rfl
   show Bc (39::34::39::34::39::(F7 s++X)) 39 xs p=_
   rw [z,ih,vj]
   show _=Bc X 39 _ (p+((F7 s).length+5))
   rw [xe,yH 5]; rfl
  ·rw [w2 c1]
   show Bc (c::(F7 s++X)) 39 xs p=_
   have hc:c=97∨c=98∨c=99∨c=100∨c=61∨c=34∨c=32:=by
    have:=h.1
    unfold fG at this
    simp only [List.contains_cons,List.contains_nil,Bool.or_false,zZ,zG] at this
    lia
   rw [Oy,w2 (by decide),wD rfl,w2 c1,wD hc,ih,vj]
   show _=Bc X 39 _ (p+((F7 s).length+1))
   rw [xe,yH 1]; rfl
def Fv:zl→Bool
 | [c]=>[97,98,99,100].contains c
 | x::y::s=>[34,61,97,100].contains x&&(y::s).all fG
 | []=>false
theorem cM{c:Nat}{a b d e:Nat}(h:[a,b,d,e].contains c=true):c=a∨c=b∨c=d∨c=e:=by
 simpa [List.contains_cons] using h
theorem JN{s:zl}(h:Fv s=true)(p:Nat)(X:zl):B6 (An s++32::X) p=some (s,p+(An s).length+1,true)∧B6 (An s) p=some (s,p+(An s).length,false):=by
 match s,h with
 | [c],h=>
  rcases cM h with rfl | rfl | rfl | rfl<;>exact ⟨rfl,rfl⟩
 | x::y::s,h=>
  have h:([34,61,97,100].contains x&&(y::s).all fG)=true:=h
  rw [xY] at h
  have hx:x=34∨x=61∨x=97∨x=100:=cM h.1
  have h39:x≠39:=by lia
  have e:F7 (x::y::s)=x::F7 (y::s):=w2 h39
  have e2:An (x::y::s)=39::x::(F7 (y::s)++[39]):=by show 39::(F7 (x::y::s)++[39])=_; rw [e]; rfl
  have e3:∀ T p,B6 (39::x::T) p=Bc T 39 [x] (p+2):=fun T p=>wD hx
  rw [e2]
  constructor
  ·show B6 (39::x::((F7 (y::s)++[39])++32::X)) p=_
   rw [e3,vj,IS _ _ h.2]
   show some (x::y::s,p+2+(F7 (y::s)).length+1+1,true)=_
   rw [vr,vr,vn,wQ]
   congr 3
   lia
  ·rw [e3,IS _ _ h.2]
   show some (x::y::s,p+2+(F7 (y::s)).length+1,false)=_
   rw [vr,vr,vn,wQ]
   congr 3
   lia
theorem XD{a b:zl}(ha:Fv a=true)(hb:Fv b=true)(hl:(An a).length+(An b).length+8≤sizeLine):∃ s x2 T2 x3 T3 p1 p2 p3,Qn a b=61::32::s∧a=x2::T2∧b=x3::T3∧fi (61::32::s) x2 x3 T2 T3 p1 p2 p3:=by
 have ne:∀ {s:zl},Fv s=true→∃ x T,s=x::T:=fun {s} h=>by cases s with | nil=>cases h | cons x T=>exact ⟨x,T,rfl⟩
 obtain ⟨x2,T2,e2⟩:=ne ha
 obtain ⟨x3,T3,e3⟩:=ne hb
 refine ⟨An a++32::An b,x2,T2,x3,T3,2,2+(An a).length+1,2+(An a).length+1+(An b).length,rfl,e2,e3,?_,?_,rfl,?_,?_,?_⟩
 ·show 3≤(An a++32::An b).length+1+1
  rw [vn,vr]; lia
 ·show (An a++32::An b).length+1+1≤_
  rw [vn,vr]; lia
 ·rw [← e2]
  exact (JN ha 2 (An b)).1
 ·rw [← e3]
  have:(61::32::(An a++32::An b)).drop (2+(An a).length+1)=An b:=by
   show (61::32::(An a++([32]++An b))).drop _=_
   rw [← vj,show 2+(An a).length+1=2+(An a++[32]).length by rw [vn]; rfl,← yF]
   show ((An a++[32])++An b).drop _=_
   rw [List.drop_left]
  rw [this]
  exact (JN hb _ []).2
 ·show (An a++32::An b).length+1+1≤_
  rw [vn,vr]; lia
theorem Hy(X:zl):∀ (a dn:zl) (i k:Nat),(FR (Aa a++34::32::X) dn i k).1=dn++a
 | [],dn,i,k=>(w9 _).symm
 | c::a,dn,i,k=>by
  have e:Aa (c::a)=if c=34 then 34::34::Aa a else c::Aa a:=rfl
  rw [e]
  by_cases h:c=34
  ·subst h
   rw [wD rfl]
   show (FR (Aa a++34::32::X) (dn++[34]) (i+2) 34).1=_
   rw [Hy X a,vj]; rfl
  ·rw [w2 h]
   show (FR (c::(Aa a++34::32::X)) dn i k).1=_
   rw [J2 _ _ _ _ _ h,Hy X a,vj]; rfl
theorem ME:∀ a b:zl,Aa (a++b)=Aa a++Aa b
 | [],_=>rfl
 | c::a,b=>by
  show (if c=34 then 34::34::Aa (a++b) else c::Aa (a++b))=(if c=34 then 34::34::Aa a else c::Aa a)++Aa b
  rw [ME a b]
  split<;>rfl
theorem MC:∀ a:zl,(Aa a).reverse=Aa a.reverse
 | []=>rfl
 | c::a=>by
  show (if c=34 then 34::34::Aa a else c::Aa a).reverse=_
  rw [x6,ME,← MC a]
  show _=(Aa a).reverse++(if c=34 then [34,34] else [c])
  split
  ·rw [x6,x6,vj]; rfl
  ·rw [x6]
theorem ZJ{x:Nat}{T:zl}:∃ c s,Aa (x::T)=c::s:=by
 show ∃ c s,(if x=34 then 34::34::Aa T else x::Aa T)=c::s
 split<;>exact ⟨_,_,rfl⟩
theorem XO{a b:zl}(ha:a≠[])(hb:b≠[])(lb:b.length≤1000)(hl:(Aa a).length+(Aa b).length+30≤sizeLine):∃ c s wd y ys,Qm a b=34::c::s∧m8 c s a wd y ys b:=by
 obtain ⟨x,T,rfl⟩:=yY ha
 obtain ⟨y,ys,ey⟩:=yY (l:=b.reverse) (fun h=>hb (List.reverse_eq_nil_iff.mp h))
 obtain ⟨c,s,e⟩:=ZJ (x:=x) (T:=T)
 have lr:ys.length+1=b.length:=by rw [← List.length_reverse (as:=b),ey]; rfl
 refine ⟨c,s++34::32::34::(Aa b++[34]),(Aa b.reverse++34::32::34::((Aa (x::T)).reverse++[34])),y,ys,by unfold Qm; rw [e]; rfl,?_,by simp,?_,?_,?_,?_,?_⟩
 ·rw [e] at hl
  simp only [vn,vr,x9] at hl ⊢
  lia
 ·show (FR ((c::s)++34::32::34::(Aa b++[34])) [] 5 0).1=_
  rw [← e,Hy]; rfl
 ·show (34::((c::s)++34::32::34::(Aa b++[34]))).reverse=_
  rw [← e,← MC]
  simp
 ·rw [Hy,ey]; rfl
 ·rw [lr]; unfold sizeLine; lia
 ·rw [← ey,List.reverse_reverse]
end
section
open PySem PySem.W PySem.W.X PyProof.Rows PySem.Spec
section
abbrev P6(a b:Str):Prop:=a.cps.toList≤b.cps.toList
theorem P5{a b c:Str}(h1:P6 a b)(h2:P6 b c):P6 a c:=List.le_trans h1 h2
theorem YZ{a b:Str}(h:ltCps b.cps.toList a.cps.toList=false):P6 a b:=by
 rw [ltCps_eq] at h
 exact List.not_lt.mp (of_decide_eq_false h)
theorem HI:∀ (l:zj) (p:Str),risingS p l=true→(p::l).Pairwise P6
 | [],_,_=>yl _ _
 | x::r,p,h=>by
  have h:(!ltCps x.cps.toList p.cps.toList&&risingS x r)=true:=h
  rw [xY,Bool.not_eq_true'] at h
  have hx:=YZ h.1
  have k:=HI r x h.2
  refine yK.mpr ⟨fun y m=>?_,k⟩
  cases m with
  | head=>exact hx
  | tail _ m=>exact P5 hx (y6 k m)
theorem MU:∀ (l:zj),sortedS l=true→l.Pairwise P6
 | [],_=>.nil
 | x::r,h=>HI r x h
theorem RQ{a b:Str}(h:a.cps.toList=b.cps.toList):a=b:=Str.ext' (zU.mp h)
theorem HE{l l':zj}(p:l'.Perm l)(h':sortedS l'=true)(h:l.Pairwise P6):l'=l:=
 List.Perm.eq_of_pairwise (le:=P6) (fun q q q q a b=>RQ (List.le_antisymm a b)) (MU l' h') h p
theorem GY(x:Nat):∀ l:zl,(ins x l).Perm (x::l)
 | []=>.refl _
 | y::l=>by
  show (if x≤y then x::y::l else y::ins x l).Perm _
  split
  ·exact .refl _
  ·exact ((GY x l).cons y).trans (.swap _ _ _)
theorem Iu:∀ l:zl,(Ah l).Perm l
 | []=>.refl _
 | x::l=>(GY x (Ah l)).trans ((Iu l).cons x)
set_option tactic.hygienic true in
theorem PN{x:Nat}:∀ {l:zl},l.Pairwise (·≤·)→(ins x l).Pairwise (·≤·)
 | [],_=>yl _ _
 | y::l,h=>by
  show (if x≤y then x::y::l else y::ins x l).Pairwise _
  split
  ·rename_i c
   refine yK.mpr ⟨fun z m=>?_,h⟩
   cases m with
   | head=>exact c
   | tail _ m=>exact vv c (y6 h m)
  ·rename_i c
   refine yK.mpr ⟨fun z m=>?_,PN (yK.mp h).2⟩
   cases (GY x l).mem_iff.mp m with
   | head=>exact Nat.le_of_not_le c
   | tail _ m=>exact y6 h m
theorem Ng:∀ l:zl,(Ah l).Pairwise (·≤·)
 | []=>.nil
 | x::l=>PN (Ng l)
section
variable(g:zo)(r:Nat→zl)
noncomputable def Jn(c:Nat):Str:=⟨⟨g c::r c⟩⟩
noncomputable def US:zl→zl
 | []=>[]
 | c::k=>124::g c::(r c++US k)
theorem Us(k:zl):∀ a:Array Nat,((k.map (Jn g r)).foldl (fun acc p=>acc++Gp.cps++p.cps) a).toList=a.toList++US g r k:=by
 induction k with
 | nil=>intro a; exact (w9 _).symm
 | cons c k ih=>
  intro a
  rw [vu,yh,ih,yf,yf,vj,vj]
  rfl
theorem GW:∀ k:zl,(AU (Jn g r) k).cps.toList=(US g r k).drop 1
 | []=>rfl
 | c::k=>Us g r k _
variable{g r}(hg:∀ a b,a < b→g a < g b)
include hg
theorem WN{a b:Nat}(h:g a=g b):a=b:=by
 rcases Nat.lt_trichotomy a b with c | c | c
 ·exact absurd h (zC (hg _ _ c))
 ·exact c
 ·exact absurd h.symm (zC (hg _ _ c))
theorem PE:∀ k k':zl,US g r k=US g r k'→k=k'
 | [],[],_=>rfl
 | [],_::_,h=>nomatch h
 | _::_,[],h=>nomatch h
 | c::k,c'::k',h=>by
  obtain ⟨h1,h2⟩:=wB (wB h).2
  obtain rfl:=WN hg h1
  rw [PE k k' (List.append_cancel_left h2)]
theorem WD:∀ a b:zl,HZ a b=true→US g r a < US g r b
 | x::a,y::b,h=>by
  refine y5.mpr (.inr ⟨rfl,y5.mpr ?_⟩)
  have h:(decide (x < y) || (x==y&&HZ a b))=true:=h
  rw [zZ,xY,yq,zG] at h
  rcases h with h1 | ⟨rfl,h2⟩
  ·exact .inl (hg _ _ h1)
  ·refine .inr ⟨rfl,?_⟩
   have k:=WD a b h2
   clear h
   generalize r x=l
   induction l with
   | nil=>exact k
   | cons z l ih=>exact y5.mpr (.inr ⟨rfl,ih⟩)
 | [],_,h=>nomatch h
 | _::_,[],h=>nomatch h
theorem Yc{a b:zl}(h:HZ a b=true):(AU (Jn g r) a).cps.toList < (AU (Jn g r) b).cps.toList:=by
 rw [GW,GW]
 have k:=WD (r:=r) hg a b h
 match a,b,h,k with
 | x::a,y::b,_,k=>exact (y5.mp k).elim (fun h=>absurd h (Nat.lt_irrefl _)) (·.2)
theorem JO:∀ (ks:List (zl)),FF ks=true→(ks.map (AU (Jn g r))).Pairwise P6
 | [],_=>.nil
 | [_],_=>yl _ _
 | a::b::ks,h=>by
  have h:(HZ a b&&FF (b::ks))=true:=h
  rw [xY] at h
  have k:=JO (b::ks) h.2
  have hx:P6 (AU (Jn g r) a) (AU (Jn g r) b):=List.le_of_lt (Yc hg h.1)
  refine yK.mpr ⟨fun y m=>?_,k⟩
  cases m with
  | head=>exact hx
  | tail _ m=>exact P5 hx (y6 k m)
theorem UW:Ik (Jn g r):=fun ks qG h p hs=>HE p hs (JO hg ks h)
theorem Tr{a b:Nat}(h:a≤b):P6 (Jn g r a) (Jn g r b):=by
 rcases Nat.lt_or_eq_of_le h with h | rfl
 ·exact List.le_of_lt (y5.mpr (.inl (hg _ _ h)))
 ·exact List.le_refl _
variable(hl:∀ c,(r c).length≤1)
include hl
theorem YN(k:zl):∀ n:Nat,(k.map (Jn g r)).foldl (fun n s=>n+s.length+Gp.length) n≤n+3*k.length:=by
 induction k with
 | nil=>exact fun q=>vp _
 | cons c k ih=>
  intro n
  have e:(Jn g r c).length=(r c).length+1:=rfl
  have:=hl c
  rw [vu,yh,vr]
  refine vv (ih _) ?_
  rw [e,show Gp.length=1 from rfl]; lia
theorem PD:∀ k:zl,(US g r k).length≤3*k.length
 | []=>vp _
 | c::k=>by
  have:=PD k
  have:=hl c
  show (r c++US g r k).length+1+1≤3*(k.length+1)
  rw [vn]; lia
theorem Tt:DQ (Jn g r) where
 inj a b h:=WN hg (wB (vm (fun s:Str=>s.cps.toList) h)).1
 r9 k k' h:=by
  have h:(AU (Jn g r) k).cps.toList=(AU (Jn g r) k').cps.toList:=vm (fun s:Str=>s.cps.toList) h
  rw [GW,GW] at h
  match k,k',h with
  | [],[],_=>rfl
  | c::k,c'::k',h=>exact PE (r:=r) hg _ _ (vm (124::·) h)
 sS l qG p h:=HE (p.trans ((Iu l).symm.map _)) h (List.pairwise_map.mpr ((Ng l).imp fun h=>Tr hg h))
 sD k h:=by
  have:=YN hg hl k 0
  rw [List.foldl_toArray]
  unfold Builtin.Str.tooLong sizeLine
  exact wg (by lia)
 rN k h:=by
  have:=PD hg hl k
  rw [GW,xc]
  unfold sizeLine; lia
end
noncomputable def cI(t0 t1:zl)(c:Nat):zl:=(if c < 4 then c+97 else c+204)::(if c=0 then t0 else if c=3 then t1 else [])
def Ts(t0 t1:zl):Nat→Str:=Jn (fun c=>if c < 4 then c+97 else c+204) fun c=>if c=0 then t0 else if c=3 then t1 else []
noncomputable def Ju:List (zl):=[[],[39],[34],[32]]
theorem YO{t0 t1:zl}(h0:t0∈Ju)(h1:t1∈Ju):DQ (Ts t0 t1)∧Ik (Ts t0 t1):=by
 have hg:∀ a b:Nat,a < b→(if a < 4 then a+97 else a+204) < (if b < 4 then b+97 else b+204):=fun a b h=>by split<;>split<;>lia
 have ht:∀ t∈Ju,t.length≤1:=by decide
 refine ⟨Tt hg fun c=>?_,UW hg⟩
 split
 ·exact ht _ h0
 ·split
  ·exact ht _ h1
  ·exact yj _
end
end
section
open PySem PySem.W PySem.W.X PySem.Builtin.Str PySem.StrLaws
noncomputable def Cy(c:Nat)(z:zl):zl→zl
 | []=>[]
 | x::l=>if x=c then z++Cy c z l else x::Cy c z l
noncomputable def CF(c:Nat):zl→Nat→zl
 | [],_=>[]
 | x::l,i=>if x=c then i::CF c l (i+1) else CF c l (i+1)
theorem MB{l m:zl}{k y:Nat}(h:l.drop k=y::m):l[k]?=some y∧l.drop (k+1)=m:=by
 constructor
 ·have:=vm (·[0]?) h
  simpa [xu] using this
 ·rw [← yF,h]; rfl
theorem GJ(x:Str)(c:Nat):∀ (m:zl) (k:Nat) (st:Array Nat×Nat),x.cps.toList.drop k=m→k+m.length=x.length→st.1.size≤k→st.2≤k→(forIn (List.range' k (m.length+1)) st (occBody x ⟨#[c]⟩ x.length (x.length+1))).run.fst.toList=st.1.toList++CF c m k
 | [],k,st,_,h2,h3,h4=>by
  have h2:k=x.length:=h2
  show (forIn [k] st (occBody x ⟨#[c]⟩ x.length (x.length+1))).run.fst.toList=_
  rw [List.forIn_cons]
  unfold occBody
  rw [w2 (fun h=>by have:k+1≤x.length:=h.1.2; lia)]; exact (w9 _).symm
 | y::m,k,st,h1,h2,h3,h4=>by
  obtain ⟨g1,g2⟩:=MB h1
  have h2:k+(m.length+1)=x.length:=h2
  have hs:=subAt_one x c k
  rw [g1] at hs
  show (forIn (List.range' k (m.length+1+1)) st (occBody x ⟨#[c]⟩ x.length (x.length+1))).run.fst.toList=_
  rw [List.range'_succ,List.forIn_cons]
  have e:CF c (y::m) k=if y=c then k::CF c m (k+1) else CF c m (k+1):=rfl
  rw [e]
  unfold occBody
  by_cases hc:y=c
  ·subst hc
   obtain ⟨q1,q2⟩:=hs.mpr rfl
   rw [wD ⟨⟨⟨by lia,h4⟩,q1⟩,q2⟩,wD rfl]
   refine (GJ x y m (k+1) (st.1.push k,k+1) g2 (by lia) (by rw [Array.size_push]; lia) (vp _)).trans ?_
   rw [zP,vj]; rfl
  ·rw [w2 (fun h=>hc (x8 (hs.mp ⟨h.1.2,h.2⟩))),w2 hc]
   exact GJ x c m (k+1) st g2 (by lia) (by lia) (by lia)
theorem Sv(x:Str)(c:Nat):occurrences x ⟨#[c]⟩ 0 x.length (x.length+1)=CF c x.cps.toList 0:=by
 rw [occ_eq]
 have hl:x.cps.toList.length=x.length:=yd
 have z:=GJ x c x.cps.toList 0 (#[],0) rfl (by rw [hl]; exact zW _) (vp _) (vp _)
 rw [hl] at z
 exact z
theorem PH(z p q:Str)(r:zj):Str.join z (p::q::r)=p++z++Str.join z (q::r):=rfl
theorem GX(x z:Str)(c:Nat):∀ (m:zl) (k a:Nat),a≤k→x.cps.toList.drop k=m→k+m.length=x.length→(Str.join z (partsFrom x 1 a (CF c m k))).cps.toList=(x.cps.toList.drop a).take (k-a)++Cy c z.cps.toList m
 | [],k,a,ha,h1,h2=>by
  have h2:k=x.length:=h2
  show (strSub x a x.length).cps.toList=_
  rw [strSub_toList,← h2]; exact (w9 _).symm
 | y::m,k,a,ha,h1,h2=>by
  obtain ⟨g1,g2⟩:=MB h1
  have h2:k+(m.length+1)=x.length:=h2
  have e:CF c (y::m) k=if y=c then k::CF c m (k+1) else CF c m (k+1):=rfl
  have e2:Cy c z.cps.toList (y::m)=if y=c then z.cps.toList++Cy c z.cps.toList m else y::Cy c z.cps.toList m:=rfl
  rw [e,e2]
  by_cases hc:y=c
  ·rw [wD hc,wD hc]
   have ih:=GX x z c m (k+1) (k+1) (vp _) g2 (by lia)
   show (Str.join z (strSub x a k::partsFrom x 1 (k+1) (CF c m (k+1)))).cps.toList=_
   obtain ⟨p,r,hp⟩:=partsFrom_ne x 1 (k+1) (CF c m (k+1))
   rw [hp] at ih ⊢
   rw [PH,Str.cps_append,Str.cps_append,yf,yf,ih,strSub_toList,Nat.sub_self,vj]; rfl
  ·rw [w2 hc,w2 hc]
   rw [GX x z c m (k+1) a (xj ha) g2 (by lia)]
   have:(x.cps.toList.drop a).take (k+1-a)=(x.cps.toList.drop a).take (k-a)++[y]:=by
    rw [Nat.succ_sub ha,y9,xu,Nat.add_sub_cancel' ha,g1]; rfl
   rw [this,vj]; rfl
theorem J9(c:Nat):∀ (m:zl) (k:Nat),(CF c m k).length≤m.length
 | [],_=>vp _
 | y::m,k=>by
  show (if y=c then k::CF c m (k+1) else CF c m (k+1)).length≤m.length+1
  have:=J9 c m (k+1)
  split
  ·exact xb this
  ·exact xj this
theorem Fg(c:Nat)(z:zl):∀ m:zl,(Cy c z m).length≤m.length*(z.length+1)
 | []=>yj _
 | y::m=>by
  show (if y=c then z++Cy c z m else y::Cy c z m).length≤(m.length+1)*(z.length+1)
  have:=Fg c z m
  rw [Nat.add_mul,Nat.one_mul]
  split
  ·rw [vn]; lia
  ·rw [vr]; lia
set_option tactic.hygienic true in
theorem JB{p:zv}{w:zt}{kt:KT}{s z:zl}{c:Nat}(hz:([c]==z)=false)(qz:z.length≤10)(hs:s.length≤1000):(KQ ⟨⟨s⟩⟩ ⟨⟨[c]⟩⟩ ⟨⟨z⟩⟩ ⟨⟨Cy c z s⟩⟩).Ok p w kt:=by
 have ho:occurrences ⟨⟨s⟩⟩ ⟨⟨[c]⟩⟩ 0 (⟨⟨s⟩⟩:Str).length ((⟨⟨s⟩⟩:Str).length+1)=CF c s 0:=Sv ⟨⟨s⟩⟩ c
 have hj:glued ⟨⟨z⟩⟩ (partsBetween ⟨⟨s⟩⟩ (CF c s 0) (⟨⟨[c]⟩⟩:Str).length)=⟨⟨Cy c z s⟩⟩:=by
  rw [glued_eq_join,partsBetween_eq]
  refine Str.ext' (zU.mp ?_)
  exact (GX ⟨⟨s⟩⟩ ⟨⟨z⟩⟩ c s 0 0 (vp _) rfl (zW _)).trans rfl
 have hl:=J9 c s 0
 have hr:=Fg c z s
 refine TH ?_ ?_ ?_ ?_
 ·refine Bool.eq_false_iff.mpr fun h=>?_
  have:=eq_of_beq h
  have:[c]=z:=vm (fun s:Str=>s.cps.toList) this
  rw [← this,yy] at hz; cases hz
 ·rw [ho]
  unfold Builtin.Str.tooLong sizeLine
  have h1:(⟨⟨s⟩⟩:Str).length=s.length:=rfl
  have h2:(⟨⟨z⟩⟩:Str).length=z.length:=rfl
  rw [h1,h2]
  have:(CF c s 0).length*z.length≤1000*10:=Nat.mul_le_mul (vv hl hs) qz
  exact wg (by lia)
 ·rw [ho]
  split
  ·rename_i h
   have e0:CF c s 0=[]:=by
    cases q:CF c s 0 with
    | nil=>rfl
    | cons a l=>rw [q] at h; cases h
   rw [e0,partsBetween_eq] at hj
   have:glued ⟨⟨z⟩⟩ (partsFrom ⟨⟨s⟩⟩ (⟨⟨[c]⟩⟩:Str).length 0 [])=⟨⟨s⟩⟩:=by
    rw [glued_eq_join]
    refine Str.ext' (zU.mp ?_)
    show (strSub ⟨⟨s⟩⟩ 0 _).cps.toList=s
    rw [strSub_toList]
    exact yG
   exact this.symm.trans hj
  ·exact hj
 ·exact vv hr (vv (Nat.mul_le_mul hs (xb qz)) (by decide:1000*11≤sizeLine))
theorem Ia:∀ s:zl,Cy 34 [34,34] s=Aa s
 | []=>rfl
 | c::s=>by
  show (if c=34 then [34,34]++Cy 34 [34,34] s else c::Cy 34 [34,34] s)=if c=34 then 34::34::Aa s else c::Aa s
  rw [Ia s]; rfl
theorem Jz:∀ s:zl,Cy 39 [39,34,39,34,39] s=F7 s
 | []=>rfl
 | c::s=>by
  show (if c=39 then [39,34,39,34,39]++Cy 39 [39,34,39,34,39] s else c::Cy 39 [39,34,39,34,39] s)=if c=39 then 39::34::39::34::39::F7 s else c::F7 s
  rw [Jz s]; rfl
theorem LO{s:zl}(hs:s.length≤1000):QJ s (Aa s):=fun {p w kt}=>by
 rw [← Ia]
 exact JB rfl (by decide) hs
end
section
open PySem PySem.W PySem.W.X
section
noncomputable def PA.pe(f:zl→zl):PA→PA
 | .leaf s=>.leaf (f s)
 | .node a t l r=>.node a t (l.pe f) (r.pe f)
section
variable{f:zl→zl}(hf:f []=[])
include hf
theorem IJ(L:List PA)(i:Nat):(L.map (PA.pe f)).getD i E7=(L.getD i E7).pe f:=by
 rw [wa,wa,wI]
 cases L[i]? with
 | none=>show E7=PA.leaf (f []); rw [hf]; rfl
 | some x=>rfl
theorem KZ(L:List PA)(p:Nat)(sw t:Bool)(a:Nat):(F6 L p sw t a).map (PA.pe f)=F6 (L.map (PA.pe f)) p sw t a:=by
 unfold F6
 rw [IJ hf,IJ hf,vl,vu,yD,xh]
 cases sw<;>rfl
theorem U4(s0 s1 s2 s3:zl)(c1 c2 c3:Kx):(Em s0 s1 s2 s3 c1 c2 c3).pe f=Em (f s0) (f s1) (f s2) (f s3) c1 c2 c3:=by
 unfold Em QT
 rw [← IJ hf,KZ hf,KZ hf,KZ hf]; rfl
end
structure o6(p q:PA):Prop where
 wt:p.wt=q.wt
 qa:p.qa=q.qa
 qX:p.qX=q.qX
 lines:p.lines=q.lines
 pg:p.pg=q.pg
 rk:p.rk=q.rk
theorem Bq:∀ p:PA,o6 p.er p
 | .leaf s=>⟨rfl,rfl,rfl,rfl,rfl,rfl⟩
 | .node a t l r=>by
  obtain ⟨a1,a2,a3,a4,a5,a6⟩:=Bq l
  obtain ⟨b1,b2,b3,b4,b5,b6⟩:=Bq r
  refine ⟨?_,?_,?_,?_,?_,?_⟩
  ·show (bif t then Qm l.er.wt r.er.wt else Qn l.er.wt r.er.wt)=_; rw [a1,b1]; rfl
  ·show max l.er.qa r.er.qa+1=_; rw [a2,b2]; rfl
  ·show l.er.qX+r.er.qX=_; rw [a3,b3]; rfl
  ·show (l.er.lines+r.er.lines+bif t then 0 else 1)=_; rw [a4,b4]; rfl
  ·show l.er.pg++r.er.pg=_; rw [a5,b5]; rfl
  ·cases t
   ·show RK.mk (l.er.rk.o*r.er.rk.o) (l.er.rk.z+r.er.rk.z-1) (Oh l.er.rk.m r.er.rk.m) (l.er.rk.r+r.er.rk.r)=_; rw [a6,b6]; rfl
   ·show RK.mk (l.er.rk.o*r.er.rk.o*(NF l.er.pg.length r.er.pg.length:Nat)) (l.er.rk.z*r.er.rk.z) (l.er.rk.m+r.er.rk.m) (Oh l.er.rk.r r.er.rk.r)=_; rw [a5,b5,a6,b6]; rfl
theorem OA:∀ {p:PA},p.er.ok→p.ok
 | .leaf s,_=>trivial
 | .node a t l r,⟨h1,h2,h3⟩=>by
  refine ⟨OA h1,OA h2,?_⟩
  rw [← (Bq l).wt,← (Bq r).wt]; exact h3
theorem Jt:∀ {p:PA},p.er.tok→p.tok
 | .leaf s,h=>h
 | .node a t l r,⟨h1,h2,h3⟩=>by
  refine ⟨Jt h1,Jt h2,?_⟩
  rw [← (Bq l).wt,← (Bq r).wt]; exact h3
theorem Kc:∀ {p:PA},p.er.sM→p.sM
 | .leaf s,h=>h
 | .node a t l r,⟨h1,h2,h3⟩=>by
  refine ⟨Kc h1,Kc h2,?_⟩
  rw [← (Bq l).rk,← (Bq r).rk,← (Bq l).pg,← (Bq r).pg]; exact h3
structure pK(p q:PA):Prop where
 qa:p.qa=q.qa
 qX:p.qX=q.qX
 lines:p.lines=q.lines
 tv:p.pg.length=q.pg.length
 rk:p.rk=q.rk
theorem D7(f:zl→zl):∀ p:PA,pK (p.pe f) p
 | .leaf s=>⟨rfl,rfl,rfl,rfl,rfl⟩
 | .node a t l r=>by
  obtain ⟨a2,a3,a4,a5,a6⟩:=D7 f l
  obtain ⟨b2,b3,b4,b5,b6⟩:=D7 f r
  refine ⟨?_,?_,?_,?_,?_⟩
  ·show max (l.pe f).qa (r.pe f).qa+1=_; rw [a2,b2]; rfl
  ·show (l.pe f).qX+(r.pe f).qX=_; rw [a3,b3]; rfl
  ·show ((l.pe f).lines+(r.pe f).lines+bif t then 0 else 1)=_; rw [a4,b4]; rfl
  ·show ((l.pe f).pg++(r.pe f).pg).length=(l.pg++r.pg).length; rw [vn,vn,a5,b5]
  ·cases t
   ·show RK.mk ((l.pe f).rk.o*(r.pe f).rk.o) ((l.pe f).rk.z+(r.pe f).rk.z-1) (Oh (l.pe f).rk.m (r.pe f).rk.m) ((l.pe f).rk.r+(r.pe f).rk.r)=_; rw [a6,b6]; rfl
   ·show RK.mk ((l.pe f).rk.o*(r.pe f).rk.o*(NF (l.pe f).pg.length (r.pe f).pg.length:Nat)) ((l.pe f).rk.z*(r.pe f).rk.z) ((l.pe f).rk.m+(r.pe f).rk.m) (Oh (l.pe f).rk.r (r.pe f).rk.r)=_; rw [a5,b5,a6,b6]; rfl
theorem Kb(f:zl→zl):∀ {p:PA},p.sM→(p.pe f).sM
 | .leaf s,h=>h
 | .node a t l r,⟨h1,h2,h3⟩=>by
  refine ⟨Kb f h1,Kb f h2,?_⟩
  rw [(D7 f l).rk,(D7 f r).rk,(D7 f l).tv,(D7 f r).tv]; exact h3
def U5:PA→Bool
 | .leaf _=>true
 | .node _ _ l r=>U5 l&&U5 r&&decide (l.rk.o.natAbs < 1024∧r.rk.o.natAbs < 1024∧(l.rk.o*r.rk.o).natAbs < 1024∧((NF l.pg.length r.pg.length:Nat):Int).natAbs < 1024∧l.rk.z.natAbs < 1024∧r.rk.z.natAbs < 1024∧l.pg.length+r.pg.length≤4)
theorem Ka:∀ {p:PA},U5 p=true→p.sM
 | .leaf _,_=>trivial
 | .node a t l r,h=>by
  obtain ⟨h,h3⟩:=vz.mp h
  obtain ⟨h1,h2⟩:=vz.mp h
  exact ⟨Ka h1,Ka h2,x7 h3⟩
noncomputable def Ze:PA→PA→Bool
 | .leaf s,.leaf s'=>s==s'
 | .node a t l r,.node a' t' l' r'=>Nat.beq a a'&&t==t'&&Ze l l'&&Ze r r'
 | _,_=>false
theorem KG:∀ {p q:PA},Ze p q=true→p=q
 | .leaf s,.leaf s',h=>vm _ (zG.mp h)
 | .node a t l r,.node a' t' l' r',h=>by
  obtain ⟨h,h4⟩:=vz.mp h
  obtain ⟨h,h3⟩:=vz.mp h
  obtain ⟨h1,h2⟩:=vz.mp h
  obtain rfl:=wq h1
  obtain rfl:=zG.mp h2
  rw [KG h3,KG h4]
noncomputable def Oi(X Y:List PA):List PA:=X.flatMap fun x=>Y.flatMap fun y=>[.node 0 false x y,.node 0 false y x,.node 0 true x y,.node 0 true y x]
noncomputable def lf(c:Nat):List PA:=[.leaf [c]]
def NB:List PA:=lf 0++lf 1++lf 2++lf 3++Oi (lf 0) (lf 1)++Oi (lf 1) (lf 2)++Oi (lf 2) (lf 3)++Oi (Oi (lf 0) (lf 1)) (lf 2)++Oi (lf 0) (Oi (lf 1) (lf 2))++Oi (Oi (lf 1) (lf 2)) (lf 3)++Oi (lf 1) (Oi (lf 2) (lf 3))
def Lu(n:Bool):PA→Bool
 | .leaf _=>n
 | .node _ _ x y=>NB.any (Ze x)&&NB.any (Ze y)
theorem O3:NB.all (Lu true)=true:=by decide +kernel
noncomputable def Zl:PA→Bool
 | .leaf [_]=>true
 | .leaf _=>false
 | .node a _ l r=>Nat.beq a 0&&Zl l&&Zl r
def Wr(p:PA):Bool:=Lu false p&&U5 p&&Nat.ble p.qa 3&&Nat.ble p.lines 3&&Nat.beq p.qX 4&&Nat.ble p.pg.length 60&&Zl p
theorem Zv:((nums 3).all fun c1=>(nums 2).all fun c2=>(nums 1).all fun c3=>Wr (fZ c1 c2 c3))=true:=by decide +kernel
theorem MM{x:PA}(h:NB.any (Ze x)=true):x∈NB:=by
 obtain ⟨y,m,e⟩:=yZ.mp h
 rw [KG e]; exact m
noncomputable def fO:List (zl):=[[97,39],[97,34],[97,32],[100,39],[100,34],[100,32]]
def nU:zl→Bool
 | y::l=>Nat.beq y 32&&iI.contains l.length
 | []=>false
def WE:zl→Bool
 | x::l=>bif Nat.beq x 34 then f7.contains l.length else bif Nat.beq x 61 then nU l else fO.contains (x::l)
 | []=>false
def mU(s:zl):Bool:=Fv s&&Nat.ble s.length 100&&match s with
 | [_]=>true
 | s=>WE s
def fL(t0 t1:zl):zl→zl
 | []=>[]
 | c::_=>cI t0 t1 c
theorem aY:(Ju.all fun t0=>Ju.all fun t1=>NB.all fun p=>mU (p.pe (fL t0 t1)).wt)=true:=by decide +kernel
section
variable{w:zt}{b2:Bool}
theorem oV{r:zl}:fO.map (fun s=>Hn w b2 (fun q=>Eg s (39::(r++[39]))) (fun q=>K9 s r) 3 (fun q q=>[]) [] [] (hD 3 14 1594605) 3 [0,0] 1)=fO.map (fun s=>Hm w b2 (fun q=>Eg s (39::(r++[39]))) (fun q=>fun q=>Eg s (39::(r++[39]))) (fun q=>K9 s r) 3 (fun q q=>[]) [] [] (hD 3 14 1594605) 3 [0,0] 1):=by kernel_rfl
end
theorem Mm{w:zt}{b2:Bool}{s r:zl}(h:WE s=true):Hn w b2 (fun q=>Eg s (39::(r++[39]))) (fun q=>K9 s r) 3 (fun q q=>[]) [] [] (hD 3 14 1594605) 3 [0,0] 1=Hm w b2 (fun q=>Eg s (39::(r++[39]))) (fun q=>fun q=>Eg s (39::(r++[39]))) (fun q=>K9 s r) 3 (fun q q=>[]) [] [] (hD 3 14 1594605) 3 [0,0] 1:=by
 cases s with
 | nil=>cases h
 | cons x l=>
  have h:(bif Nat.beq x 34 then f7.contains l.length else bif Nat.beq x 61 then nU l else fO.contains (x::l))=true:=h
  cases e:Nat.beq x 34 with
  | true=>
   rw [e] at h
   obtain rfl:=wq e
   exact iH (xW.mp h)
  | false=>
   rw [e] at h
   cases e2:Nat.beq x 61 with
   | true=>
    rw [e2] at h
    obtain rfl:=wq e2
    cases l with
    | nil=>cases h
    | cons y l=>
     obtain ⟨e3,h⟩:=vz.mp h
     obtain rfl:=wq e3
     exact iG (xW.mp h)
   | false=>
    rw [e2] at h
    exact wU.mp oV _ (xW.mp h)
structure fj(s:zl):Prop where
 w:Fv s=true
 l:s.length≤100
 q:NG s (An s)
theorem Nh:∀ s:zl,(F7 s).length≤6*s.length:=fun s=>by
 rw [← Jz]
 exact vv (Fg 39 [39,34,39,34,39] s) (wx (Nat.mul_comm _ _))
theorem MD(s:zl):(Aa s).length≤3*s.length:=by
 rw [← Ia]
 exact vv (Fg 34 [34,34] s) (wx (Nat.mul_comm _ _))
theorem XE{s:zl}(h:mU s=true):fj s:=by
 obtain ⟨h,h3⟩:=vz.mp h
 obtain ⟨h1,h2⟩:=vz.mp h
 have h2:=w8 h2
 refine ⟨h1,h2,fun {St w b b2 I}=>?_⟩
 match s,h1,h3,h2 with
 | [c],h1,_,_=>
  exact LR (.tail _ (xW.mp h1))
 | x::y::s,_,h3,h2=>
  refine SH (Mm h3) (fun {p w kt}=>?_) ?_
  ·rw [← Jz]
   exact JB rfl (by decide) (vv h2 (by decide))
  ·have:=Nh (x::y::s)
   exact vv (yB (vv this (xG 6 h2)) 2) (by decide)
theorem LQ{s:zl}(h:s.length≤100):(An s).length≤700:=by
 have k:(39::(F7 s++[39])).length≤700:=by
  rw [vr,vn]
  exact xb (xb (vv (Nh s) (vv (xG 6 h) (by decide))))
 rcases s with _ | ⟨c,_ | ⟨d,s⟩⟩
 ·exact k
 ·exact (by decide:1≤700)
 ·exact k
section
variable{t0 t1:zl}(h0:t0∈Ju)(h1:t1∈Ju)
include h0 h1
theorem LD{p:PA}(m:p∈NB):fj (p.pe (fL t0 t1)).wt:=XE (wG.mp (wG.mp (wG.mp aY t0 h0) t1 h1) p m)
theorem P4(c:Nat)(hc:c < 4):fL t0 t1 [c]∈pg:=
 have:(Ju.all fun t0=>Ju.all fun t1=>(List.range 4).all fun c=>pg.contains (fL t0 t1 [c]))=true:=by decide +kernel
 xW.mp (wG.mp (wG.mp (wG.mp this t0 h0) t1 h1) c (yo.mpr hc))
theorem Oc{a:Nat}{t:Bool}{x y:PA}(hx:fj x.wt)(hy:fj y.wt)(ox:x.ok∧x.tok)(oy:y.ok∧y.tok):(PA.node a t x y).ok∧(PA.node a t x y).tok:=by
 have q1:=LQ hx.l
 have q2:=LQ hy.l
 have d1:=vv (MD x.wt) (xG 3 hx.l)
 have d2:=vv (MD y.wt) (xG 3 hy.l)
 have hq:(An x.wt).length+(An y.wt).length+8≤sizeLine:=vv (yB (xq q1 q2) 8) (by decide)
 have hd:∀ n≤30,(Aa x.wt).length+(Aa y.wt).length+n≤sizeLine:=fun n hn=>vv (xq (xq d1 d2) hn) (by decide)
 have ne:∀ {s:zl},Fv s=true→s≠[]:=fun h e=>by subst e; cases h
 cases t with
 | false=>exact ⟨⟨ox.1,oy.1,hx.q,hy.q,hq⟩,ox.2,oy.2,XD hx.w hy.w hq⟩
 | true=>exact ⟨⟨ox.1,oy.1,LO (vv hx.l (by decide)),LO (vv hy.l (by decide)),hd 8 (by decide)⟩,ox.2,oy.2,XO (ne hx.w) (ne hy.w) (vv hy.l (by decide)) (hd 30 (by decide))⟩
theorem Ls{b:Bool}{a:Nat}{t:Bool}{x y:PA}(h:Lu b (.node a t x y)=true):x∈NB∧y∈NB:=(vz.mp h).imp MM MM
theorem O0{s:zl}(m:PA.leaf s∈NB):∃ c,c < 4∧s=[c]:=by
 have:(NB.all fun p=>match p with
  | .leaf [c]=>Nat.blt c 4
  | .leaf _=>false
  | _=>true)=true:=by decide +kernel
 have h:=wG.mp this _ m
 match s,h with
 | [c],h=>exact ⟨c,w8 h,rfl⟩
theorem Hz:∀ (p:PA),p∈NB→(p.pe (fL t0 t1)).ok∧(p.pe (fL t0 t1)).tok
 | .leaf s,m=>by
  obtain ⟨c,hc,rfl⟩:=O0 h0 h1 m
  exact ⟨trivial,P4 h0 h1 c hc⟩
 | .node a t x y,m=>by
  obtain ⟨mx,my⟩:=Ls h0 h1 (wG.mp O3 _ m)
  exact Oc h0 h1 (LD h0 h1 mx) (LD h0 h1 my) (Hz x mx) (Hz y my)
theorem NL{a:Nat}{t:Bool}{x y:PA}(h:Lu false (.node a t x y)=true):((PA.node a t x y).pe (fL t0 t1)).ok∧((PA.node a t x y).pe (fL t0 t1)).tok:=by
 obtain ⟨mx,my⟩:=Ls h0 h1 h
 exact Oc h0 h1 (LD h0 h1 mx) (LD h0 h1 my) (Hz h0 h1 x mx) (Hz h0 h1 y my)
end
end
noncomputable def ll:Expr→Expr
 | .BinOp l _ _ _=>l
 | e=>e
def WB(P:zp)(i:Nat):Stmt:=(CM (EW (OY P))).getD i (.Pass default)
def kV(v:Bool)(P:zp):Expr:=bif v then VU (WB P 1) else ll (VU (WB P 0))
def WR(v:Bool)(P:zp)(aK fr:Nat):Env:={ scope:=G9 (Nm (kV v P)),locals:=aK,globals:=3,cells:=[],qual:=Str.ofString "law.<locals>.",func:=none,code:=.ref 972,frame:=some fr,builtins:=0 }
def Cf(v:Bool)(P:zp)(aI aA aK fr:Nat):Code:=.compLoop (kV v P) 0 (.ref aI) (.ref aA) (WR v P aK fr)
def Hs(v:Bool)(P:zp)(aI aA aK fr:Nat):Code:=.compStart (kV v P) 0 (.ref aI) (.ref aA) (WR v P aK fr)
def kX(P:zp):Option Int→Obj
 | none=>BE [] 0
 | some x=>BE [kE P "x" (.int x 0)] 1
def oA:zu:=.seq #[sv "",sv "'",sv "\"",sv " "] 0
def gE(P:zp)(aI aX aA aK:Nat)(fr:Nat)(DX DA:zu):Spec:=⟨Hs false P aI aA aK fr,[aI,aX,aA,aK],[AV aX 0,A0 DX,A0 DA,kX P none],fun A=>.fin (.again (Cf false P aI aA aK fr)),fun A=>[AV aX 0,A0 DX,A0 DA,kX P none],fun A=>[]⟩
variable{St:zc}(w:zt)(b b2:Bool)
theorem Qf(aI aX aA aK:Nat)(fr:Nat)(DX DA:zu)(I:zd):(gE w.2 aI aX aA aK fr DX DA).PI w b b2 1 St I:=G8 (fun D=>gE w.2 aI aX aA aK fr (gD D 0) (gD D 1)) (fun D l=>gE w.2 aI aX aA aK fr (gD D 0) (gD D 1)) (fun D=>(Ag [])) 0 [] [false,true,true,false] (fun b2=>bif b2 then [] else [1,1,1,1]) (fun q=>1000000) (fun q=>[]) 0 [DX,DA] fun E0 ke=>.pO ke rfl
def gB(P:zp)(aI aX aA aK:Nat)(fr i:Nat)(o:Option Int)(x:Int)(DX DA qC:zu):Spec:=⟨Cf false P aI aA aK fr,[aI,aX,aA,aK],[AV aX i,A0 DX,A0 DA,kX P o],fun A=>.fin (.again (Cf false P aI aA aK fr)),fun A=>[AV aX ((i:Int)+1),A0 DX,A0 qC,kX P (some x)],fun A=>[]⟩
theorem Qd(aI aX aA aK:Nat)(fr i:Nat)(o:Option Int)(x:Int)(DX DA qC:zu)(xs:zf)(ex:Nat)(hX:DX=.seq ⟨xs⟩ ex)(hi:xs[i]?=some (.int x 0))(vs:zf)(e:Nat)(hA:DA=.seq ⟨vs⟩ e)(sI:qC=.seq ⟨vs++[.int (x.fmod 24) 0]⟩ (e+1))(hs:vs.length≤1000)(I:zd):(gB w.2 aI aX aA aK fr i o x DX DA qC).PI w b b2 1 St I:=Ae (Cs.oo o 0) (fun z D=>gB w.2 aI aX aA aK fr i z x (gD D 0) (gD D 1) qC) (fun z D l=>gB w.2 aI aX aA aK fr i z x (gD D 0) (gD D 1) (ud l 0 0)) (fun z D=>(Ag [Au 0 1 i (gD D 0) (.int x 0),Dn 2 (gD D 1) qC (.int (x.fmod 24) 0)])) 2 (fun z=>[]) [false,true,true,false] [1,4,4,4] 0 [1] 0 [DX,DA] fun E0 ke=>.q (AQ hX hi) fun y y y=>.cons (Av hA sI (by have:=AD; lia)) fun u1 y g1=>.pO ke (@id (eD (u1.d 0)=qC) (g1.1.1) ▸ rfl)
def fx(P:zp)(aI aX aA aK:Nat)(fr i:Nat)(o:Option Int)(DX r4 DA:zu):Spec:=⟨Cf false P aI aA aK fr,[aI,aX,aA,aK],[AV aX i,A0 DX,A0 DA,kX P o],fun A=>.fin (.done .next),fun A=>[Bn i,A0 r4,A0 DA,kX P o],fun A=>[]⟩
theorem Qb(aI aX aA aK:Nat)(fr i:Nat)(o:Option Int)(DX r4 DA:zu)(xs:zf)(ex:Nat)(hX:DX=.seq ⟨xs⟩ ex)(hi:xs.length≤i)(eX:r4=DX)(I:zd):(fx w.2 aI aX aA aK fr i o DX r4 DA).PI w b b2 1 St I:=Ae (Cs.oo o 0) (fun z D=>fx w.2 aI aX aA aK fr i z (gD D 0) r4 (gD D 1)) (fun z D l=>fx w.2 aI aX aA aK fr i z (gD D 0) (ud l 0 2) (gD D 1)) (fun z D=>(Ag [BM "list_iterator.__next__" 0 1 (fun X=>AV (A4 X 1) i) (Bn i) (A0 (gD D 0))])) 1 (fun z=>[]) [false,true,true,false] [1,6] 0 [] 1 [DX,DA] fun E0 ke=>.cons (Ay (by decide) hX hi) fun u0 q g0=>.pO ke (@id (eD (u0.d 2)=r4) (g0.1.1.trans eX.symm) ▸ rfl)
def gC(P:zp)(aI aX aA aK:Nat)(fr:Nat)(DX DA:zu):Spec:=⟨Hs true P aI aA aK fr,[aI,aX,aA,aK],[AV aX 0,A0 DX,A0 DA,kX P none],fun A=>.fin (.again (Cf true P aI aA aK fr)),fun A=>[AV aX 0,A0 DX,A0 DA,kX P none],fun A=>[]⟩
theorem Qe(aI aX aA aK:Nat)(fr:Nat)(DX DA:zu)(I:zd):(gC w.2 aI aX aA aK fr DX DA).PI w b b2 1 St I:=G8 (fun D=>gC w.2 aI aX aA aK fr (gD D 0) (gD D 1)) (fun D l=>gC w.2 aI aX aA aK fr (gD D 0) (gD D 1)) (fun D=>(Ag [])) 0 [] [false,true,true,false] (fun b2=>bif b2 then [] else [1,1,1,1]) (fun q=>1000000) (fun q=>[]) 0 [DX,DA] fun E0 ke=>.pO ke rfl
def gA(P:zp)(aI aX aA aK:Nat)(fr i:Nat)(o:Option Int)(x:Int)(X:Str)(DX DA qC:zu):Spec:=⟨Cf true P aI aA aK fr,[aI,aX,aA,aK],[AV aX i,A0 DX,A0 DA,kX P o],fun A=>.fin (.again (Cf true P aI aA aK fr)),fun A=>[AV aX ((i:Int)+1),A0 DX,A0 qC,kX P (some x)],fun A=>[]⟩
theorem Qc(aI aX aA aK:Nat)(fr i:Nat)(o:Option Int)(x:Int)(X:Str)(DX DA qC:zu)(xs:zf)(ex:Nat)(hX:DX=.seq ⟨xs⟩ ex)(hi:xs[i]?=some (.int x 0))(vs:zf)(e:Nat)(hA:DA=.seq ⟨vs⟩ e)(sI:qC=.seq ⟨vs++[.str X 0]⟩ (e+1))(hs:vs.length≤1000)(m0:0≤x.fmod 4)(m1:([sv "",sv "'",sv "\"",sv " "]:zf)[(x.fmod 4).toNat]?=some (.str X 0))(I:zd):(gA w.2 aI aX aA aK fr i o x X DX DA qC).PI w b b2 1 St I:=Ae (Cs.oo o 0) (fun z D=>gA w.2 aI aX aA aK fr i z x X (gD D 0) (gD D 1) qC) (fun z D l=>gA w.2 aI aX aA aK fr i z x X (gD D 0) (gD D 1) (ud l 0 0)) (fun z D=>(Ag [Au 0 1 i (gD D 0) (.int x 0),TV 4 oA (x.fmod 4) (.str X 0),Dn 2 (gD D 1) qC (.str X 0)])) 3 (fun z=>[]) [false,true,true,false] [1,4,4,4,5,5,5] 0 [1,1] 0 [DX,DA] fun E0 ke=>.q (AQ hX hi) fun y y y=>.q (IC (w:=wf w b b2) rfl m0 m1 (by simp)) fun y y y=>.cons (Av hA sI (by have:=AD; lia)) fun u2 y g2=>.pO ke (@id (eD (u2.d 0)=qC) (g2.1.1) ▸ rfl)
def fw(P:zp)(aI aX aA aK:Nat)(fr i:Nat)(o:Option Int)(DX r4 DA:zu):Spec:=⟨Cf true P aI aA aK fr,[aI,aX,aA,aK],[AV aX i,A0 DX,A0 DA,kX P o],fun A=>.fin (.done .next),fun A=>[Bn i,A0 r4,A0 DA,kX P o],fun A=>[]⟩
theorem Qa(aI aX aA aK:Nat)(fr i:Nat)(o:Option Int)(DX r4 DA:zu)(xs:zf)(ex:Nat)(hX:DX=.seq ⟨xs⟩ ex)(hi:xs.length≤i)(eX:r4=DX)(I:zd):(fw w.2 aI aX aA aK fr i o DX r4 DA).PI w b b2 1 St I:=Ae (Cs.oo o 0) (fun z D=>fw w.2 aI aX aA aK fr i z (gD D 0) r4 (gD D 1)) (fun z D l=>fw w.2 aI aX aA aK fr i z (gD D 0) (ud l 0 2) (gD D 1)) (fun z D=>(Ag [BM "list_iterator.__next__" 0 1 (fun X=>AV (A4 X 1) i) (Bn i) (A0 (gD D 0))])) 1 (fun z=>[]) [false,true,true,false] [1,6] 0 [] 1 [DX,DA] fun E0 ke=>.cons (Ay (by decide) hX hi) fun u0 q g0=>.pO ke (@id (eD (u0.d 2)=r4) (g0.1.1.trans eX.symm) ▸ rfl)
section
noncomputable def JM:List Int→Option Int→Option Int
 | [],o=>o
 | x::l,_=>JM l (some x)
noncomputable def BW(xs:List Int):zf:=xs.map fun x=>.int x 0
noncomputable def o9:Int→Option Str
 | 0=>some ⟨⟨[]⟩⟩
 | 1=>some ⟨⟨[39]⟩⟩
 | 2=>some ⟨⟨[34]⟩⟩
 | 3=>some ⟨⟨[32]⟩⟩
 | _=>none
def MQ(x:Int):Str:=(o9 (x.fmod 4)).getD ⟨⟨[]⟩⟩
def yV(v:Bool)(x:Int):zq:=bif v then .str (MQ x) 0 else .int (x.fmod 24) 0
def yL(P:zp)(aI aX aA aK:Nat)(It:Obj)(xs:List Int)(ex:Nat)(r:zf)(o:Option Int):Lp:=[(aI,It),(aX,A0 (.seq ⟨BW xs⟩ ex)),(aA,A0 (.seq ⟨r⟩ r.length)),(aK,kX P o)]
theorem Vr(x:Int):0≤x.fmod 4∧([sv "",sv "'",sv "\"",sv " "]:zf)[(x.fmod 4).toNat]?=some (.str (MQ x) 0):=by
 have h0:0≤x.fmod 4:=yu x (by decide)
 have h1:x.fmod 4 < 4:=zM x (by decide)
 refine ⟨h0,?_⟩
 unfold MQ
 rcases (by lia:x.fmod 4=0∨x.fmod 4=1∨x.fmod 4=2∨x.fmod 4=3) with e | e | e | e<;>rw [e]<;>rfl
section
variable{w:zt}{b b2:Bool}{St:zc}(v:Bool)(aI aX aA aK fr:Nat)(xs:List Int)(ex:Nat)(R:Lp)
theorem Wi{i:Nat}{x:Int}(hi:xs[i]?=some x)(o:Option Int)(hs:xs.length≤900) :
  AO w b b2 1 St (Cf v w.2 aI aA aK fr) (fun L=>L.Perm (yL w.2 aI aX aA aK (AV aX i) xs ex ((xs.take i).map (yV v)) o++R))
   (fun e L=>e=.fin (.again (Cf v w.2 aI aA aK fr))∧L.Perm (yL w.2 aI aX aA aK (AV aX ((i+1:Nat):Int)) xs ex ((xs.take (i+1)).map (yV v)) (some x)++R)):=by
 have hv:(BW xs)[i]?=some (.int x 0):=by unfold BW; rw [wI,hi]; rfl
 have ht:(xs.take (i+1)).map (yV v)=(xs.take i).map (yV v)++[yV v x]:=by rw [y9,hi,vl]; rfl
 have hl:((xs.take i).map (yV v)).length≤1000:=by rw [vh,xp]; lia
 rw [ht]
 generalize (xs.take i).map (yV v)=us at hl
 have e2:Data.seq ⟨us++[yV v x]⟩ (us++[yV v x]).length=.seq ⟨us++[yV v x]⟩ (us.length+1):=by rw [vn]; rfl
 cases v with
 | false=>exact (Qd (St:=St) w b b2 aI aX aA aK fr i o x (.seq ⟨BW xs⟩ ex) (.seq ⟨us⟩ us.length) _ _ _ rfl hv us us.length rfl e2 hl (fun L=>L=R)).kp (fun L p=>p) fun A1=>⟨_,.refl _,rfl,.refl _⟩
 | true=>exact (Qc (St:=St) w b b2 aI aX aA aK fr i o x (MQ x) (.seq ⟨BW xs⟩ ex) (.seq ⟨us⟩ us.length) _ _ _ rfl hv us us.length rfl e2 hl (Vr x).1 (Vr x).2 (fun L=>L=R)).kp (fun L p=>p) fun A1=>⟨_,.refl _,rfl,.refl _⟩
theorem Zs{i:Nat}(hi:xs.length≤i)(r:zf)(o:Option Int):AO w b b2 1 St (Cf v w.2 aI aA aK fr) (fun L=>L.Perm (yL w.2 aI aX aA aK (AV aX i) xs ex r o++R)) (fun e L=>e=.fin (.done .next)∧L.Perm (yL w.2 aI aX aA aK (Bn i) xs ex r o++R)):=by
 have hi:(BW xs).length≤i:=by unfold BW; rw [vh]; exact hi
 cases v with
 | false=>exact (Qb (St:=St) w b b2 aI aX aA aK fr i o (.seq ⟨BW xs⟩ ex) _ (.seq ⟨r⟩ r.length) _ _ rfl hi rfl (fun L=>L=R)).kp (fun L p=>p) fun A1=>⟨_,.refl _,rfl,.refl _⟩
 | true=>exact (Qa (St:=St) w b b2 aI aX aA aK fr i o (.seq ⟨BW xs⟩ ex) _ (.seq ⟨r⟩ r.length) _ _ rfl hi rfl (fun L=>L=R)).kp (fun L p=>p) fun A1=>⟨_,.refl _,rfl,.refl _⟩
theorem Wj(hs:xs.length≤900):∀ (n i:Nat) (o:Option Int),i+n=xs.length→
  AO w b b2 1 St (Cf v w.2 aI aA aK fr) (fun L=>L.Perm (yL w.2 aI aX aA aK (AV aX i) xs ex ((xs.take i).map (yV v)) o++R))
   (fun e L=>e=.fin (.done .next)∧L.Perm (yL w.2 aI aX aA aK (Bn (xs.length:Nat)) xs ex (xs.map (yV v)) (JM (xs.drop i) o)++R)):=by
 intro n
 induction n with
 | zero=>
  intro i o hi
  have hi:i=xs.length:=by lia
  subst hi
  rw [xC,yG]
  exact Zs v aI aX aA aK fr xs ex R (vp _) _ o
 | succ n ih=>
  intro i o hi
  have hlt:i < xs.length:=Ap hi
  rw [wH hlt]
  exact AK.go (fun q q q h=>h) (by cases v<;>kernel_rfl) (Wi (w:=w) (b:=b) (b2:=b2) v aI aX aA aK fr xs ex R (w0 hlt) o hs) (ih (i+1) (some xs[i]) (Ci hi))
def yS(v:Bool)(P:zp)(aI aX aA aK fr:Nat)(DX DR DI:zu)(o:Option Int):Spec:=
 ⟨Hs v P aI aA aK fr,[aI,aX,aA,aK],[AV aX 0,A0 DX,A0 (.seq #[] 0),BE [] 0],fun q=>.fin (.done .next),fun q=>[QX DI,A0 DX,A0 DR,kX P o],fun q=>[]⟩
theorem Zt{DX:zu}(hX:DX=.seq ⟨BW xs⟩ ex)(hs:xs.length≤900) :
  (yS v w.2 aI aX aA aK fr DX (.seq ⟨xs.map (yV v)⟩ (xs.map (yV v)).length) (Bn (xs.length:Nat)).data (JM xs none)).PI w b b2 1 St (fun L=>L=R):=by
 subst hX
 have h1:=Wj (w:=w) (b:=b) (b2:=b2) (St:=St) v aI aX aA aK fr xs ex R hs xs.length 0 none (by lia)
 have hz:AO w b b2 1 St (Hs v w.2 aI aA aK fr) (fun L=>∃ P,P=R∧L=[(aI,AV aX 0),(aX,A0 (.seq ⟨BW xs⟩ ex)),(aA,A0 (.seq #[] 0)),(aK,BE [] 0)]++P) (fun e L=>e=.fin (.done .next)∧L.Perm (yL w.2 aI aX aA aK (Bn (xs.length:Nat)) xs ex (xs.map (yV v)) (JM xs none)++R)):=by
  cases v with
  | false=>exact Spec.pP.tT (M:=fun L=>L.Perm (yL w.2 aI aX aA aK (AV aX ((0:Nat):Int)) xs ex ((xs.take 0).map (yV false)) none++R)) (Qf (St:=St) w b b2 aI aX aA aK fr (.seq ⟨BW xs⟩ ex) (.seq #[] 0) (fun L=>L=R)) (fun q q q h=>h) (by kernel_rfl) (fun q=>rfl) (fun q=>⟨_,.refl _,.refl _⟩) h1
  | true=>exact Spec.pP.tT (M:=fun L=>L.Perm (yL w.2 aI aX aA aK (AV aX ((0:Nat):Int)) xs ex ((xs.take 0).map (yV true)) none++R)) (Qe (St:=St) w b b2 aI aX aA aK fr (.seq ⟨BW xs⟩ ex) (.seq #[] 0) (fun L=>L=R)) (fun q q q h=>h) (by kernel_rfl) (fun q=>rfl) (fun q=>⟨_,.refl _,.refl _⟩) h1
 refine AK.sR hz ?_ ?_
 ·rintro P rfl
  exact ⟨_,.refl _,_,rfl,rfl⟩
 ·rintro e L ⟨rfl,p⟩
  exact ⟨fun q=>0,R,rfl,rfl,p⟩
end
end
end
section
open PySem PySem.W PySem.W.X PyProof.Rows PySem.SeqAt
section
theorem Hk(c:Code):c.cUnits≤10:=by
 have h:c.frames≤3:=He c
 cases c with
 | builtin id a=>exact xk (xG 3 h) 1
 | call f a=>exact (by decide:1≤10)
 | _=>exact xj (xG 3 h)
theorem Fw:∀ l:List (Code×Pos),unitsOf l≤10*l.length
 | []=>vp _
 | (c,p)::l=>by
  rw [unitsOf_cons]
  have:=Hk c
  have:=Fw l
  rw [vr]; lia
noncomputable def gw:Pos→ze→Prop:=fun pc pN=>∃ k g l cd rest,pN=Frame.ret k none g l cd pc []::rest∧rest.length≤11
theorem VM{w:zt}{f:zq}{as:zf}{Pre:zd}{pQ:End→Lp→Prop}
  (h:∀ (vs:zf) (A:Around) (s:zr) (L:Lp),Pre L→vs.map eV=as→BA (A5 w.2) s L→A.units≤200→∀ (Q E:zq→zr→Prop),(∀ v s' L',pQ (.fin (.done (.ret (eV v)))) L'→BA (A5 w.2) s' L'→Fr s s' L L'→Q v s')→wpAny (model pw w) A (call f vs) Q E s):DZ w gw (.call f ⟨as,[]⟩) Pre pQ:=by
 intro c s pc pN L hp hc H hs
 obtain ⟨vs,rfl,e⟩:=Ak hc
 obtain ⟨k,g,l,cd,rest,rfl,hr⟩:=hs
 have hu:(QD cd rest).units≤200:=by
  show cd.cUnits+unitsOf (rest.map Frame.where_)≤200
  have h1:=Hk cd
  have h2:=Fw (rest.map Frame.where_)
  rw [vh] at h2
  lia
 exact CQ (c:=.call f ⟨vs,[]⟩) (h vs (QD cd rest) s L hp e H hu (fun v s'=>∃ L',pQ (.fin (.done (.ret (eV v)))) L'∧BA (A5 w.2) s' L'∧Fr s s' L L') (fun q q=>False) fun v s' L' a b c=>⟨L',a,b,c⟩) (fun v s' _ _ ⟨L',a,b,c⟩ go=>⟨.fin (.done (.ret v)),s',L',_,_,go,a,b,c⟩) (fun q q q q h=>h.elim)
def EV(A:Around)(s:zr)(v1 v2:zq):Prop:=∀ x y,eV x=v1→eV y=v2→EqAt A s x y true
section
variable{A:Around}{s:zr}{kt:KT}{L:Lp}{t1 t2 n1 n2:Nat}{V1 V2:zf}
theorem EV.str(X:Str):EV A s (.str X 0) (.str X 0):=fun x y h1 h2=>by
 obtain ⟨t,rfl⟩:=AX h1
 obtain ⟨u,rfl⟩:=AX h2
 have:=EqAt.str_str (A:=A) (s:=s) X t X u
 rwa [yy] at this
theorem EV.int(i:Int):EV A s (.int i 0) (.int i 0):=fun x y h1 h2=>by
 obtain ⟨t,rfl⟩:=E4 h1
 obtain ⟨u,rfl⟩:=E4 h2
 have:=EqAt.int_int (A:=A) (s:=s) i t i u
 rwa [yy] at this
theorem EV.at{xs ys:Array zq}(h1:xs.toList.map eV=V1)(h2:ys.toList.map eV=V2)(he:∀ (j:Nat) v1 v2,V1[j]?=some v1→V2[j]?=some v2→EV A.in1 s v1 v2)(j:Nat)(q1:j < xs.size)(q2:j < ys.size):EqAt A.in1 s xs[j] ys[j] true:=by
 have k1:=Fe h1 j
 have k2:=Fe h2 j
 rw [xE q1] at k1
 rw [xE q2] at k2
 exact he j _ _ k1.symm k2.symm _ _ rfl rfl
theorem EV.lst(H:BA kt s L)(m1:(t1,A0 (.seq ⟨V1⟩ n1))∈L)(m2:(t2,A0 (.seq ⟨V2⟩ n2))∈L)(hl:V1.length=V2.length)(hu:A.units < cLine)(he:∀ (j:Nat) v1 v2,V1[j]?=some v1→V2[j]?=some v2→EV A.in1 s v1 v2):EV A s (.ref t1) (.ref t2):=fun x y h1 h2=>by
 obtain rfl:=B3 h1
 obtain rfl:=B3 h2
 by_cases e:t1=t2
 ·subst e; exact EqAt.same _
 ·obtain ⟨o1,g1,e1⟩:=H.own _ m1
  obtain ⟨o2,g2,e2⟩:=H.own _ m2
  obtain ⟨x1,rfl,y1⟩:=Ai e1
  obtain ⟨x2,rfl,y2⟩:=Ai e2
  have r:=EqAt.of_refs e (RcAt.lists (A:=A) (s:=s) (e:=fun q=>true) ⟨_,g1,rfl,_,rfl⟩ ⟨_,g2,rfl,_,rfl⟩ (by rw [AY y1,AY y2,hl]) hu (EV.at y1 y2 he))
  rwa [show ((List.range x1.size).all fun q=>true)=true by simp] at r
theorem EV.tup(H:BA kt s L)(m1:(t1,AG (.seq ⟨V1⟩ n1))∈L)(m2:(t2,AG (.seq ⟨V2⟩ n2))∈L)(hl:V1.length=V2.length)(hu:A.units < cLine)(he:∀ (j:Nat) v1 v2,V1[j]?=some v1→V2[j]?=some v2→EV A.in1 s v1 v2):EV A s (.ref t1) (.ref t2):=fun x y h1 h2=>by
 obtain rfl:=B3 h1
 obtain rfl:=B3 h2
 by_cases e:t1=t2
 ·subst e; exact EqAt.same _
 ·obtain ⟨o1,g1,e1⟩:=H.own _ m1
  obtain ⟨o2,g2,e2⟩:=H.own _ m2
  obtain ⟨x1,rfl,y1⟩:=Cd e1
  obtain ⟨x2,rfl,y2⟩:=Cd e2
  have r:=EqAt.of_refs e (RcAt.tuples (A:=A) (s:=s) (e:=fun q=>true) ⟨_,g1,rfl,_,rfl⟩ ⟨_,g2,rfl,_,rfl⟩ hu (EV.at y1 y2 he))
  rwa [show ((List.range (min x1.size x2.size)).all (fun q=>true)&&x1.size==x2.size)=true by rw [AY y1,AY y2,hl]; simp] at r
theorem EV.all:∀ {V:zf} (h:∀ v∈V,EV A.in1 s v v) (j:Nat) v1 v2,V[j]?=some v1→V[j]?=some v2→EV A.in1 s v1 v2:=fun h j v1 v2 h1 h2=>by
 rw [h1] at h2; cases h2
 exact h _ (wW h1)
theorem lN(j:Nat)(v1 v2:zq)(h1:([]:zf)[j]?=some v1)(h2:([]:zf)[j]?=some v2):EV A s v1 v2:=by cases h1
theorem Z0{x y:zq}(h:EV A s x y)(k:∀ (j:Nat) v1 v2,V1[j]?=some v1→V2[j]?=some v2→EV A s v1 v2)(j:Nat)(v1 v2:zq)(h1:(x::V1)[j]?=some v1)(h2:(y::V2)[j]?=some v2):EV A s v1 v2:=by
 cases j with
 | zero=>cases h1; cases h2; exact h
 | succ j=>exact k j v1 v2 h1 h2
end
def lP(t1 l1 u1 q1 t2 l2 u2 q2:Nat)(wy sets most rounds:Int)(D1 D2:zu):Spec:=
 ⟨.call (.builtin "tuple.__eq__") ⟨[.ref t1,.ref t2],[]⟩,[t1,l1,u1,q1,t2,l2,u2,q2],[AG (.seq #[.ref l1,.int sets 0,.int most 0,.int rounds 0] 0),A0 (.seq #[.ref u1] 1),AG (.seq #[.ref q1,.int wy 0] 0),A0 D1,AG (.seq #[.ref l2,.int sets 0,.int most 0,.int rounds 0] 0),A0 (.seq #[.ref u2] 0),AG (.seq #[.ref q2,.int wy 0] 0),A0 D2],fun q=>.fin (.done (.ret (.bool true))),
  fun q=>[AG (.seq #[.ref l1,.int sets 0,.int most 0,.int rounds 0] 0),A0 (.seq #[.ref u1] 1),AG (.seq #[.ref q1,.int wy 0] 0),A0 D1,AG (.seq #[.ref l2,.int sets 0,.int most 0,.int rounds 0] 0),A0 (.seq #[.ref u2] 0),AG (.seq #[.ref q2,.int wy 0] 0),A0 D2],fun q=>[]⟩
theorem U'{w:zt}(t1 l1 u1 q1 t2 l2 u2 q2:Nat)(wy sets most rounds:Int){D1 D2:zu}{ss:zj}{e1 e2:Nat}(h1:D1=.seq ⟨AN ss⟩ e1)(h2:D2=.seq ⟨AN ss⟩ e2)(I:zd):(lP t1 l1 u1 q1 t2 l2 u2 q2 wy sets most rounds D1 D2).pP w gw I I:=by
 subst h1 h2
 intro P hI
 refine VM fun vs A s L hL hv H hu Q E uR=>?_
 have hq:∀ v,eV v=.bool true→BA (A5 w.2) s L→Q v s:=fun v e H=>uR v s L ⟨fun y=>0,P,hI,fun a m=>m,by rw [e]; rfl,hL⟩ H ⟨rfl,rfl,rfl,rfl,fun b o h y=>h,fun q m=>.inl (vo m)⟩
 clear uR
 obtain rfl:=YQ hv
 have c1:∀ n:Nat,n≤3→A.units+n < cLine:=fun n h=>by unfold cLine; lia
 have z:∀ (i:Nat) q,(lP t1 l1 u1 q1 t2 l2 u2 q2 wy sets most rounds (.seq ⟨AN ss⟩ e1) (.seq ⟨AN ss⟩ e2)).pq[i]?=some q→q∈L:=fun i q e=>by rw [hL]; exact vq _ (wW e)
 clear hL hI
 have hs:EV A.in1.in1.in1 s (.ref q1) (.ref q2):=EV.lst H (V1:=AN ss) (V2:=AN ss) (z 3 _ rfl) (z 7 _ rfl) rfl (c1 3 (by decide)) (EV.all fun v m=>by
  obtain ⟨X,_,rfl⟩:=wC.mp m
  exact EV.str X)
 have ht:EV A.in1.in1 s (.ref u1) (.ref u2):=EV.tup H (V1:=[.ref q1,.int wy 0]) (V2:=[.ref q2,.int wy 0]) (z 2 _ rfl) (z 6 _ rfl) rfl (c1 2 (by decide)) (Z0 hs (Z0 (EV.int _) lN))
 have hl:EV A.in1 s (.ref l1) (.ref l2):=EV.lst H (V1:=[.ref u1]) (V2:=[.ref u2]) (z 1 _ rfl) (z 5 _ rfl) rfl (c1 1 (by decide)) (Z0 ht lN)
 obtain ⟨o1,g1,k1⟩:=H.own _ (z 0 _ rfl)
 obtain ⟨o2,g2,k2⟩:=H.own _ (z 4 _ rfl)
 obtain ⟨x1,rfl,y1⟩:=Cd (vs:=[.ref l1,.int sets 0,.int most 0,.int rounds 0]) k1
 obtain ⟨x2,rfl,y2⟩:=Cd (vs:=[.ref l2,.int sets 0,.int most 0,.int rounds 0]) k2
 refine yR F.slot_tuple_eq ⟨_,g1,rfl⟩ F.entry_tuple_eq (F.args_tuple_eq_2 _ _) (PySem.SeqAt.tuple_eqAt t1 t2 x1 x2 0 0 none none #[] #[] (fun y=>true)) ⟨g1,g2,EV.at y1 y2 (Z0 hl (Z0 (EV.int _) (Z0 (EV.int _) (Z0 (EV.int _) lN)))),?_⟩
 rw [show ((List.range (min x1.size x2.size)).all (fun y=>true)&&x1.size==x2.size)=true by rw [AY y1,AY y2]; simp]
 exact hq (.bool true) rfl H
end
end
section
open PySem PySem.W PySem.W.X PyProof.Rows
theorem lQ{α:Type}:∀ l:List α,(l.drop (min 3 l.length)).take (min 5 l.length-min 3 l.length)=(l.drop 3).take 2
 | []=>rfl
 | [_]=>rfl
 | [_,_]=>rfl
 | [_,_,_]=>rfl
 | [_,_,_,_]=>rfl
 | a::b::c::d::e::l=>by
  have h3:min 3 (a::b::c::d::e::l).length=3:=Nat.min_eq_left (yM 3 (l.length+2))
  have h5:min 5 (a::b::c::d::e::l).length=5:=Nat.min_eq_left (yM 5 l.length)
  rw [h3,h5]
theorem Hu(xs:Array zq):slicePick xs (some ((3:Nat):Int)) (some ((5:Nat):Int)) none=((xs.toList.drop 3).take 2).toArray:=by
 rw [slicePick_plain]
 simp only [Option.elim,clipAt_nat]
 exact vm _ (lQ xs.toList)
def Xk(m j:Nat)(D D':zu):A8:=TB m j none (some 3) D D'
theorem LY{w:zt}{D D':zu}{vs:zf}{n m j:Nat}(hD:D=.seq ⟨vs⟩ n)(qU:D'=.seq ⟨vs.take 3⟩ 0)(hs:vs.length≤sizeLine):(Xk m j D D').Ok pw w (A5 w.2):=
 I7 hD qU (fun xs hx=>(vm (fun l=>(Array.toList l).map eV) (slicePick_upto' xs 3)).trans (by rw [← hx,← yD])) hs
def W4(m j:Nat)(D D':zu):A8:=TB m j (some 3) (some 5) D D'
theorem OI{w:zt}{D D':zu}{vs:zf}{n m j:Nat}(hD:D=.seq ⟨vs⟩ n)(qU:D'=.seq ⟨(vs.drop 3).take 2⟩ 0)(hs:vs.length≤sizeLine):(W4 m j D D').Ok pw w (A5 w.2):=
 I7 hD qU (fun xs hx=>(vm (fun l=>(Array.toList l).map eV) (Hu xs)).trans (by rw [← hx,← xh,← yD])) hs
end
section
open PySem PySem.W PySem.W.X
section
def CD(P:zp)(x:SX):Env:=Br P 973 OY (A4 x 2)
theorem ao(P:zp)(fr:Nat):DH (Br P 973 OY fr):=by
 have h:(Br P 973 OY fr).scope.kind=.function:=by kernel_rfl
 exact ⟨by rw [h]; decide,by kernel_rfl⟩
def Hl(V:List Vw):Prop:=V=[QY "claim.caller"]
theorem Hl.fn{V:List Vw}(h:Hl V):Gx 0 V:=⟨[],rfl,h⟩
theorem Hl.ch{V:List Vw}(h:Hl V):Ax [] zw V:=by
 cases h
 exact ⟨rfl,rfl⟩
theorem Hl.up{P:zp}{x:SX}{V:List Vw}(h:Hl V):Ax [CD P x] zw ([C0 (CD P x)]++V):=h.ch.app (V:=[C0 (CD P x)]) (E':=[CD P x]) (qe:=[]) rfl rfl
section
variable{w:zt}{b b2:Bool}
def j0(v:Bool)(P:zp)(mI mX mA mK:Nat)(DX DR DI:zu)(o:Option Int):A8:=BU [mI,mX,mA,mK] [true,true,true,false] [] (fun x=>yS v P (A4 x mI) (A4 x mX) (A4 x mA) (A4 x mK) (A4 x 2) DX DR DI o)
theorem OD{v:Bool}{mI mX mA mK:Nat}{DX DR DI:zu}{o:Option Int}{xs:List Int}{ex:Nat}(hX:DX=.seq ⟨BW xs⟩ ex)(hs:xs.length≤900)(hR:DR=.seq ⟨xs.map (yV v)⟩ xs.length)(hI:DI=(Bn (xs.length:Nat)).data)(ho:o=JM xs none)(nd:[mI,mX,mA,mK].Nodup){St:zc}{I:zd}:(j0 v w.2 mI mX mA mK DX DR DI o).qB pw (wf w b b2) (A5 w.2) ⟨0,St⟩ I I:=by
 subst hR hI ho
 exact AL (w:=wf w b b2) (fun x=>Spec.pP.any (fun R=>by
  have h:=Zt (w:=w) (b:=b) (b2:=b2) (St:=fun q=>True) v (A4 x mI) (A4 x mX) (A4 x mA) (A4 x mK) (A4 x 2) xs ex R hX hs
  rw [vh] at h
  exact h) I) nd (fun q=>⟨rfl,rfl,fun q=>rfl⟩) (fun q q=>rfl)
def ZR(q:PA)(a:Nat)(L:Lp):Prop:=∃ (z:PA) (M:Lp),z.er=q∧z.val=.ref a∧L.Perm (z.lp++M)
def fC(pM aX:Nat)(s0 s1 s2 s3:zl)(DX:zu):Spec:=⟨.call (.ref 923) ⟨[.ref pM,.ref aX],[]⟩,[pM,aX],[A0 (.seq ⟨(Gv s0 s1 s2 s3).map PA.val⟩ 0),A0 DX],fun A=>.fin (.done (.ret (.ref (A 0)))),fun q=>[A0 (.seq ⟨(Gv s0 s1 s2 s3).map PA.val⟩ 0),A0 DX],fun q=>[]⟩
theorem SV{St:zc}(pM aX:Nat){x1 x2 x3:Int}{ex:Nat}{s0 s1 s2 s3:zl}{DX:zu}(hX:DX=.seq ⟨[.int x1 0,.int x2 0,.int x3 0]⟩ ex){c1 c2 c3:Kx}(h:Jk x1 x2 x3 c1 c2 c3){kt:Bool}{ql qr:PA}(hq:Em s0 s1 s2 s3 c1 c2 c3=.node 0 kt ql qr) :
  Spec.pW (fun _:Unit=>fC pM aX s0 s1 s2 s3 DX) (fun z A P'=>ZR (.node 0 kt ql qr) (A 0) P') (fC pM aX s0 s1 s2 s3 DX) (wf w b b2) (Al ⟨1,St⟩) (fun P=>P=[]):=by
 rintro P rfl
 refine (Xa (St:=St) w b b2 pM aX s0 s1 s2 s3 _ _ kt _ _ x3 DX DX hX h hq rfl rfl rfl rfl rfl [] rfl).out ?_
 rintro e L ⟨⟨a1,a2⟩,A,P',⟨_,l,r,M,e1,e2,v1,v2,pm⟩,sub,he,rfl⟩
 refine ⟨(fC pM aX s0 s1 s2 s3 DX).pV A++((PA.node (A 0) kt l r).lp++M),?_,(),A,(PA.node (A 0) kt l r).lp++M,⟨.node (A 0) kt l r,M,by show PA.node 0 kt l.er r.er=_; rw [e1,e2],rfl,.refl _⟩,fun z m=>(nomatch m),he,rfl⟩
 have e3:(PA.node (A 0) kt l r).lp=(A 0,HA (bif kt then 1 else 0) (vk ql.vs.1 ql.vs.2.1 a1) (vk qr.vs.1 qr.vs.2.1 a2))::(l.lp++r.lp):=by rw [← v1,← v2]; rfl
 rw [e3]
 refine (pm.append_left _).trans ?_
 show (([(pM,_),(aX,_)]++[(A 0,_)])++(l.lp++(r.lp++(M++[])))).Perm ([(pM,_),(aX,_)]++(((A 0,_)::(l.lp++r.lp))++M))
 rw [w9]
 exact Dm [[(pM,_)],[(aX,_)],[(A 0,_)],l.lp,r.lp,M] (.a (.a (.q [0,1]) (.q [2])) (.a (.l 3) (.a (.l 4) (.l 5)))) (.a (.q [0,1]) (.a (.r [2] (.a (.l 3) (.l 4))) (.l 5))) rfl
def W6(mL mX:Nat)(s0 s1 s2 s3:zl)(DX:zu):A8:=O9 (fun q=>none) [mL,mX] [false,true] [] (fun x=>fC (A4 x mL) (A4 x mX) s0 s1 s2 s3 DX)
theorem OL{mL mX:Nat}{x1 x2 x3:Int}{ex:Nat}{s0 s1 s2 s3:zl}{DX:zu}(hX:DX=.seq ⟨[.int x1 0,.int x2 0,.int x3 0]⟩ ex){c1 c2 c3:Kx}(h:Jk x1 x2 x3 c1 c2 c3){kt:Bool}{ql qr:PA}(hq:Em s0 s1 s2 s3 c1 c2 c3=.node 0 kt ql qr)(nd:[mL,mX].Nodup){St:zc}:(W6 mL mX s0 s1 s2 s3 DX).qM pw (wf w b b2) (A5 w.2) ⟨0,St⟩ (fun P=>P=[]) (fun u q P'=>ZR (.node 0 kt ql qr) (u.n 0 3) P'):=
 (Fj (w:=wf w b b2) (fun x=>SV (A4 x mL) (A4 x mX) hX h hq) (fun q q=>⟨rfl,rfl,rfl⟩) (fun q q q q q=>rfl) (CO (by rfl)) nd (fun q=>⟨rfl,rfl,fun q q=>rfl⟩) (fun q q=>rfl)).mono (fun q h=>h) fun u x P' _ ⟨_,_,h⟩=>h
noncomputable def bK(P:zp)(v:zq)(s:zl)(m n:Nat)(D:zu):A8:=J5 (some (gF n)) (fun q=>gF (n+m)) (fun x=>some [C0 (CD P x)]) [1] [true] [] (fun q=>wS v s D) fun u q=>JD (n+m) (eD (u.d 0))
theorem Sw{q:PA}{a m n:Nat}{s:zl}{D:zu}(h:∀ z:PA,z.er=q→WC z.val z.lp s m 1 n)(hJ:JD n D):(bK w.2 (.ref a) s m n D).qM pw (wf w b b2) (A5 w.2) ⟨0,Hl⟩ (ZR q a) (fun y y P'=>ZR q a P'):=by
 refine (A8.qM.all (I:=ZR q a) (O:=fun R' y y P'=>P'=R') rfl fun R' ⟨z,M,e,v,pm⟩=>?_).mono (fun y h=>h) fun _ _ P' _ ⟨R',hR,e⟩=>e ▸ hR
 have hw:WC (.ref a) z.lp s m 1 n:=v ▸ (show WC z.val z.lp s m 1 n from h z e)
 exact (EF (w:=wf w b b2) (gi:=fun g=>g=gF n) (fun y k=>k _ rfl) (tr:=[1]) (fl:=[true]) (fn:=[]) (gd:=fun u y=>JD (n+m) (eD (u.d 0))) (S:=fun y=>wS (.ref a) s D) (F0:=fun y D'=>wS (.ref a) s D') (O:=fun y D' y P'=>JD (n+m) D'∧P'=R') (fun u x z P a y c=>by rw [show eD (u.d 0)=z from a.1]; exact c.1) (fun y=>hw hJ ⟨M,pm⟩) (fun y y=>⟨rfl,rfl⟩) (fun y y y y y=>rfl) (fun y y y=>rfl) (fun y y y y y=>rfl) (BK (St:=⟨0,Hl⟩) (n:=1) (Sf:=fun y=>Gx 1) (V:=fun x=>[C0 (CD w.2 x)]) (wR.mpr (vp _)) fun y y c=>Gx.up c.fn) (by decide) (fun y=>⟨rfl,rfl,fun y y=>rfl⟩) (fun y y=>rfl)).mono (fun y h=>h) fun y y y y h=>h.elim fun y z=>z.2.2.2
def Zn(q:PA)(a ah:Nat)(D1 D2:zu)(L:Lp):Prop:=∃ (z:PA) (M K:Lp),z.er=q∧z.val=.ref a∧Gr z ah (D1,D2) K∧L.Perm ((z.lp++M)++K)
def bR(P:zp)(s:zl)(ah:Nat):A8:=I2 (fun x=>some [C0 (CD P x)]) [2] [] [false,true,true] (fun x=>(QS s ah .plain .plain).own (A4 x 2) (B9 x 2)) fun u q=>Ed (eD (u.d 3))∧Ed (eD (u.d 5))
theorem T6{q:PA}{a ah:Nat}{s:zl}(h:∀ z:PA,z.er=q→N7 z 1∧z.wt=s∧z.qX≤4):(bR w.2 s ah).qM pw (wf w b b2) (A5 w.2) ⟨0,Hl⟩ (ZR q a) (fun u x P'=>Zn q a ah (eD (u.d 3)) (eD (u.d 5)) P'):=by
 refine (A8.qM.all (I:=ZR q a) (O:=fun R u x P'=>∃ z M K,z.er=q∧z.val=.ref a∧Gr z ah (eD (u.d 3),eD (u.d 5)) K∧P'.Perm ((z.lp++M)++K)) rfl fun R ⟨z,M,e,v,pm⟩=>?_).mono (fun t h=>h) fun u x P' _ ⟨R,_,h⟩=>h
 obtain ⟨hT,hs,hp⟩:=h z e
 subst hs
 refine (Bw (w:=wf w b b2) (tr:=[2]) (fl:=[]) (fn:=[false,true,true]) (S:=fun x=>(QS z.wt ah .plain .plain).own (A4 x 2) (B9 x 2)) (F0:=fun x (y:zu×zu)=>(QS z.wt ah y.1 y.2).own (A4 x 2) (B9 x 2)) (O:=fun x y A P'=>∃ L,Gr z ah y L∧P'.Perm (R++L)) (gd:=fun u t=>Ed (eD (u.d 3))∧Ed (eD (u.d 5))) (fun u x y P t b c=>?_) (fun x=>Spec.rF (e:=CD w.2 x) (fun R' sm=>hT R' sm) (show AW [] R from fun t m=>nomatch m) (ao w.2 _) rfl rfl (fun t t=>rfl)) (fun t t=>⟨rfl,rfl⟩) (fun t t t t t=>rfl) (fun t t t=>rfl) (fun t t t t t=>rfl) (BK (St:=⟨0,Hl⟩) (n:=1) (Sf:=fun x=>Ax [CD w.2 x] zw) (V:=fun x=>[C0 (CD w.2 x)]) (wR.mpr (vp _)) fun x t c=>Hl.up c) (by decide) (fun t=>⟨rfl,rfl,fun t t=>rfl⟩) (fun t t=>rfl)).mono (fun t h=>h) fun u x P' t hh=>?_
 ·obtain ⟨L,k,_⟩:=c
  have e1:eD (u.d 3)=y.1:=b.1
  have e2:eD (u.d 5)=y.2:=b.2.1
  rw [e1,e2]
  exact k.tD hp
 ·obtain ⟨y,_,b,L,k,pm2⟩:=hh
  have e1:eD (u.d 3)=y.1:=b.1
  have e2:eD (u.d 5)=y.2:=b.2.1
  rw [e1,e2]
  exact ⟨z,M,L,e,v,k,pm2.trans (pm.append_right L)⟩
theorem TF{q:PA}{a ah:Nat}{D1 D2:zu}{pg:Dy}{o s m r:Int}(h:∀ z:PA,z.er=q→∀ R:Lp,(∃ R0,R.Perm (z.lp++R0))→(Ro z.val pg o s m r).PI w b b2 1 (fun y=>True) (fun P=>P=R)){St:zc}:(Xl (.ref a) pg o s m r).qM pw (wf w b b2) (A5 w.2) ⟨0,St⟩ (Zn q a ah D1 D2) (fun y y P'=>Zn q a ah D1 D2 P'):=
 (A8.qM.all (I:=Zn q a ah D1 D2) (O:=fun R' y y P'=>P'=R') rfl fun R' ⟨z,M,K,e,v,_,pm⟩=>GL (by
  have k:=h z e R' ⟨M++K,pm.trans (.of_eq (vj _ _ _))⟩
  rw [v] at k
  exact k)).mono (fun y h=>h) fun _ _ P' _ ⟨R',hR,e⟩=>e ▸ hR
noncomputable def Spec.lend(S:Spec)(a:Nat)(o:Obj):Spec:=⟨S.C,S.ad++[a],S.pre++[o],S.fin,fun A=>S.ch A++[o],S.nw⟩
theorem Spec.rH{Z:Type}{F:Z→Spec}{N:Z→Prop}{S:Spec}{w:zt}{Sh:Pos→ze→Prop}{R:Lp}{a:Nat}{o:Obj}(h:Spec.pW F (fun z q P'=>N z∧P'=(a,o)::R) S w Sh (fun P=>P=(a,o)::R))(l1:S.ad.length=S.pre.length)(l2:∀ z A,((F z).ch A).length=(F z).ad.length):Spec.pW (fun z=>(F z).lend a o) (fun z q P'=>N z∧P'=R) (S.lend a o) w Sh (fun P=>P=R):=by
 rintro P rfl
 have z:=h _ rfl
 have e1:(S.lend a o).pq++P=S.pq++(a,o)::P:=by
  show (S.ad++[a]).zip (S.pre++[o])++P=_
  rw [wi l1,vj]; rfl
 refine (z.pU (q8:=fun L=>L=(S.lend a o).pq++P) (fun L hL=>hL.trans e1) (fun q q h=>h)).qd ?_
 rintro e' L ⟨zz,A,P',⟨hN,rfl⟩,sub,he,rfl⟩
 refine ⟨((F zz).lend a o).pV A++P,?_,⟨zz,A,P,⟨hN,rfl⟩,fun q m=>m,he,rfl⟩⟩
 show ((F zz).pV A++((a,o)::P)).Perm ((((F zz).ad++[a]).zip ((F zz).ch A++[o])++_)++P)
 rw [wi (l2 zz A).symm]
 unfold Spec.pV
 rw [vj,vj,vj]
 exact vy _ wV
def Zb(pL:Nat)(pX:zu)(s4:RS)(wy:Nat)(rounds:Int)(DR:zu):Spec:=⟨.call (.ref 954) ⟨[.ref pL],[]⟩,[pL],[A0 pX],fun A=>.fin (.done (.ret (.ref (A 0)))),fun q=>[A0 pX],fun A=>[AG (.seq #[.ref (A 1),.int s4.sets 0,.int s4.most 0,.int rounds 0] 0),A0 (.seq #[.ref (A 2)] 1),AG (.seq #[.ref (A 3),.int (wy:Nat) 0] 0),A0 DR]⟩
def m6(nm:zm)(ns:za)(s4:RS)(wy:Nat)(rounds:Int)(ss:zj):Prop:=∀ {w:zt} {b b2:Bool} {E:zi} {R:Lp} {ts:zl} {en pL:Nat} {pX:zu},AW E R→F5 nm R ts ns→pX=.seq ⟨ts.map .ref⟩ en→ts.length=4→
 Spec.pW (fun DR=>Zb pL pX s4 wy rounds DR) (fun DR q P'=>(∃ e,DR=.seq ⟨AN ss⟩ e)∧P'=R) (Zb pL pX s4 wy rounds .plain) (wf w b b2) (Al ⟨1,Ax E zw⟩) (fun P=>P=R)
def bY(P:zp)(sY ah:Nat)(pX:zu)(s4:RS)(wy:Nat)(rounds:Int)(ss:zj):A8:=I2 (fun x=>some [C0 (CD P x)]) [sY,2,22] [true,false,false] [false,false,false,true] (fun x=>((Zb (A4 x sY) pX s4 wy rounds .plain).lend (A4 x 2) (Bp (B9 x 2))).lend ah (A0 (.seq #[] 0))) (fun u q=>∃ e,eD (u.d 7)=.seq ⟨AN ss⟩ e)
theorem TC{q:PA}{a ah sY:Nat}{D1 D2:zu}{nm:zm}{ns:za}{s4:RS}{wy:Nat}{rounds:Int}{ss:zj}(hx:m6 nm ns s4 wy rounds ss)(hn:∀ (z:PA) (D1 D2:zu) (K R:Lp),z.er=q→Gr z ah (D1,D2) K→∃ ts en,D1=.seq ⟨ts.map .ref⟩ en∧ts.length=4∧F5 nm ((ah,A0 (.seq #[] 0))::(R++K)) ts ns)(nd:[sY,2,22].Nodup):(bY w.2 sY ah D1 s4 wy rounds ss).qM pw (wf w b b2) (A5 w.2) ⟨0,Hl⟩ (Zn q a ah D1 D2) (fun t t t=>True):=by
 refine (A8.qM.all (I:=Zn q a ah D1 D2) (O:=fun t t t t=>True) rfl fun R ⟨z,M,K,e,v,ht,pm⟩=>?_).mono (fun t h=>h) fun t t t t t=>trivial
 obtain ⟨ts,en,hD,h4,hN⟩:=hn z D1 D2 K (z.lp++M) e ht
 have hN2:F5 nm ((ah,A0 (.seq #[] 0))::R) ts ns:=hN.perm (X:=[]) (pm.cons _)
 refine (Bw (w:=wf w b b2) (tr:=[sY,2,22]) (fl:=[true,false,false]) (fn:=[false,false,false,true]) (S:=fun x=>((Zb (A4 x sY) D1 s4 wy rounds .plain).lend (A4 x 2) (Bp (B9 x 2))).lend ah (A0 (.seq #[] 0))) (F0:=fun x DR=>((Zb (A4 x sY) D1 s4 wy rounds DR).lend (A4 x 2) (Bp (B9 x 2))).lend ah (A0 (.seq #[] 0))) (O:=fun x DR A P'=>(∃ e,DR=.seq ⟨AN ss⟩ e)∧P'=R) (gd:=fun u t=>∃ e,eD (u.d 7)=.seq ⟨AN ss⟩ e) (fun u x y P t b c=>?_) (fun x=>Spec.rH (Spec.rH (hx (E:=[CD w.2 x]) ((show AW [] ((ah,A0 (.seq #[] 0))::R) from fun t m=>nomatch m).cons (ao w.2 _) rfl) (hN2.cons _) hD h4) rfl (fun t t=>rfl)) rfl (fun t t=>rfl)) (fun t t=>⟨rfl,rfl⟩) (fun t t t t t=>rfl) (fun t t t=>rfl) (fun t t t t t=>rfl) (BK (St:=⟨0,Hl⟩) (n:=1) (Sf:=fun x=>Ax [CD w.2 x] zw) (V:=fun x=>[C0 (CD w.2 x)]) (wR.mpr (vp _)) fun x t c=>Hl.up c) nd (fun t=>⟨rfl,rfl,fun t t=>rfl⟩) (fun t t=>rfl)).mono (fun t h=>h) fun t t t t t=>trivial
 obtain ⟨e,he⟩:=c.1
 exact ⟨e,b.1.trans he⟩
def c9(m1 m2 m3 m4 n1 n2 n3 n4:Nat)(wy sets most rounds:Int)(D1 D2:zu):A8:=BU [m1,m2,m3,m4,n1,n2,n3,n4] [false,false,false,true,false,false,false,true] [] (fun x=>lP (A4 x m1) (A4 x m2) (A4 x m3) (A4 x m4) (A4 x n1) (A4 x n2) (A4 x n3) (A4 x n4) wy sets most rounds D1 D2)
theorem Te{m1 m2 m3 m4 n1 n2 n3 n4:Nat}{wy sets most rounds:Int}{D1 D2:zu}{ss:zj}{e1 e2:Nat}(h1:D1=.seq ⟨AN ss⟩ e1)(h2:D2=.seq ⟨AN ss⟩ e2)(nd:[m1,m2,m3,m4,n1,n2,n3,n4].Nodup){St:zc}{I:zd}:(c9 m1 m2 m3 m4 n1 n2 n3 n4 wy sets most rounds D1 D2).qB pw (wf w b b2) (A5 w.2) ⟨0,St⟩ I I:=
 Ab (w:=wf w b b2) (Sf:=fun q=>gw) (fun x=>U' _ _ _ _ _ _ _ _ wy sets most rounds h1 h2 I) (fun x k g l cd pc pN tl hq ht q=>⟨k,g,l,cd,pN++tl,rfl,by
  have a:=(Nw hq).2
  have b:tl.length≤10*0+1:=ht.len
  rw [vn]; lia⟩) nd (fun q=>⟨rfl,rfl,fun q=>rfl⟩) (fun q q=>rfl)
end
end
section
noncomputable def Il(f:Nat→zl)(P:Nat→zl→Prop):zb→za→Prop
 | [],[]=>True
 | e::es,n::ns=>(e.1=f n.1∧P e.2 n.2)∧Il f P es ns
 | _,_=>False
section
variable{f:Nat→zl}{P Q:Nat→zl→Prop}
theorem Il.mono(h:∀ a ys,P a ys→Q a ys):∀ {es:zb} {ns:za},Il f P es ns→Il f Q es ns
 | [],[],_=>trivial
 | _::_,_::_,⟨⟨a,b⟩,c⟩=>⟨⟨a,h _ _ b⟩,Il.mono h c⟩
theorem Il.app{rC:zb}{uP:za}(k:Il f P rC uP):∀ {es:zb} {ns:za},Il f P es ns→Il f P (es++rC) (ns++uP)
 | [],[],_=>k
 | _::_,_::_,⟨a,c⟩=>⟨a,Il.app k c⟩
theorem Il.len:∀ {es:zb} {ns:za},Il f P es ns→es.length=ns.length
 | [],[],_=>rfl
 | _::_,_::_,⟨_,c⟩=>vm (· + 1) (Il.len c)
theorem Il.at:∀ {es:zb} {ns:za} {i:Nat} {e:zl×Nat} {n:Nat×zl},Il f P es ns→es[i]?=some e→ns[i]?=some n→e.1=f n.1∧P e.2 n.2
 | _::_,_::_,0,_,_,⟨a,_⟩,h1,h2=>by cases h1; cases h2; exact a
 | _::_,_::_,i+1,_,_,⟨_,c⟩,h1,h2=>Il.at c h1 h2
end
def ZV(f:Nat→zl)(ah:Nat)(ys:zl)(q:List (Nat×Dy×Nat))(a:Nat)(zs:zl):Prop:=(a=ah∧zs=ys)∨∃ n,(a,zs.map f,n)∈q
theorem ZV.in{f:Nat→zl}{ah:Nat}{ys:zl}{q q':List (Nat×Dy×Nat)}(h:∀ x∈q,x∈q')(a:Nat)(zs:zl)(k:ZV f ah ys q a zs):ZV f ah ys q' a zs:=k.imp id fun ⟨n,m⟩=>⟨n,h _ m⟩
section
variable{t0 t1:zl}
theorem RJ:∀ (z:PA) {ah:Nat} {es:zb} {ds:Dy} {q:List (Nat×Dy×Nat)},Wa z ah es ds q→∀ (p:PA) (ys:zl),Zl p=true→z.er=p.pe (fL t0 t1)→ds=(Mf p ys).2.map (cI t0 t1)∧Il (cI t0 t1) (ZV (cI t0 t1) ah ys q) es (Mf p ys).1:=by
 intro z
 induction z with
 | leaf s0=>
  intro ah es ds q h p ys hc e
  rcases p with s | ⟨_,_,_,_⟩
  ·rcases s with _ | ⟨c,_ | ⟨_,_⟩⟩
   ·cases hc
   ·injection e with e
    subst e
    obtain ⟨rfl,rfl,rfl⟩:=h
    exact ⟨rfl,⟨rfl,.inl ⟨rfl,rfl⟩⟩,trivial⟩
   ·cases hc
  ·nomatch e
 | node a t0 l r il ir=>
  intro ah es ds q h p ys hc e
  rcases p with s | ⟨a1,t,x,y⟩
  ·nomatch e
  injection e with _ et el er
  subst et
  cases t0 with
  | false=>
   obtain ⟨aE,e1,d1,q1,e2,q2,n,h1,h2,rfl,rfl⟩:=h
   have u:=il h1 x ys (br (bl hc)) el
   have v:=ir h2 y (Mf x ys).2 (br hc) er
   refine ⟨v.1,Il.app (v.2.mono ?_) (u.2.mono ?_)⟩
   ·rintro b zs (⟨rfl,rfl⟩ | ⟨m,k⟩)
    ·exact .inr ⟨n,vt _ (u.1 ▸ .head _)⟩
    ·exact .inr ⟨m,vt _ (.tail _ k)⟩
   ·exact ZV.in fun x m=>vq _ m
  | true=>
   obtain ⟨e1,d1,q1,e2,d2,q2,h1,h2,rfl,rfl,rfl⟩:=h
   have u:=il h1 x ys (br (bl hc)) el
   have v:=ir h2 y ys (br hc) er
   refine ⟨?_,Il.app (v.2.mono (ZV.in fun x m=>vt _ m)) (u.2.mono (ZV.in fun x m=>vq _ m))⟩
   rw [u.1,v.1,← vl]; rfl
theorem NO{α:Type}{A B:List α}{x y:α}(hx:x∈A)(hy:y∈B):∃ rest,(A++B).Perm (x::y::rest):=by
 obtain ⟨A1,A2,rfl⟩:=zN hx
 obtain ⟨B1,B2,rfl⟩:=zN hy
 exact ⟨(A1++A2)++(B1++B2),(wV.append wV).trans ((wV (l₁:=A1++A2)).cons x)⟩
theorem MO{α:Type}{A B:List α}{x y:α}(hx:x∈A):∃ rest,(y::(B++A)).Perm (x::y::rest):=by
 obtain ⟨A1,A2,rfl⟩:=zN hx
 refine ⟨B++(A1++A2),(List.Perm.cons y ((wV.append_left B).trans wV)).trans (.swap _ _ _)⟩
theorem cK{z p:PA}{ah:Nat}{D1 D2:zu}{K R:Lp}(hc:Zl p=true)(e:z.er=p.pe (fL t0 t1))(h4:p.qX=4)(h:Gr z ah (D1,D2) K):∃ ts en,D1=.seq ⟨ts.map .ref⟩ en∧ts.length=4∧F5 (Ts t0 t1) ((ah,A0 (.seq #[] 0))::(R++K)) ts (C7 p):=by
 obtain ⟨es,ds,q,ts,e1,e2,td,lt,h1,h2,hL⟩:=h
 obtain ⟨_,hE⟩:=RJ (t0:=t0) (t1:=t1) z td p [] hc e
 have l4:es.length=4:=td.len.1.trans (((Bq z).qX.symm.trans (vm PA.qX e)).trans ((D7 _ p).qX.trans h4))
 refine ⟨ts,e1,h1,lt.trans l4,lt.trans hE.len,fun i t c ys ht hn=>?_⟩
 obtain ⟨hi,ht⟩:=wA.mp ht
 have hie:i < es.length:=lt ▸ hi
 have he:es[i]?=some es[i]:=w0 hie
 obtain ⟨k1,k2⟩:=hE.at he hn
 have m1:(t,Ex es[i])∈IY ts es:=by
  refine List.mem_iff_getElem.mpr ⟨i,?_,?_⟩
  ·unfold IY; rw [zY,vh]; lia
  ·unfold IY; rw [List.getElem_zip,yb,ht]
 have hP:((ah,A0 (.seq #[] 0))::(R++K)).Perm ((ah,A0 (.seq #[] 0))::(R++(IY ts es++FT q))):=(hL.append_left R).cons _
 have m1:(t,AG (.seq #[.str (Ts t0 t1 c) 0,.ref es[i].2] 0))∈IY ts es:=by
  have:Ex es[i]=AG (.seq #[.str (Ts t0 t1 c) 0,.ref es[i].2] 0):=by unfold Ex; rw [k1]; rfl
  rwa [this] at m1
 rcases k2 with ⟨k2,rfl⟩ | ⟨n,k2⟩
 ·obtain ⟨rest,pm⟩:=MO (y:=(ah,A0 (.seq #[] 0))) (B:=R) (vq (FT q) m1)
  exact ⟨es[i].2,0,rest,(hP.trans pm).trans (by rw [k2]; exact .refl _)⟩
 ·have m2:(es[i].2,A0 (.seq ⟨AB (Ts t0 t1) ys⟩ n))∈FT q:=by
   have z:(es[i].2,A0 (.seq ⟨Dl (ys.map (cI t0 t1))⟩ n))∈FT q:=vo (f:=fun x:Nat×Dy×Nat=>(x.1,A0 (.seq ⟨Dl x.2.1⟩ x.2.2))) k2
   unfold Dl at z
   rw [wz] at z
   exact z
  obtain ⟨rest,pm⟩:=NO m1 m2
  exact ⟨es[i].2,n,(ah,A0 (.seq #[] 0))::(R++rest),hP.trans (((((pm.append_left R).trans (Dm [R,[(t,_)],[(es[i].2,_)],rest] (.a (.l 0) (.r [1,2] (.l 3))) (.r [1,2] (.a (.l 0) (.l 3))) rfl)).cons _).trans (Dm [[(ah,_)],[(t,_)],[(es[i].2,_)],R,rest] (.r [0,1,2] (.a (.l 3) (.l 4))) (.r [1,2,0] (.a (.l 3) (.l 4))) rfl)))⟩
end
end
noncomputable def cV(P:zp)(wy:Nat)(rounds:Int)(pg:Dy)(ss:zj)(s4:RS):List (zh→A8):=(fun l=>Xl (.ref (un l 2 0 3)) pg (wy:Nat) s4.sets s4.most rounds)::(fun l=>bY P 24 (un l 2 0 0) (ud l 1 3) s4 wy rounds ss)::(fun l=>OH 30 (ud l 1 3) ss)::(fun l=>c9 34 35 36 37 41 40 39 38 (wy:Nat) s4.sets s4.most rounds (ud l 1 7) (ud l 0 0))::[]
noncomputable def cW(P:zp)(wy m:Nat)(rounds:Int)(t0 t1 s:zl)(pg:Dy)(ss:zj)(s4:RS)(D:zg):List (zh→A8):=(fun l=>W6 21 13 (97::t0) [98] [99] (100::t1) (ud l 7 0))::(fun l=>bK P (.ref (un l 0 0 3)) s m 0 (gD D 1))::(fun l=>bR P s (un l 0 0 0))::cV P wy rounds pg ss s4
noncomputable def cX(P:zp)(wy m:Nat)(rounds:Int)(t0 t1 s:zl)(pg:Dy)(ss:zj)(s4:RS)(D:zg):List (zh→A8):=(fun q=>CC [97] t0 (97::t0))::(fun l=>TV 19 (ud l 2 4) 1 (.str ⟨⟨t1⟩⟩ 0))::(fun q=>CC [100] t1 (100::t1))::cW P wy m rounds t0 t1 s pg ss s4 D
noncomputable def kb(P:zp)(wy m:Nat)(rounds:Int)(t0 t1 s:zl)(pg:Dy)(ss:zj)(s4:RS)(DU DV DJ:zu)(D:zg):List (zh→A8):=(fun l=>Ce 15 16 (ud l 0 0) (.seq #[.int 0 0,.int 0 0] 0) DU)::(fun l=>j0 true P 18 17 19 20 (ud l 0 0) DV DJ (some 0))::(fun l=>TV 19 (ud l 0 4) 0 (.str ⟨⟨t0⟩⟩ 0))::cX P wy m rounds t0 t1 s pg ss s4 D
noncomputable def kc(P:zp)(k wy m:Nat)(rounds:Int)(t0 t1 s:zl)(pg:Dy)(ss:zj)(s4:RS)(DK DX DT DU DV DJ:zu)(D:zg):List (zh→A8):=(fun q=>bX 8 11 k (.seq #[.int 0 0,.int 1 0,.int 6 0] 0) DK)::(fun l=>Ce 6 12 (ud l 3 4) (ud l 0 0) DX)::(fun q=>W4 0 14 (gD D 0) DT)::kb P wy m rounds t0 t1 s pg ss s4 DU DV DJ D
noncomputable def cY(P:zp)(o:Option Int)(k wy m:Nat)(rounds:Int)(t0 t1 s:zl)(pg:Dy)(ss:zj)(s4:RS)(DL DN DI DK DX DT DU DV DJ:zu)(D:zg):List (zh→A8):=(fun q=>Xk 0 3 (gD D 0) DL)::(fun l=>j0 false P 5 4 6 7 (ud l 0 0) DN DI o)::(fun q=>Xk 0 9 (gD D 0) DL)::(fun l=>FA 10 (ud l 0 0) (k:Nat))::kc P k wy m rounds t0 t1 s pg ss s4 DK DX DT DU DV DJ D
def kf(z:Bool):zl:=bif z then (hD 44 167 23394666023159051982603222268778221578743055799909696311519247361797906633020814355790015610107948633126575894741534840345334197019712798301725258120713095976063735156450762370889408736566214350390185120070518145307084562247523522477333082268177825312890275426512883509946996) else (hD 44 165 12084021706177196272005796626435031807201991632184760491487214546383216236064470225098148558940056112152156970424346508442837911683735949536015112665657590896727135927918782216368496248226350387598236115738904000675146984631985290535812542493893504810377152118297962539636)
noncomputable def kg:List (Bool×Bool):=[(false,false),(false,true),(true,false),(true,true)]
theorem UR(a b:Bool):(a,b)∈kg:=by cases a<;>cases b<;>decide
noncomputable def oI(z:Bool)(x:Int):Option Int:=bif z then some x else none
theorem bu(o:Option Int):o=oI o.isSome (o.getD 0):=by cases o<;>rfl
theorem X6{pN:ze}{g:zk}(h:H7 ⟨0,Hl⟩ pN)(hg:g=gF 0):∃ d,(g,pN.map Frame.where_)=RI 0 0 d:=by
 obtain ⟨d,ed⟩:=Ki (k:=0) (es:=[]) (tl:=pN) rfl h.st
 exact ⟨d,by rw [hg,ed]; rfl⟩
noncomputable def VI(r:R):zu:=match r.x.T.get 1 with
 | some (_,o)=>o.data
 | none=>.plain
noncomputable abbrev Vi:=zl×Option Fin×ze×Option (Nat×Obj)×Option (Nat×Obj)×zu×zk×OsState
def d9(r:R):Vi:=(r.ry,r.fin?,r.pN,r.x.T.get 0,r.x.T.get 1,eD (VI r),r.x.gens,r.x.os)
def Vo(aS:Nat)(dS:zu)(m:Nat)(os:OsState)(l:zh)(r:R):Vi:=(r.ru,some (.done (.ret (.bool true))),[],some (aS,A0 dS),some (898,Io (VI r)),ud l 5 0,gF m,os)
noncomputable def P8(aS:Nat):Code:=.call (.ref 973) ⟨[.ref aS],[]⟩
variable{St:zc}(w:zt)(b b2:Bool)
noncomputable def XK(hs:zl)(n:Nat)(drawn:Drawn)(t:Nat)(os:OsState)(pos:Pos)(d:eK)(aS:Nat)(dS dC:zu):R:=
 run pw (wf w b b2) (A5 w.2) (RI 0 0 d).2 100000 hs 0 [1,0,0,0,1,0,0,1,0,0,0,0,0,0,0,4,7,0,0] 1 ⟨OC 2 [(aS,A0 dS),(898,Io dC)],2,n,0,gF 0,drawn,t,0,os⟩ (P8 aS) pos
noncomputable def nR(fs:zu→zu→List (zh→A8))(hs:zl):Nat→Drawn→Nat→OsState→Pos→eK→Nat→zu→zu→(Nat→U)→QO×Vi:=fun n drawn t os pos d aS dS dC u=>(fun rK r=>(UE rK (L3 20 u) r,d9 (Gf rK (L3 20 u) r))) (F8 (fs (eD dS) (eD dC)) [] (L3 20 u)) (XK w b b2 hs n drawn t os pos d aS dS dC)
noncomputable def nQ(m:Nat)(fs:zu→zu→List (zh→A8))(hs:zl):Nat→Drawn→Nat→OsState→Pos→eK→Nat→zu→zu→(Nat→U)→QO×Vi:=fun n drawn t os pos d aS dS dC u=>(fun rK r=>(UD rK (L3 20 u) r,Vo aS dS (0+m) os (L3 20 u).reverse (Gf rK (L3 20 u) r))) (F8 (fs (eD dS) (eD dC)) [] (L3 20 u)) (XK w b b2 hs n drawn t os pos d aS dS dC)
theorem UQ(w:zt)(b2:Bool)(k wy m:Nat)(x rounds:Int)(t0 t1 s:zl)(pg:Dy)(ss:zj)(s4:RS)(DL DN DI DK DX DT DU DV DJ:zu) :
  kg.map (fun z=>nR w z.2 b2 (fun D D'=>cY w.2 (oI z.1 x) k wy m rounds t0 t1 s pg ss s4 DL DN DI DK DX DT DU DV DJ [D,D']) (kf z.1))=kg.map fun z=>nQ w z.2 b2 m (fun D D'=>cY w.2 (oI z.1 x) k wy m rounds t0 t1 s pg ss s4 DL DN DI DK DX DT DU DV DJ [D,D']) (kf z.1):=by kernel_rfl
noncomputable def IH(xs:List Int):List Int:=(xs.take 3).map (fun x=>x.fmod 24)++([0,1,6]:List Int).drop (xs.take 3).length
noncomputable def BB(xs:List Int):List Int:=(xs.drop 3).take 2++[0,0]
theorem Om(l:List Int):∀ o,JM (l++[0,0]) o=some 0:=by
 induction l with
 | nil=>exact fun q=>rfl
 | cons x l ih=>exact fun q=>ih _
variable{w b b2}
theorem Yb{es m wy:Nat}{rounds:Int}{xs:List Int}{x1 x2 x3:Int}{t0 t1 s:zl}{pg:Dy}{ss:zj}{s4:RS}{c1 c2 c3:Kx}{kt:Bool}{ql qr:PA}{nm:zm}{ns:za}{DS D:zu}
  (hS:DS=.seq ⟨BW xs⟩ es) (hx:xs.length≤63) (hD:JD 0 D) (hn:IH xs=[x1,x2,x3]) (h0:(BB xs).map MQ=⟨⟨t0⟩⟩::⟨⟨t1⟩⟩::((BB xs).map MQ).drop 2) (l0:t0.length≤5) (l1:t1.length≤5)
  (h:Jk x1 x2 x3 c1 c2 c3) (hq:Em (97::t0) [98] [99] (100::t1) c1 c2 c3=.node 0 kt ql qr)
  (hW:∀ z:PA,z.er=.node 0 kt ql qr→WC z.val z.lp s m 1 0) (hT:∀ z:PA,z.er=.node 0 kt ql qr→N7 z 1∧z.wt=s∧z.qX≤4)
  (hR:∀ z:PA,z.er=.node 0 kt ql qr→∀ R:Lp,(∃ R0,R.Perm (z.lp++R0))→(Ro z.val pg (wy:Nat) s4.sets s4.most rounds).PI w b b2 1 (fun y=>True) (fun P=>P=R))
  (hX:m6 nm ns s4 wy rounds ss) (hN:∀ (z:PA) (ah:Nat) (D1 D2:zu) (K R:Lp),z.er=.node 0 kt ql qr→Gr z ah (D1,D2) K→∃ ts en,D1=.seq ⟨ts.map .ref⟩ en∧ts.length=4∧F5 nm ((ah,A0 (.seq #[] 0))::(R++K)) ts ns)
  (hl:pg.length < 64) (hs:∀ qG:zj,qG.Perm (pg.map fun s=>⟨⟨s⟩⟩)→PyProof.Rows.sortedS qG=true→qG=ss) :
  Ck (fun l y=>JD m (ud l 5 0)) pw (wf w b b2) (A5 w.2) ⟨0,Hl⟩ (fun P=>P=[]) (cY w.2 (oI (JM (xs.take 3) none).isSome ((JM (xs.take 3) none).getD 0)) (xs.take 3).length wy m rounds t0 t1 s pg ss s4 (.seq ⟨(BW xs).take 3⟩ 0) (.seq ⟨(xs.take 3).map (yV false)⟩ (xs.take 3).length) (Bn ((xs.take 3).length:Nat)).data (.seq ⟨([.int 0 0,.int 1 0,.int 6 0]:zf).drop (xs.take 3).length⟩ 0) (.seq ⟨BW (IH xs)⟩ 0) (.seq ⟨((BW xs).drop 3).take 2⟩ 0) (.seq ⟨BW (BB xs)⟩ 0) (.seq ⟨(BB xs).map (yV true)⟩ (BB xs).length) (Bn ((BB xs).length:Nat)).data [DS,D]) []:=by
 have hk:(xs.take 3).length≤3:=by rw [xp]; lia
 rw [← bu]
 have hv:((BB xs).map (yV true))[0]?=some (.str ⟨⟨t0⟩⟩ 0)∧((BB xs).map (yV true))[1]?=some (.str ⟨⟨t1⟩⟩ 0):=by
  have e:(BB xs).map (yV true)=((BB xs).map MQ).map fun s=>.str s 0:=by rw [wz]; rfl
  rw [e,h0]; exact ⟨rfl,rfl⟩
 have ht:(BB xs).length≤4:=by unfold BB; rw [vn,xp]; exact yB (Nat.min_le_left _ _) 2
 have hL:(BW xs).length≤sizeLine:=by unfold BW; rw [vh]; exact vv hx (by decide)
 refine .q (LY hS rfl hL) fun u0 y g0=>.cons (OD (xs:=xs.take 3) (ex:=0) ?_ (by lia) rfl rfl rfl (by decide)) fun u1 y g1=>.q (LY hS rfl hL) fun u2 y g2=>.q (Bz (vs:=(BW xs).take 3) (n:=0) (g2 rfl) (by unfold BW; rw [← yD,vh]) (wb (z9 _ _) (by decide))) fun u3 y g3=>.q (TA (vs:=[.int 0 0,.int 1 0,.int 6 0]) (n:=0) rfl hk rfl (by decide)) fun u4 y g4=>.q (Bg (vs:=(xs.take 3).map (yV false)) (n:=(xs.take 3).length) (ws:=([.int 0 0,.int 1 0,.int 6 0]:zf).drop (xs.take 3).length) (n2:=0) g1.1.2.2.1 (g4 rfl) ?_ ?_) fun u5 y g5=>.q (OI hS rfl hL) fun u6 y g6=>.q (Bg (vs:=((BW xs).drop 3).take 2) (n:=0) (ws:=[.int 0 0,.int 0 0]) (n2:=0) (g6 rfl) rfl ?_ ?_) fun u7 y g7=>.cons (OD (xs:=BB xs) (ex:=0) (g7 rfl) (vv ht (by decide)) rfl rfl (Om _ _).symm (by decide)) fun u8 y g8=>.q (IC (vs:=(BB xs).map (yV true)) (n:=(BB xs).length) g8.1.2.2.1 (by decide) hv.1 ?_) fun u9 y g9=>.q (Ao (by rw [wQ]; exact vv (xk l0 _) (by decide)) rfl) fun vV y vd=>.q (IC (vs:=(BB xs).map (yV true)) (n:=(BB xs).length) g8.1.2.2.1 (by decide) hv.2 ?_) fun vU y vc=>.q (Ao (by rw [wQ]; exact vv (xk l1 _) (by decide)) rfl) fun vS y vb=>.qA (OL (x1:=x1) (x2:=x2) (x3:=x3) (ex:=0) ?_ h hq (by decide)) fun vR y va=>.qA (Sw hW hD) fun uW y vG=>.qA (T6 hT) fun vQ y vZ=>.qA (TF hR) fun vP y vF=>.qA (TC hX (fun z D1 D2 K R=>hN z _ D1 D2 K R) (by decide)) fun vO y uV=>.q (Fl (n:=0) (ss:=pg.map fun s=>⟨⟨s⟩⟩) ?_ (by rw [vh]; exact hl) hs) fun vN y uU=>?_
 ·refine (g0 rfl).trans ?_
  unfold BW; rw [yD]; rfl
 ·unfold IH BW
  rw [vl,xh,wz]; rfl
 ·rw [vh,xc]
  show _+(3-_)≤sizeLine
  exact vv (wx (Nat.add_sub_cancel' hk)) (by decide)
 ·unfold BB BW
  rw [vl,yD,xh]; rfl
 ·exact vv (yB (z9 _ _) _) (by decide)
 ·rw [vh]; exact wb ht (by decide)
 ·rw [vh]; exact wb ht (by decide)
 ·refine (g5 rfl).trans ?_
  rw [hn]; rfl
 ·refine Eq.trans vF.2.1 ?_
  unfold Dl AN
  rw [wz]; rfl
 ·exact .cons (Te (ss:=ss) (e1:=uV.choose) (e2:=(uU rfl).choose) uV.choose_spec (uU rfl).choose_spec (by decide)) fun vM y y=>.nil fun P hP=>by
   have z:JD (0+m) (eD (uW.d 0)):=vG
   rw [zW] at z
   exact z
inductive Kz (w:zt) (s:zr) (aS:Nat) (dS:zu) (pos:Pos) (pN:ze):Prop
 | mk (s':zr) (qF:Code) (pos':Pos) (vs:Array zq) (n:Nat) (go:Go pw w s ⟨denote table (P8 aS),P8 aS,pos,pN⟩ s' ⟨.pure (.done (.ret (.bool true))),qF,pos',pN⟩) (os:s'.os=s.os) (h1:s'.heap.get? aS=some (A0 dS)) (h2:s'.heap.get? 898=some (Io (.fields vs)))
  (old:∀ a o,s.heap.get? a=some o→a≠aS→a≠898→s'.heap.get? a=some o) (gens:s'.gens=gF n) (life:s'.heap.life=s.heap.life):Kz w s aS dS pos pN
theorem cZ(P:zp):(A5 P).get 898=none:=by kernel_rfl
theorem JD.fld{n:Nat}{D:zu}(h:JD n (eD D)):∃ vs,D=.fields vs:=by
 have h:∃ vs,eD D=.fields vs:=by
  cases n with
  | zero=>exact ⟨_,h⟩
  | succ n=>obtain ⟨a,h⟩:=h; exact ⟨_,h⟩
 obtain ⟨vs,h⟩:=h
 cases D with
 | fields xs=>exact ⟨xs,rfl⟩
 | _=>cases h
theorem UO{s:zr}{aS:Nat}{dS:zu}(ho:s.heap.get? aS=some (A0 dS))(rB:s.heap.get? 898=some (Io (.fields #[])))(hk:N8 (A5 w.2) s)(hg:s.gens=gF 0)(si:974≤aS)(pos:Pos){pN:ze}(qq:H7 ⟨0,Hl⟩ pN){k wy m:Nat}{o:Option Int}{rounds:Int}{t0 t1 s':zl}{pg:Dy}{ss:zj}{s4:RS}{DL DN DI DK DX DT DU DV DJ:zu}
  (ch:Ck (fun l y=>JD m (ud l 5 0)) pw (wf w b b2) (A5 w.2) ⟨0,Hl⟩ (fun P=>P=[]) (cY w.2 (oI o.isSome (o.getD 0)) k wy m rounds t0 t1 s' pg ss s4 DL DN DI DK DX DT DU DV DJ [eD dS,eD (.fields #[])]) []):Kz (wf w b b2) s aS dS pos pN:=by
 obtain ⟨d,ed⟩:=X6 qq hg
 have ed:pN.map Frame.where_=(RI 0 0 d).2:=vm (·.2) ed
 have ne:aS≠898:=by lia
 have own:∀ q∈[aS,898].zip [A0 dS,Io (.fields #[])],s.heap.get? q.1=some q.2:=fun q m=>by
  rcases m with _ | ⟨_,_ | ⟨_,m⟩⟩
  ·exact ho
  ·exact rB
  ·cases m
 have HL:BA (A5 w.2) s ([aS,898].zip [eO (A0 dS),eO (Io (.fields #[]))]++[]):=by
  refine ⟨hk,fun q m=>?_,wZ.mpr ⟨fun m=>ne (xX.mp m),wZ.mpr ⟨(nomatch ·),.nil⟩⟩,fun q m=>?_⟩<;>rcases m with _ | ⟨_,_ | ⟨_,m⟩⟩
  ·exact ⟨_,ho,rfl⟩
  ·exact ⟨_,rB,rfl⟩
  ·cases m
  ·exact PF si
  ·exact cZ _
  ·cases m
 obtain ⟨D0,P0,sub⟩:=LM (os:=[A0 dS,Io (.fields #[])]) HL rfl rfl own
 rw [hg] at D0 P0
 have H':Jj (fun l r=>d9 r=Vo aS dS (0+m) s.os l r) (cY w.2 (oI o.isSome (o.getD 0)) k wy m rounds t0 t1 s' pg ss s4 DL DN DI DK DX DT DU DV DJ [eD dS,eD (.fields #[])]) [] (XK w b b2 (kf o.isSome) s.heap.objs.size s.drawn s.toks s.os pos d aS dS (.fields #[])):=by
  refine GB _ _ _ fun us hu=>?_
  have h:=xD (xD (xD (xD (xD (xD (xD (xD (xD (xD (wU.mp (UQ w b2 k wy m (o.getD 0) rounds t0 t1 s' pg ss s4 DL DN DI DK DX DT DU DV DJ) _ (UR o.isSome b)) s.heap.objs.size) s.drawn) s.toks) s.os) pos) d) aS) dS) (.fields #[])) (fun i=>us.getD i U0)
  unfold nR nQ at h
  rw [show L3 20 (fun i=>us.getD i U0)=us from (Vq us hu).symm] at h
  rw [w9]
  exact ⟨vm Prod.fst h,vm Prod.snd h⟩
 obtain ⟨l1,r,s1,t1,x1,P1,E,go1,S1,X1,hO,HP1,K1,N1,Q1⟩:=FH qq ch (ed ▸ HG qq.qt cS (vv qq.len (by decide)) D0) H' rfl P0
 have e1:r.ry=r.ru:=vm (fun x=>x.1) E
 have e2:r.fin?=some (.done (.ret (.bool true))):=vm (fun x=>x.2.1) E
 have e3:r.pN=[]:=vm (fun x=>x.2.2.1) E
 have e4:r.x.T.get 0=some (aS,A0 dS):=vm (fun x=>x.2.2.2.1) E
 have e5:r.x.T.get 1=some (898,Io (VI r)):=vm (fun x=>x.2.2.2.2.1) E
 have e6:eD (VI r)=ud l1 5 0:=vm (fun x=>x.2.2.2.2.2.1) E
 have e7:r.x.gens=gF (0+m):=vm (fun x=>x.2.2.2.2.2.2.1) E
 have e8:r.x.os=s.os:=vm (fun x=>x.2.2.2.2.2.2.2) E
 clear E
 rw [← e6] at hO
 obtain ⟨vs,ev⟩:=hO.fld
 rw [ev] at e5
 obtain ⟨X2,s2,r8,go2,D2,K2⟩:=S1.toFin e1 e2
 have X:=X1.trans X2
 have KK:AP r.x [] s s2:=(K1.ext X2).trans N1 (AP.of K2)
 rw [e3] at go2
 refine ⟨s2,r.cd,r8,vs,0+m,go1.trans go2,D2.os.trans e8,D2.own _ _ _ e4,D2.own _ _ _ e5,fun a o h n1 n2=>?_,D2.gens.trans e7,KK.1⟩
 refine KK.2 a o h (fun j o' z=>?_) (fun m=>nomatch m)
 rcases X.bwd j a o' z with ⟨sy,z'⟩ | z'
 ·rcases wK.mp (sub _ _ _ z') with e | e
  ·exact n1 e
  ·exact n2 (xX.mp e)
 ·exact absurd (xm h) (xK.mpr z')
section
theorem Nk:∀ (ns:za) (G:GS),(∀ c,(G.sc c).length≤G.ord.length)→∀ c,((A3 G ns).sc c).length≤(A3 G ns).ord.length
 | [],_,h=>h
 | q::ns,G,h=>Nk ns (Co G q.1 q.2) (Nl h)
theorem Oa:∀ (ns:za) (o:zl),cH o ns=true→Me o ns
 | [],_,_=>trivial
 | (x,l)::ns,o,h=>by
  have h:(!o.contains x&&l.all o.contains&&decide l.Nodup&&Nat.ble l.length 3&&cH (o++[x]) ns)=true:=h
  have g:=bl (bl h)
  refine ⟨fun m=>?_,fun c m=>xW.mp (wG.mp (br (bl g)) c m),x7 (br g),w8 (br (bl h)),Oa ns _ (br h)⟩
  have h1:=bl (bl g)
  rw [xW.mpr m] at h1; cases h1
section
variable{ns:za}(hq:H3 (A3 G0 ns) (GC ns))(rt:∀ c,((A3 G0 ns).sc c).length < 20)
include hq rt
theorem V3{q:zl×Nat}(h:d7 ns q=true):Vb ns q.1 (pT ns q.1)∧q.1.length≤40∧(AA q.1 (pT ns q.1)).length≤20∧AA q.1 (pT ns q.1)≠[]:=by
 have h1:=bl (bl (bl h))
 have h2:=w8 (br (bl (bl h)))
 have h3:=w8 (br (bl h))
 have h4:=br h
 obtain ⟨gs,e⟩:=wM.mp h1
 have e2:pT ns q.1=gs:=by unfold pT; rw [e]; rfl
 refine ⟨⟨hq,by rw [e2]; exact e,vv h2 (by decide),vv h3 (by decide),rt⟩,h2,vv (Mn _ _) h3,fun k=>?_⟩
 rw [k] at h4; cases h4
theorem Nc{lv:zb}{most:Int}(h:L7 ns lv (E3 (pT ns) lv most).1=true):Zo ns (pT ns) lv most:=by
 have k:=fun q m=>V3 hq rt (q:=q) (wG.mp (br (bl (bl (bl (bl h))))) q m)
 refine ⟨fun e=>?_,w8 (br (bl (bl (bl (bl (bl h)))))),fun q m=>⟨(k q m).1,(k q m).2.1,(k q m).2.2.1⟩,fun q m=>(k q m).2.2.2,yC.mpr ⟨w8 (br (bl (bl (bl h)))),zO (w8 (br (bl (bl h))))⟩,br (bl h),x7 (br h)⟩
 have h1:=bl (bl (bl (bl (bl (bl h)))))
 rw [e] at h1; cases h1
theorem Hw(nm:zm):∀ (n:Nat) (s:RS) {lv:zb} {sets most:Int},K6 ns n s.lv s.sets s.most=some (lv,sets,most)→FK ns nm (pT ns) n s∧(JQ nm (pT ns) n s).lv=lv∧(JQ nm (pT ns) n s).sets=sets∧(JQ nm (pT ns) n s).most=most
 | 0,s,_,_,_,h=>by cases h; exact ⟨trivial,rfl,rfl,rfl⟩
 | n+1,s,lv,sets,most,h=>by
  have h:(match L7 ns s.lv (E3 (pT ns) s.lv s.most).1 with
  | true=>K6 ns n (LA nm (pT ns) s).lv (LA nm (pT ns) s).sets (LA nm (pT ns) s).most
  | false=>none)=some (lv,sets,most):=h
  cases e:L7 ns s.lv (E3 (pT ns) s.lv s.most).1 with
  | false=>rw [e] at h; cases h
  | true=>
   rw [e] at h
   obtain ⟨a,b⟩:=Hw nm n (LA nm (pT ns) s) h
   exact ⟨⟨Nc hq rt e,a⟩,b⟩
end
structure Vm(p:PA)(ol:zl)(wy:Nat)(sets most:Int)(m:Nat):Prop where
 run:K6 (C7 p) 4 [([],1)] 1 0=some ([(ol,wy)],sets,most)
 um:cH [] (C7 p)=true
 l4:(C7 p).length=4
 cy:MG (A3 G0 (C7 p)).sc 30 (A3 G0 (C7 p)).ord []=true
 ok:H3 (A3 G0 (C7 p)) (GC (C7 p))
 rA:ol.length≤60
 rr:Ei 6 (BH (GC (C7 p)) (A3 G0 (C7 p))) (GC (C7 p)) (Fp (GC (C7 p)) (GC (C7 p)).length)=some m
 ko:p.rk.o=(wy:Nat)
 kz:p.rk.z=sets
 km:p.rk.m=most
 kr:p.rk.r=(m:Nat)
 ks:Ah (p.pg.map Zm)=Ah ol
theorem VQ{p:PA}{ol:zl}{wy:Nat}{sets most:Int}{m:Nat}(hr:K6 (C7 p) 4 [([],1)] 1 0=some ([(ol,wy)],sets,most))(hm:Ei 6 (BH (GC (C7 p)) (A3 G0 (C7 p))) (GC (C7 p)) (Fp (GC (C7 p)) (GC (C7 p)).length)=some m)(h:di p ol wy sets most m=true):Vm p ol wy sets most m:=
 have g:=bl (bl (bl (bl (bl h))))
 ⟨hr,bl (bl (bl (bl g))),wq (br (bl (bl (bl g)))),br (bl (bl g)),x7 (br (bl g)),w8 (br g),hm,x7 (br (bl (bl (bl (bl h))))),x7 (br (bl (bl (bl h)))),x7 (br (bl (bl h))),x7 (br (bl h)),x7 (br h)⟩
theorem VR{p:PA}(h:ZO p=true):∃ ol wy sets most m,Vm p ol wy sets most m:=by
 unfold ZO at h
 rcases e:K6 (C7 p) 4 [([],1)] 1 0 with _ | ⟨lv,sets,most⟩
 ·rw [e] at h; cases h
 rw [e] at h
 rcases lv with _ | ⟨⟨ol,wy⟩,_ | ⟨_,_⟩⟩
 ·cases h
 ·cases em:Ei 6 (BH (GC (C7 p)) (A3 G0 (C7 p))) (GC (C7 p)) (Fp (GC (C7 p)) (GC (C7 p)).length) with
  | none=>rw [em] at h; cases h
  | some m=>rw [em] at h; exact ⟨ol,wy,sets,most,m,VQ e em h⟩
 ·cases h
theorem Mg{nm:zm}{ns:za}(h:ns≠[]):∃ X,CX nm ns none=some X:=by
 have k:∀ (ns:za) (s:Option Str),ns≠[]∨s.isSome=true→(CX nm ns s).isSome=true:=fun ns=>by
  induction ns with
  | nil=>exact fun s h=>h.elim (fun h=>absurd rfl h) id
  | cons q r ih=>exact fun s z=>ih _ (.inr rfl)
 exact wM.mp (k ns none (.inl h))
section
variable{p:PA}{ol:zl}{wy:Nat}{sets most:Int}{m:Nat}(h:Vm p ol wy sets most m)
include h
theorem Vm.sc:∀ c,((A3 G0 (C7 p)).sc c).length < 20:=fun c=>by
 have k:=Nk (C7 p) G0 (fun q=>vp _) c
 have e:(A3 G0 (C7 p)).ord.length=4:=by rw [C4]; exact (vh _).trans h.l4
 lia
theorem XJ{nm:zm}(hn:DQ nm)(kl:Ik nm):m6 nm (C7 p) (JQ nm (pT (C7 p)) 4 Ih) wy (m:Nat) ((Ah ol).map nm):=by
 intro w b b2 E R ts en pL pX hE nd hD h4
 have ne:C7 p≠[]:=fun e=>by have:=h.l4; rw [e] at this; cases this
 obtain ⟨X,hX⟩:=Mg (nm:=nm) ne
 obtain ⟨a1,a2,a3,a4⟩:=Hw h.ok h.sc nm 4 Ih h.run
 intro P hP
 refine ((XI w b b2 pL nm (JQ nm (pT (C7 p)) 4 Ih) ol wy _ (m:Nat) ((Ah ol).map nm) pX pX hn kl hE nd ⟨Oa _ _ h.um,wx h.l4,ne,h.cy⟩ hD h4 hX a1 rfl a2 h.ok h.sc h.rr rfl rfl (wb h.rA (by decide)) rfl rfl) P hP).drop ?_
 rintro e L ⟨DR,A,P',hφ,⟨L1,pm⟩,sub,he,rfl⟩
 subst hP
 refine ⟨(Zb pL pX (JQ nm (pT (C7 p)) 4 Ih) wy (m:Nat) DR).pV A++P,L1,?_,⟨DR,A,P,⟨hφ,rfl⟩,fun q m=>m,he,rfl⟩⟩
 rw [vj]
 exact pm.append_left _
end
theorem KY{t0 t1:zl}:∀ (p:PA),Zl p=true→(p.pe (fL t0 t1)).pg.map (fun s=>(⟨⟨s⟩⟩:Str))=(p.pg.map Zm).map (Ts t0 t1)
 | .leaf [c],_=>rfl
 | .node a t x y,h=>by
  obtain ⟨h,h2⟩:=vz.mp h
  obtain ⟨_,h1⟩:=vz.mp h
  show ((x.pe (fL t0 t1)).pg++(y.pe (fL t0 t1)).pg).map _=((x.pg++y.pg).map Zm).map _
  rw [vl,KY x h1,KY y h2,vl,vl]
def CT(n x:Nat):Kx:=(x % (n+1),decide (12≤x),decide (x / 6 % 2=1))
theorem II{n x:Nat}(hn:n < 3)(hx:x < 24):QM n x (CT n x).1 (CT n x).2.1 (CT n x).2.2:=by
 have h:∀ n:Nat,n < 3→∀ x:Nat,x < 24→((x:Int).fmod ((n+1:Nat):Int)=((CT n x).1:Nat)∧decide ((x:Int)≥12)=(CT n x).2.1∧((x:Int).fdiv 6).fmod ((1+1:Nat):Int)=bif (CT n x).2.2 then 1 else 0):=by decide +kernel
 obtain ⟨a,b,c⟩:=h n hn x hx
 exact ⟨a,b,c⟩
theorem CK{n x:Nat}:CT n x∈nums (n+1):=by
 refine yw.mpr ⟨x % (n+1),yo.mpr (Nat.mod_lt _ (Nat.succ_pos _)),?_⟩
 have k:∀ a b:Bool,(a,b)∈[(false,false),(false,true),(true,false),(true,true)]:=by decide
 exact vo (f:=Prod.mk (x % (n+1))) (k (decide (12≤x)) (decide (x / 6 % 2=1)))
theorem YM(xs:List Int):∃ x1 x2 x3:Nat,x1 < 24∧x2 < 24∧x3 < 24∧IH xs=[(x1:Int),(x2:Int),(x3:Int)]:=by
 have k:∀ x:Int,∃ n:Nat,n < 24∧x.fmod 24=(n:Int):=fun x=>by
  obtain ⟨n,e⟩:=yk (yu x (b:=24) (by decide))
  exact ⟨n,Int.ofNat_lt.mp (e ▸ zM x (b:=24) (by decide)),e⟩
 match xs with
 | []=>exact ⟨0,1,6,by decide,by decide,by decide,rfl⟩
 | [a]=>
  obtain ⟨n,h,e⟩:=k a
  refine ⟨n,1,6,h,by decide,by decide,?_⟩
  show [a.fmod 24,1,6]=_
  rw [e]; rfl
 | [a,b]=>
  obtain ⟨n,h,e⟩:=k a
  obtain ⟨n2,h2,e2⟩:=k b
  refine ⟨n,n2,6,h,h2,by decide,?_⟩
  show [a.fmod 24,b.fmod 24,6]=_
  rw [e,e2]; rfl
 | a::b::c::r=>
  obtain ⟨n,h,e⟩:=k a
  obtain ⟨n2,h2,e2⟩:=k b
  obtain ⟨n3,h3,e3⟩:=k c
  refine ⟨n,n2,n3,h,h2,h3,?_⟩
  show [a.fmod 24,b.fmod 24,c.fmod 24]=_
  rw [e,e2,e3]
theorem NS(x:Int):∃ t∈Ju,MQ x=⟨⟨t⟩⟩:=by
 unfold MQ
 have h0:0≤x.fmod 4:=yu x (by decide)
 have h1:x.fmod 4 < 4:=zM x (by decide)
 rcases (by lia:x.fmod 4=0∨x.fmod 4=1∨x.fmod 4=2∨x.fmod 4=3) with e | e | e | e<;>rw [e]
 ·exact ⟨[],.head _,rfl⟩
 ·exact ⟨[39],.tail _ (.head _),rfl⟩
 ·exact ⟨[34],.tail _ (.tail _ (.head _)),rfl⟩
 ·exact ⟨[32],.tail _ (.tail _ (.tail _ (.head _))),rfl⟩
theorem XA(xs:List Int):∃ t0∈Ju,∃ t1∈Ju,(BB xs).map MQ=⟨⟨t0⟩⟩::⟨⟨t1⟩⟩::((BB xs).map MQ).drop 2:=by
 have k:∀ (y z:Int) (r:List Int),∃ t0∈Ju,∃ t1∈Ju,(y::z::r).map MQ=⟨⟨t0⟩⟩::⟨⟨t1⟩⟩::((y::z::r).map MQ).drop 2:=fun y z r=>by
  obtain ⟨t,m,e⟩:=NS y
  obtain ⟨t',m',e'⟩:=NS z
  refine ⟨t,m,t',m',?_⟩
  rw [vu,vu,e,e']; rfl
 unfold BB
 match (xs.drop 3).take 2 with
 | []=>exact k 0 0 []
 | [y]=>exact k y 0 [0]
 | y::z::r=>exact k y z (r++[0,0])
theorem VP:((nums 3).all fun c1=>(nums 2).all fun c2=>(nums 1).all fun c3=>ZO (fZ c1 c2 c3))=true:=by decide +kernel
theorem UP{s:zr}{aS:Nat}{dS:zu}(ho:s.heap.get? aS=some (A0 dS))(rB:s.heap.get? 898=some (Io (.fields #[])))(hk:N8 (A5 w.2) s)(hg:s.gens=gF 0)(si:974≤aS)(pos:Pos){pN:ze}(qq:H7 ⟨0,Hl⟩ pN){es:Nat}{xs:List Int}(hS:eD dS=.seq ⟨BW xs⟩ es)(hx:xs.length≤63):Kz (wf w b b2) s aS dS pos pN:=by
 obtain ⟨x1,x2,x3,l1,l2,l3,hn⟩:=YM xs
 obtain ⟨t0,m0,t1,m1,ht⟩:=XA xs
 have hN:Jk x1 x2 x3 (CT 2 x1) (CT 1 x2) (CT 0 x3):=⟨zQ (Nat.mod_lt _ (by decide)),zQ (Nat.mod_lt _ (by decide)),Nat.mod_one _,II (by decide) l1,II (by decide) l2,II (by decide) l3⟩
 have hc:=wG.mp (wG.mp (wG.mp VP _ (CK (n:=2) (x:=x1))) _ (CK (n:=1) (x:=x2))) _ (CK (n:=0) (x:=x3))
 have hw:=wG.mp (wG.mp (wG.mp Zv _ (CK (n:=2) (x:=x1))) _ (CK (n:=1) (x:=x2))) _ (CK (n:=0) (x:=x3))
 have hp:Em (97::t0) [98] [99] (100::t1) (CT 2 x1) (CT 1 x2) (CT 0 x3)=(fZ (CT 2 x1) (CT 1 x2) (CT 0 x3)).pe (fL t0 t1):=(U4 (f:=fL t0 t1) rfl [0] [1] [2] [3] _ _ _).symm
 generalize fZ (CT 2 x1) (CT 1 x2) (CT 0 x3)=q at hc hw hp
 have w7:=br hw
 have w1:=bl (bl (bl (bl (bl (bl hw)))))
 cases q with
 | leaf s=>cases w1
 | node a t x y=>
  obtain rfl:a=0:=wq (bl (bl w7))
  obtain ⟨ol,wy,sets,most,m,k⟩:=VR hc
  obtain ⟨qW,htk⟩:=NL m0 m1 w1
  obtain ⟨nmo,klx⟩:=YO m0 m1
  have w3:=w8 (br (bl (bl (bl (bl hw)))))
  have w4:=w8 (br (bl (bl (bl hw))))
  have w5:=wq (br (bl (bl hw)))
  have w6:=w8 (br (bl hw))
  have hm:=Kb (fL t0 t1) (Ka (br (bl (bl (bl (bl (bl hw)))))))
  have iw:=D7 (fL t0 t1) (.node 0 t x y)
  obtain ⟨_,a2,a3,a4⟩:=Hw k.ok k.sc (Ts t0 t1) 4 Ih k.run
  have lt:∀ t∈Ju,t.length≤5:=by decide
  have iv:∀ z:PA,z.er=(PA.node 0 t x y).pe (fL t0 t1)→o6 ((PA.node 0 t x y).pe (fL t0 t1)) z:=fun z e=>by rw [← e]; exact Bq z
  refine UO ho rB hk hg si pos qq (Yb (m:=((PA.node 0 t x y).pe (fL t0 t1)).lines) (s:=((PA.node 0 t x y).pe (fL t0 t1)).wt) (pg:=((PA.node 0 t x y).pe (fL t0 t1)).pg) (s4:=JQ (Ts t0 t1) (pT (C7 (.node 0 t x y))) 4 Ih) (wy:=wy) (rounds:=(m:Nat)) hS hx rfl hn ht (lt _ m0) (lt _ m1) hN hp ?_ ?_ ?_ (XJ k nmo klx) ?_ ?_ ?_)
  ·intro z e
   have i:=iv z e
   have h1:WC z.val z.lp z.wt z.lines 1 0:=Jq z 1 0 (OA (by rw [e]; exact qW)) (vp _) (by rw [← i.qa,iw.qa]; lia) (by rw [← i.lines,iw.lines]; lia)
   show WC _ _ _ _ _ _
   rw [i.wt,i.lines]
   exact @h1
  ·intro z e
   have i:=iv z e
   have lv:z.qX≤4:=wx (i.qX.symm.trans (iw.qX.trans w5))
   exact ⟨Jv z 1 (Jt (by rw [e]; exact htk)) lv (by rw [← i.qa,iw.qa]; lia),i.wt.symm,lv⟩
  ·intro z e R hR
   have i:=iv z e
   have h1:=K7 (w:=w) (b:=b) (b2:=b2) z 1 (Kc (by rw [e]; exact hm)) (by rw [← i.qa,iw.qa]; lia) R hR
   rw [← i.pg,← i.rk,iw.rk,k.ko,k.kz,k.km,k.kr,← a3,← a4] at h1
   exact h1
  ·intro z ah D1 D2 K R e hT
   exact cK w7 e w5 hT
  ·rw [iw.tv]; exact wb w6 (by decide)
  ·intro qG p1 p2
   rw [KY _ w7] at p1
   rw [nmo.sS _ qG p1 p2,k.ks]
end
noncomputable def E9(tb:String→Option Builtin)(p:zv)(w:zt)(n₀:Nat)(ann:Option zq):Nat→SharedT→Thread→Option SharedT
 | 0,_,_=>none
 | n+1,s,t=>match through t with
  | true=>some s
  | false=>match stepOk n₀ ann t with
   | false=>none
   | true=>match stepT (denote tb) p w s t with
    | some r=>E9 tb p w n₀ ann n r.1 r.2
    | none=>none
theorem HB(tb:String→Option Builtin)(p:zv)(w:zt)(n₀:Nat)(ann:Option zq)(n:Nat)(s:SharedT)(t:Thread):E9 tb p w n₀ ann (n+1) s t=(match through t with
  | true=>some s
  | false=>match stepOk n₀ ann t with
   | false=>none
   | true=>match stepT (denote tb) p w s t with
    | some r=>E9 tb p w n₀ ann n r.1 r.2
    | none=>none):=rfl
theorem Fx{tb:String→Option Builtin}{p:zv}{w:zt}{n₀:Nat}{ann:Option zq}:∀ {n:Nat} {s s':SharedT} {t:Thread},E9 tb p w n₀ ann n s t=some s'→topRun tb p w n₀ ann n s.abs t=some s'.abs
 | 0,_,_,_,h=>by cases h
 | n+1,s,s',t,h=>by
  rw [HB] at h
  unfold topRun
  cases ht:through t with
  | true=>rw [ht] at h; cases h; rfl
  | false=>
   rw [ht] at h
   cases hk:stepOk n₀ ann t with
   | false=>rw [hk] at h; cases h
   | true=>
    rw [hk] at h
    cases hs:stepT (denote tb) p w s t with
    | none=>rw [hs] at h; cases h
    | some r=>rw [hs] at h; rw [stepT_spec (s':=r.1) (t':=r.2) hs]; exact Fx h
noncomputable def EB(p:zv)(w:zt)(n₀:Nat)(ann:Option zq):Nat→SharedT→Thread→Option SharedT
 | 0,_,_=>none
 | n+1,s,t=>match through t with
  | true=>some s
  | false=>match PySem.W.Fast.tw6613529449190102663 n₀ ann t with
   | false=>none
   | true=>match PySem.W.Fast.tw10156331382660048174 qg p w s t with
    | some r=>EB p w n₀ ann n r.1 r.2
    | none=>none
theorem MP(p:zv)(w:zt)(n₀:Nat)(ann:Option zq)(n:Nat)(s:SharedT)(t:Thread):EB p w n₀ ann (n+1) s t=(match through t with
  | true=>some s
  | false=>match PySem.W.Fast.tw6613529449190102663 n₀ ann t with
   | false=>none
   | true=>match PySem.W.Fast.tw10156331382660048174 qg p w s t with
    | some r=>EB p w n₀ ann n r.1 r.2
    | none=>none):=rfl
theorem Fy{p:zv}{w:zt}{n₀:Nat}{ann:Option zq}:∀ (n:Nat) (s:SharedT) (t:Thread),EB p w n₀ ann n s t=E9 treeTable p w n₀ ann n s t
 | 0,_,_=>rfl
 | n+1,s,t=>by
  rw [MP,HB,← PySem.W.Fast.te6613529449190102663,← PySem.W.Fast.te10156331382660048174,← Be,table_eq_tree]
  simp only [Fy n]
noncomputable def Su:List Obj→BT→Nat→Option (BT×Nat)
 | [],t,n=>some (t,n)
 | o::l,t,n=>match ((t.ins n o).get n).isSome with
  | true=>Su l (t.ins n o) (n+1)
  | false=>none
theorem LW(life:Life):∀ (l:List Obj) (t:BT) (n:Nat) (t':BT) (n':Nat),Su l t n=some (t',n')→absHeap t' n' life=⟨(absHeap t n life).objs++l.toArray,life⟩
 | [],t,n,t',n',h=>by
  cases h
  show Heap.mk _ _=Heap.mk _ _
  simp
  rfl
 | o::l,t,n,t',n',h=>by
  have h:(match ((t.ins n o).get n).isSome with | true=>Su l (t.ins n o) (n+1) | false=>none)=some (t',n'):=h
  cases q:((t.ins n o).get n).isSome with
  | false=>rw [q] at h; cases h
  | true=>
   rw [q] at h
   rw [LW life l _ _ _ _ h,absHeap_ins q]
   show Heap.mk _ _=Heap.mk _ _
   simp [Heap.push]
def mO(s:zr):Option SharedT:=(Su s.heap.objs.toList .nil 0).map fun r=>⟨r.1,r.2,s.heap.life,s.gens,s.drawn,s.toks,s.os⟩
theorem R6{s:zr}{sT:SharedT}(h:mO s=some sT):sT.abs=s:=by
 obtain ⟨⟨objs,life⟩,gens,drawn,toks,os⟩:=s
 obtain ⟨⟨t',n'⟩,h1,h2⟩:=xZ.mp h
 subst h2
 have z:=LW life _ _ _ _ _ h1
 show (⟨absHeap t' n' life,gens,drawn,toks,os⟩:zr)=_
 rw [z]
 have:(absHeap BT.nil 0 life).objs=#[]:=rfl
 simp [this]
noncomputable def Df(p:zv)(w:zt)(N:Nat):Option SharedT:=
 ((PySem.W.Fast.tw10274390034422433532 PySem.W.Fast.tw14364793385576792824 (opening p) w N (PySem.W.Fast.tw1435165496053646825 (opening p)).1 (PySem.W.Fast.tw1435165496053646825 (opening p)).2).bind (PySem.W.Fast.tw14289696077712309145 p)).bind fun s₀=>
  match s₀.heap.isNs mainGlobals&&s₀.gens.size==0 with
  | true=>(mO s₀).bind fun sT=>(EB p w s₀.heap.objs.size (s₀.heap.nsMap mainGlobals "__annotations__") N sT (topStub p)).bind fun s₁=>
   match staticsOk (importedModules p.main.body) s₀.heap s₁.abs.heap&&namesBound p s₁.abs.heap&&gensDone s₁.abs&&laidKept s₀.heap s₁.abs.heap with
   | true=>some s₁
   | false=>none
  | false=>none
theorem J8{p:zv}{w:zt}{N:Nat}{s₁:SharedT}(h:Df p w N=some s₁):openEnds treeTable p w N=some s₁.abs:=by
 unfold Df at h
 rw [← PySem.W.Fast.te10274390034422433532,← yg,← PySem.W.Fast.te1435165496053646825,← PySem.W.Fast.te14289696077712309145] at h
 obtain ⟨s₀,h0,h⟩:=ym.mp h
 unfold openEnds fencedOpening
 rw [h0]
 show topFrom treeTable p w N s₀=_
 unfold topFrom
 cases q:(s₀.heap.isNs mainGlobals&&s₀.gens.size==0) with
 | false=>rw [q] at h; cases h
 | true=>
  rw [q] at h
  dsimp only at h ⊢
  obtain ⟨sT,hT,h⟩:=ym.mp h
  obtain ⟨s₂,hr,h⟩:=ym.mp h
  rw [Fy] at hr
  have z:=Fx hr
  rw [R6 hT] at z
  rw [z]
  dsimp only [Option.bind]
  cases q2:(staticsOk (importedModules p.main.body) s₀.heap s₂.abs.heap&&namesBound p s₂.abs.heap&&gensDone s₂.abs&&laidKept s₀.heap s₂.abs.heap) with
  | false=>rw [q2] at h; cases h
  | true=>
   rw [q2] at h
   cases h
   rfl
theorem UN{p q:zv}{loose:zj}{Xt:zr→Bool}{α:Type}{Yf:zr→α}{Ya:zt→α}{N:Nat}
  (h:∀ w,(Df p w N).map (fun s=>(PySem.W.Fast.tw4187177175401517315 q loose (importedModules p.main.body) Xt true s.abs,Yf s.abs))=some (openGood q loose,Ya w)):LeftO p q loose Xt Yf Ya N:=fun w=>by
 obtain ⟨s₁,h1,h2⟩:=xZ.mp (h w)
 rw [J8 h1]
 rw [← PySem.W.Fast.te4187177175401517315] at h2
 exact vm some h2
noncomputable def cF(P:zp):Obj:={ cls:=.none,data:=.fields #[] }
def Js(P:zp):Frag:=(898,cF P)::W' P
noncomputable def HC:zl:=[898,0,1,2,3,4,75,76,90,91,94,95,96,97,98,121,127,128,134,135,141,142,146,147,153,154,174,175,181,182,191,192,200,201,214,215,241,242,244,245,246,271,272,502,512,518,519,525,526,532,533,688,694,695,748,749,801,807,808,814,815,816,844,845,851,852,873,874,880,881,883,884,889,895,896,902,903,904,910,911,915,916,922,923,929,930,936,937,943,944,948,949,953,954,960,961,967,968,972,973]
theorem NQ(P:zp):HC=(Js P).map (·.1):=rfl
def f6:zv:=view pw [48]
def IQ:zj:=pw.boundNames.filter (fun n=>n != Str.ofString "law")
theorem Mo(w:zt):(Df pw w 13494).map (fun s=>(PySem.W.Fast.tw4187177175401517315 f6 IQ (importedModules pw.main.body) (fun q=>true) true s.abs,obsZ HC s.abs))=some (openGood f6 IQ,valZ Js 974 1583 w):=by kernel_rfl
theorem cT:LeftO pw f6 IQ (fun q=>true) (obsZ HC) (valZ Js 974 1583) 13494:=UN Mo
end
section
open PySem PySem.W PySem.W.X PySem.Spec PySem.Calls PyProof.Rows
def Ir(name:Str)(vs:zf):Sem Fin:=do
 match ← nsGet mainNs name with
 | some f=>do ret (← PySem.call f vs)
 | none=>unsupported "claim.caller:no-such-global"
theorem Pe{w:zt}{s:zr}{o:Obj}{name:Str}{f:zq}(ho:s.heap.get? mainGlobals=some o)(hl:nsLook name o=pure (some f))(vs:zf)(ps:Pos) :
  ∃ (k:Result→Sem Fin) (g:Bool) (l:zf),(∀ v,k (.ok (.ret v))=.pure (.done (.ret v)))∧Go pw w s ⟨Ir name vs,.builtin "claim.caller" {},ps,[]⟩ s ⟨denote table (.call f ⟨vs,[]⟩),.call f ⟨vs,[]⟩,ps,[.ret k none g l (.builtin "claim.caller" {}) ps []]⟩:=by
 have e0:∃ (pt:Option zq) (K:Obj→Sem Fin),Ir name vs=.load mainGlobals pt K∧K o=(nsLook name o>>=fun r=>match r with
  | some f=>(do ret (← PySem.call f vs))
  | none=>unsupported "claim.caller:no-such-global"):=⟨_,_,rfl,rfl⟩
 obtain ⟨pt,K,e1,e2⟩:=e0
 rw [hl] at e2
 obtain ⟨k,g,l,e3,hk⟩:∃ (k:Result→Sem Fin) (g:Bool) (l:zf),K o=.call (.call f ⟨vs,[]⟩) none g l k∧(∀ v,k (.ok (.ret v))=.pure (.done (.ret v))):=⟨_,_,_,e2,fun q=>rfl⟩
 refine ⟨k,g,l,hk,?_⟩
 rw [e1]
 refine .head ((EL rfl (by intros; intro e; cases e) (by intros; intro e; cases e)).trans ?_) (s₁:=s) (t₁:=⟨K o,.builtin "claim.caller" {},ps,[]⟩) ?_
 ·simp only [step,ho]
 ·rw [e3]
  exact .one CV
theorem Go.runN{w:zt}{s s':zr}{t t':Thread}(h:Go pw w s t s' t'):∃ n,(model pw w).runN n s t=.running s' t':=h
theorem Kj{w:zt}{s s':zr}{t:Sem Fin}{qF:Code}{pos':Pos}{v:zq}(uG:s.asleep)(go:Go pw w s ⟨t,.builtin "claim.caller" {},default,[]⟩ s' ⟨.pure (.done (.ret v)),qF,pos',[]⟩)(hl:leftWithCleanup s'.gens=false) :
  ∃ n qV,schedN (denote table) pw w n (.single s ⟨t,.builtin "claim.caller" {},default,[]⟩)=.halted (.done (.ret v)) qV∧runN (denote table) pw w n s ⟨t,.builtin "claim.caller" {},default,[]⟩=.halted (.done (.ret v)) qV∧qV.forget=s'.forget:=by
 obtain ⟨n,hn⟩:=go.runN
 have h2:(model pw w).runN (n+1) s ⟨t,.builtin "claim.caller" {},default,[]⟩=.halted (.done (.ret v)) s':=by
  rw [runN_snoc hn]
  have:=step_leaf_nil (M:=model pw w) (s:=s') (c:=qF) (p:=pos') (.ok (.ret v))
  show (match (model pw w).step s' ⟨leafOf (.ok (.ret v)),qF,pos',[]⟩ with | .go qV t''=>Run.running qV t'' | .halt o qV=>.halted o qV)=_
  rw [this]
  simp only [finish,hl,yI,yz]
  rfl
 obtain ⟨qV,a,b,c⟩:=runNI_full (denote table) pw w h2 rfl uG
 exact ⟨_,qV,a,b,c⟩
theorem Ly{R:WRecords}:∀ (xs:List WData),WShape.hasItems R xs .int=true→∃ ns:List Int,xs=ofPys (ns.map PyData.int)
 | [],_=>⟨[],rfl⟩
 | x::xs,h=>by
  unfold WShape.hasItems at h
  obtain ⟨h1,h2⟩:=vz.mp h
  obtain ⟨i,rfl⟩:=hasW_int h1
  obtain ⟨ns,rfl⟩:=Ly xs h2
  exact ⟨i::ns,rfl⟩
theorem JP{R:WRecords}{cl:Str→Option Addr}{P:zp}{ord:List DictEntry→List DictEntry}:∀ (ns:List Int) (s:zr) (r:zf×zr),layAllW R cl P ord (ofPys (ns.map PyData.int)) s=some r→r.1.map eV=ns.map (.int · 0)
 | [],s,r,e=>by
  have:layAllW R cl P ord (ofPys (List.map PyData.int [])) s=some ([],s):=by simp [ofPys,layAllW]
  rw [this] at e
  cases e; rfl
 | n::ns,s,r,e=>by
  simp only [vu,ofPys,ofPy,layAllW,layW] at e
  cases q:layAllW R cl P ord (ofPys (List.map PyData.int ns)) { s with toks:=s.toks+1 } with
  | none=>rw [q] at e; cases e
  | some r'=>
   rw [q] at e
   cases e
   have z:=JP ns { s with toks:=s.toks+1 } r' q
   show _::_=_::_
   rw [z]; rfl
theorem Kd{R:WRecords}{cl:Str→Option Addr}{P:zp}{ord:List DictEntry→List DictEntry}{ns:List Int}{s s₁:zr}{vs:zf}(e:layAllW R cl P ord [ofPy (PyData.list (ns.map PyData.int))] s=some (vs,s₁)) :
  ∃ te:zf,vs=[.ref s.heap.objs.size]∧s₁.heap.get? s.heap.objs.size=some (A0 (.seq ⟨te⟩ 0))∧te.map eV=ns.map (.int · 0):=by
 simp only [ofPy,layAllW,layW] at e
 cases q:layAllW R cl P ord (ofPys (List.map PyData.int ns)) s with
 | none=>rw [q] at e; cases e
 | some r=>
  rw [q] at e
  have hh:=lay_ints ns s r q
  have hv:=JP ns s r q
  simp only [wu,xd] at e
  obtain ⟨e1,e2⟩:=e
  refine ⟨r.1,by rw [← e1,hh],?_,hv⟩
  rw [← e2,← hh]
  exact xQ _ rfl
theorem Ou(P:zp):nsLook (Str.ofString "law") (o3 P)=pure (some (.ref 973)):=by kernel_rfl
theorem gh(P:zp):(A5 P).get mainGlobals=some (o3 P):=by kernel_rfl
theorem X5(P:zp):(A5 P).get 902=some (cE P):=by kernel_rfl
theorem pH{α β:Type}{A B:α→Prop}{C D E F G H:α→β→Prop}{R:Prop}(h:∃ a,A a∧B a∧∃ b,C a b∧D a b∧E a b∧F a b∧G a b∧H a b)(k:∀ a,A a→B a→∀ b,C a b→D a b→E a b→F a b→G a b→H a b→R):R:=
 let ⟨a,x,y,b,c,d,e,f,g,h⟩:=h; k a x y b c d e f g h
theorem pB{α β:Type}{A B:α→Prop}{C D E F G:α→β→Prop}{a:α}{b:β}(x:A a)(y:B a)(c:C a b)(d:D a b)(e:E a b)(f:F a b)(g:G a b):∃ a,A a∧B a∧∃ b,C a b∧D a b∧E a b∧F a b∧G a b:=⟨a,x,y,b,c,d,e,f,g⟩
theorem PU{r:OpenRow}{q:zv}{loose:zj}{Xt:zr→Bool}{α:Type}{Yf:zr→α}{Ya:zt→α}{d:DefRec}{uQ:List (Str×Expr)}{N:Nat}
  (left:LeftO r.prog q loose Xt Yf Ya N) (tN:defOf q r.name=some (d,uQ)) (hp:r.prog.theDef r.name=some (d.params,d.body,d.scope)) (hk:kwWritten? d.params.kwonlyargs d.params.kw_defaults=some uQ) (hR:r.toRowW.records=[]) (uc:r.writes=false)
  (k1:r.wellSaid=true) (ok:(chainsOk q&&opensWell r.prog&&(frees r.toRowW&&r.within.isEmpty))=true) (hb:r.prog.bare) (hw:r.toRowW.promised) (e:r.prog=pw)
  (call:∀ (w:zt) (s₀ s₁:zr) (args:List WData) (vs:zf) (as:List Addr),Yf s₀=Ya w→Laid r.toRowW.records w s₀ s₁ args vs as→r.toRowW.claim.pre args=true→
   ∃ v s' qF pos',Go pw w s₁ ⟨Ir r.name vs,.builtin "claim.caller" {},default,[]⟩ s' ⟨.pure (.done (.ret v)),qF,pos',[]⟩∧s'.heap.life=s₁.heap.life∧GoodWG r.toRowW.claim (classAt s₀.heap) (ExcName.means s₀.heap) args s₁ (.ok (.ret v)) s'):r.Holds:=by
 have hch:=bl (bl ok)
 have o1:=br (bl ok)
 have fp:=frees_parts (bl (br ok))
 have k6:=br (br ok)
 refine ⟨k1,hw,⟨hb,o1,by show r.makers.map _=[]; rw [fp.2.2.2.2]; rfl⟩,hw.witness,fun w=>⟨(left.behind (XP:=fun u u=>True) (fun u u=>trivial) hch w).1,fun s' qy=>?_⟩⟩
 refine Classical.byContradiction fun hG=>?_
 refine pH ((left.behind (XP:=fun u u=>True) (fun u u=>trivial) hch w).2 s' qy) fun s₀ hf uS s hT hz rY hg G0 y=>?_
 have RF:RecFacts r.toRowW.records s.heap:=recFacts_nil hR
 refine hG (pB hf uS hT (fun n hn=>?_) RF.1 RF.2.1 ?_)
 ·obtain rfl:n=r.name:=by split at hn<;>simp_all
  exact pinned_of_view hg G0 tN hp hk
 have rY:s.gens=#[]:=Array.eq_empty_of_size_eq_zero (zG.mp rY)
 have G:=RF.ground G0
 clear hG qy hg uS hf hb hw left tN hp hk k1 ok o1 hch RF
 intro args rI hlay ord hord
 refine Classical.byContradiction fun vE=>?_
 obtain ⟨q,hlaid⟩:=wM.mp (layAllW_isSome (P:=w.2) (ord:=ord) G.has args r.args s (pre_splitW rI).1)
 have hal:=layAllW_rest _ _ _ hlaid
 obtain ⟨as,rd⟩:=reads_layAllW hord _ _ _ hlaid hlay q.2.heap (fun u u e=>e)
 have L:Laid r.toRowW.records w s q.2 args q.1 as:=⟨⟨ord,hord,hlaid⟩,rd.1,rd.2.1,rd.2.2,layAllW_keeps _ _ _ hlaid,hal.1.trans rY,hal.2.2.1⟩
 obtain ⟨v,s',qF,pos',c⟩:=call w s q.2 args q.1 as y L rI
 have z:=c.2.2.laid (c:=r.toRowW.claim) fp.1 (List.isEmpty_iff.mp k6) (ident_freeW fp.2.1 fp.2.2.1 fp.2.2.2.1) L
 obtain ⟨n,qV,hh⟩:=Kj (Shared.asleep_of_life hal.2.2.2 hz) c.1 (leftWithCleanup_false_of_bare z.2.2)
 have fo:=Shared.forget_eq hh.2.2
 refine vE ⟨q.1,q.2,hlaid,n,Outcome.done (.ret v),qV,?_,?_,(fun u i x hx=>by rw [rY] at hx; simp at hx),(fun q=>by rw [uc] at q; cases q),by rw [fo.1,c.2.1,hal.2.2.2],Shared.rest_eq (fo.2.2.2.1.trans z.2.1)⟩
 ·show schedN (denote table) r.prog w n _=_
  rw [e]; exact hh.1
 ·exact (z.1.congr fo.1).elim (fun h=>h.elim fun v' k=>.inl ⟨v,rfl,by
   have e:=k.1
   cases e
   exact ⟨k.2.1,k.2.2.1,k.2.2.2.1,fun b o y u=>k.2.2.2.2.1 b o y,k.2.2.2.2.2⟩⟩) fun h=>h.elim fun e' k=>k.elim fun u k=>k.elim fun u k=>nomatch k.1
theorem Zx(w:zt):wf w (w.2.followText "special-get-raises") (w.2.followText "comprehension-iter-twice")=w:=by
 unfold wf
 rw [World.withFollow_self,World.withFollow_self]
theorem Kv{h:Heap}{p:Nat×Obj}{K:Frag}(y:AllIn h (p::K)):h.get? p.1=some p.2∧AllIn h K:=y
theorem UT{h:Heap}{t:KT}(hk:KT.Holds h 1 0 t):∀ a o,t.get a=some o→h.get? a=some o:=fun a o e=>kt_at hk e
theorem UU{s:zr}{K:Frag}(z:AllIn s.heap K):N8 (KT.of K) s:=UT (holds_of z)
theorem Wz{w:zt}{s:zr}(y:obsZ HC s=valZ Js 974 1583 w):N8 (A5 w.2) s∧s.heap.get? 898=some (Io (.fields #[]))∧s.heap.objs.size=974:=by
 obtain ⟨y1,_,y3,_⟩:=z_facts (K:=Js) (fun P=>NQ P) y
 obtain ⟨z1,z2⟩:=Kv (p:=(898,cF w.2)) (K:=W' w.2) y1
 exact ⟨UU z2,z1,y3⟩
theorem YY{ns:List Int}(hc:(WTm.and (.not (.lt (.lit (.int 63)) (.len (.arg 0)))) (.lit (.bool true))).holds [] { args:=[ofPy (PyData.list (ns.map PyData.int))] } = true):ns.length≤63:=by
 w_cond hc
 all_goals simp_all
 all_goals lia
theorem SJ{R:WRecords}{args:List WData}:(WTm.eq .res (.lit (.bool true))).value R { args:=args,res:=some (.bool true),after:=args } = some (.bool true):=by
 have e:PySem.W.same (WData.bool true) (WData.bool true)=true:=by decide +kernel
 simp [WTm.value,e]
theorem P7{w:zt}{s₀ s₁:zr}{args:List WData}{vs:zf}{as:List Addr}(y:obsZ HC s₀=valZ Js 974 1583 w)(L:Laid [] w s₀ s₁ args vs as)(rI:PySem.Challenge.rw_om0190_02.row.toRowW.claim.pre args=true) :
  ∃ v s' qF pos',Go pw w s₁ ⟨Ir (Str.ofString "law") vs,.builtin "claim.caller" {},default,[]⟩ s' ⟨.pure (.done (.ret v)),qF,pos',[]⟩∧s'.heap.life=s₁.heap.life∧GoodWG PySem.Challenge.rw_om0190_02.row.toRowW.claim (classAt s₀.heap) (ExcName.means s₀.heap) args s₁ (.ok (.ret v)) s':=by
 obtain ⟨qq,hcond⟩:=pre_splitW rI
 obtain ⟨d,r,rfl,h1,h2⟩:=hasAllW_cons qq
 obtain rfl:=hasAllW_nil h2
 obtain ⟨xs,rfl,h3⟩:=hasW_list h1
 obtain ⟨ns,rfl⟩:=Ly xs h3
 have hlen:=YY (ns:=ns) hcond
 obtain ⟨ord,_,hlaid⟩:=L.laid
 obtain ⟨te,rfl,hobj,hits⟩:=Kd hlaid
 obtain ⟨hk0,rB,y3⟩:=Wz y
 have hk:N8 (A5 w.2) s₁:=fun a o e=>L.keeps _ _ (hk0 a o e)
 have rB:s₁.heap.get? 898=some (Io (.fields #[])):=L.keeps _ _ rB
 rw [y3] at hobj ⊢
 obtain ⟨k,g,l,hkk,go1⟩:∃ (k:Result→Sem Fin) (g:Bool) (l:zf),(∀ v,k (.ok (.ret v))=.pure (.done (.ret v)))∧Go pw w s₁ ⟨Ir (Str.ofString "law") [.ref 974],.builtin "claim.caller" {},default,[]⟩ s₁ ⟨denote table (P8 974),P8 974,default,[.ret k none g l (.builtin "claim.caller" {}) default []]⟩:=
  Pe (hk _ _ (gh w.2)) (Ou w.2) [.ref 974] default
 have qq:H7 ⟨0,Hl⟩ [Frame.ret k none g l (.builtin "claim.caller" {}) default []]:=⟨rfl,rfl,vp _⟩
 obtain ⟨s',qF,pos',ws,n,go2,sE,h1',h898',hold,hgen,hlife⟩:=UP (w:=w) (b:=w.2.followText "special-get-raises") (b2:=w.2.followText "comprehension-iter-twice") hobj rB hk L.gens (vp 974) default qq (xs:=ns) (es:=0) (by show Data.seq ⟨te.map eV⟩ 0=_; rw [hits]; rfl) hlen
 rw [Zx] at go2
 refine ⟨.bool true,s',.builtin "claim.caller" {},default,?_,hlife,?_⟩
 ·refine go1.trans (go2.trans ?_)
  have z:=B' (p:=pw) (w:=w) (s:=s') (f:=.ret (.bool true)) (cd:=.builtin "claim.caller" {}) (qF:=qF) (pos:=pos') (pc:=default) (k:=k) (hd:=none) (g:=g) (l:=l) (kp:=[]) (rest:=[])
  rw [hkk] at z
  exact z
 ·have tb:isCodeTable s₁.heap 898:=⟨902,_,_,hk _ _ (X5 w.2),rfl,rfl,rfl⟩
  refine ⟨.inl ⟨_,.bool true,[],rfl,fun x=>rfl,.bool _,postW_of (r:=PySem.Challenge.rw_om0190_02.row.toRowW) (by rfl) SJ rfl,fun x=>⟨List.nodup_nil,fun x m=>nomatch m⟩⟩,⟨fun b o e=>?_,fun b o e=>?_⟩,sE,fun y m=>?_⟩
  ·by_cases q:b=974
   ·subst q
    exact .inl (h1'.trans (hobj.symm.trans e))
   ·by_cases q2:b=898
    ·subst q2
     obtain rfl:=x8 (rB.symm.trans e)
     refine .inr (.inl ⟨tb,rfl,#[],ws,rfl,?_⟩)
     rw [h898',Array.empty_append]; rfl
    ·exact .inl (hold b o e q q2)
  ·by_cases q:b=974
   ·subst q
    exact ⟨_,h1'⟩
   ·by_cases q2:b=898
    ·subst q2
     exact ⟨_,h898'⟩
    ·exact ⟨o,hold b o e q q2⟩
  ·rw [hgen] at m
   have m:y∈List.replicate n GenState.finished:=by simpa [gF] using m
   rw [List.eq_of_mem_replicate m]; rfl
theorem rf:PySem.Challenge.rw_om0190_02.row.Holds:=
 PU (q:=f6) (loose:=IQ) (Xt:=fun z=>true) (Yf:=obsZ HC) (Ya:=valZ Js 974 1583) (N:=13494) cT (by rfl) (by rfl) (by rfl) rfl rfl (row_said sX) (by decide +kernel) ⟨rfl,rfl,rfl,rfl,rfl,by decide +kernel⟩ ⟨[.list []],by decide +kernel,by decide +kernel⟩ rfl
  fun w s₀ s₁ args vs as y L rI=>P7 y L rI
end
end Mine
theorem PySem.Challenge.cw_om0190_02_holds : PySem.Challenge.rw_om0190_02.Holds :=
  ⟨Mine.sX, Mine.rf⟩
