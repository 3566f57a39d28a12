import PyProof.Rows.All
import PyProof.EqKinds
import Wide.FinOn
import OpenK.AllK
import Wide.All
import Lean
import PySem.Challenge.RW_om0190_01
set_option Elab.async false
set_option linter.all false
set_option maxRecDepth 1000000
set_option maxHeartbeats 0
set_option tactic.hygienic false
set_option genInjectivity false
set_option genSizeOf false
noncomputable section
namespace Mine
section
open PySem PySem.W PySem.W.X PySem.Spec PySem.Calls PyProof.Rows
theorem qj:PySem.Challenge.rw_om0190_01.wellSaid=true:=by
 rw [PySem.W.Fast.te9446332074065402090]
 kernel_rfl
end
section
open PySem PySem.W PySem.W.X
inductive Go (p:Program) (w:World):Shared→Thread→Shared→Thread→Prop
 | refl {s t}:Go p w s t s t
 | head {s t s₁ t₁ s' t'}:(model p w).step s t=.go s₁ t₁→Go p w s₁ t₁ s' t'→Go p w s t s' t'
theorem Go.trans{p w s t s₁ t₁ s₂ t₂}(h:Go p w s t s₁ t₁)(k:Go p w s₁ t₁ s₂ t₂):Go p w s t s₂ t₂:=by
 induction h with
 | refl=>exact k
 | head e _ ih=>exact .head e (ih k)
theorem Go.one{p w s t s₁ t₁}(e:(model p w).step s t=.go s₁ t₁):Go p w s t s₁ t₁:=.head e .refl
theorem Hm{t:Thread}(h:t.calm=true):t.loud=false:=by
 unfold Thread.calm at h
 obtain ⟨h1,h2⟩:=Bool.and_eq_true_iff.mp (Bool.and_eq_true_iff.mp h).1
 unfold Thread.loud
 revert h1 h2
 cases t.atCollectorCode<;>cases t.atExit<;>cases t.yieldsInsideHandler<;>intro a b<;>first | rfl | exact absurd a (by decide) | exact absurd b (by decide)
theorem FF{p:Program}{w:World}{s:Shared}{t:Thread}(hc:t.calm=true)(h1:∀ c,t.cur≠.pure (.again c))(h2:∀ c h g l k,t.cur≠.call c h g l k):(model p w).step s t=step (denote table) p w s t:=by
 rw [Model.step_quiet _ (Hm hc)]
 obtain ⟨cur,code,pos,stack⟩:=t
 cases cur with
 | pure f=>cases f with
  | again c=>exact absurd rfl (h1 c)
  | done f=>rfl
 | call c h g l k=>exact absurd rfl (h2 c h g l k)
 | _=>rfl
theorem DJ{p:Program}{w:World}{s:Shared}{c c':Code}{pos:Pos}{st:List Frame}(hc:Thread.calm ⟨.pure (.again c'),c,pos,st⟩=true):(model p w).step s ⟨.pure (.again c'),c,pos,st⟩=.go s ⟨denote table c',c',pos,st⟩:=by
 rw [Model.step_quiet _ (Hm hc)]; rfl
theorem Cn{p:Program}{w:World}{s:Shared}{c c':Code}{pos:Pos}{st:List Frame}{h:Option Value}{g:Bool}{l:List Value}{k:Result→Sem Fin}:(model p w).step s ⟨.call c' h g l k,c,pos,st⟩=.go s ⟨denote table c',c',pos,.ret k h g l c pos []::st⟩:=rfl
inductive TT where
 | nil
 | node (a:Nat) (o:Obj) (l r:TT)
namespace TT
noncomputable def get:TT→Nat→Option (Nat×Obj)
 | .nil,_=>none
 | .node a v l r,i=>match Nat.beq i 0 with
  | true=>some (a,v)
  | false=>match Nat.beq (i % 2) 1 with
   | true=>l.get (i / 2)
   | false=>r.get (i / 2-1)
noncomputable def set:TT→Nat→(Obj→Obj)→TT
 | .nil,_,_=>.nil
 | .node a v l r,i,f=>match Nat.beq i 0 with
  | true=>.node a (f v) l r
  | false=>match Nat.beq (i % 2) 1 with
   | true=>.node a v (l.set (i / 2) f) r
   | false=>.node a v l (r.set (i / 2-1) f)
noncomputable def ins:TT→Nat→Nat→Obj→TT
 | .nil,_,a,o=>.node a o .nil .nil
 | .node a' v l r,i,a,o=>match Nat.beq i 0 with
  | true=>.node a o l r
  | false=>match Nat.beq (i % 2) 1 with
   | true=>.node a' v (l.ins (i / 2) a o) r
   | false=>.node a' v l (r.ins (i / 2-1) a o)
theorem get_node(a:Nat)(v:Obj)(l r:TT)(i:Nat):(node a v l r).get i=if i=0 then some (a,v) else if i % 2=1 then l.get (i / 2) else r.get (i / 2-1):=by
 show (match Nat.beq i 0 with | true=>some (a,v) | false=>match Nat.beq (i % 2) 1 with | true=>l.get (i / 2) | false=>r.get (i / 2-1))=_
 rw [BT.beq_eq,BT.beq_eq]
 by_cases h:i=0
 ·simp [h]
 ·by_cases q:i % 2=1<;>simp [h,q]
theorem G3(a:Nat)(v:Obj)(l r:TT)(i:Nat)(f:Obj→Obj):(node a v l r).set i f=if i=0 then node a (f v) l r else if i % 2=1 then node a v (l.set (i / 2) f) r else node a v l (r.set (i / 2-1) f):=by
 show (match Nat.beq i 0 with | true=>node a (f v) l r | false=>match Nat.beq (i % 2) 1 with | true=>node a v (l.set (i / 2) f) r | false=>node a v l (r.set (i / 2-1) f))=_
 rw [BT.beq_eq,BT.beq_eq]
 by_cases h:i=0
 ·simp [h]
 ·by_cases q:i % 2=1<;>simp [h,q]
theorem PC(a':Nat)(v:Obj)(l r:TT)(i a:Nat)(o:Obj):(node a' v l r).ins i a o=if i=0 then node a o l r else if i % 2=1 then node a' v (l.ins (i / 2) a o) r else node a' v l (r.ins (i / 2-1) a o):=by
 show (match Nat.beq i 0 with | true=>node a o l r | false=>match Nat.beq (i % 2) 1 with | true=>node a' v (l.ins (i / 2) a o) r | false=>node a' v l (r.ins (i / 2-1) a o))=_
 rw [BT.beq_eq,BT.beq_eq]
 by_cases h:i=0
 ·simp [h]
 ·by_cases q:i % 2=1<;>simp [h,q]
theorem get_set(f:Obj→Obj):∀ (t:TT) (a i:Nat),(t.set a f).get i=if i=a then (t.get a).map (fun p=>(p.1,f p.2)) else t.get i
 | .nil,a,i=>by show (TT.nil.get i)=_; simp [get]
 | .node b v l r,a,i=>by
  rw [G3,get_node b v l r a,get_node b v l r i]
  by_cases ha:a=0
  ·subst ha
   rw [if_pos rfl,get_node]
   by_cases hi:i=0
   ·simp [hi]
   ·simp [hi]
  ·rw [if_neg ha]
   by_cases pa:a % 2=1
   ·rw [if_pos pa,get_node]
    by_cases hi:i=0
    ·have:i≠a:=by lia
     simp [hi,Ne.symm ha]
    ·by_cases pi:i % 2=1
     ·simp only [hi,pi,ha,pa,if_true,if_false,get_set f l]
      by_cases e:i=a
      ·simp [e]
      ·have:i / 2≠a / 2:=by lia
       simp [e,this]
     ·have:i≠a:=fun q=>pi (q ▸ pa)
      simp [hi,pi,this]
   ·rw [if_neg pa,get_node]
    by_cases hi:i=0
    ·simp [hi,Ne.symm ha]
    ·by_cases pi:i % 2=1
     ·have:i≠a:=fun q=>pa (q ▸ pi)
      simp [hi,pi,this]
     ·simp only [hi,pi,ha,pa,if_false,get_set f r]
      by_cases e:i=a
      ·simp [e]
      ·have:i / 2-1≠a / 2-1:=by lia
       simp [e,this]
theorem get_ins(b:Nat)(o:Obj):∀ (t:TT) (a:Nat),((t.ins a b o).get a).isSome=true→∀ i,(t.ins a b o).get i=if i=a then some (b,o) else t.get i
 | .nil,a,h,i=>by
  have e:(TT.nil.ins a b o)=node b o nil nil:=rfl
  rw [e,get_node] at h
  have ha:a=0:=by
   by_cases q:a=0
   ·exact q
   ·exfalso; revert h; by_cases p:a % 2=1<;>simp [q,p,get]
  subst ha
  rw [e,get_node]
  by_cases hi:i=0
  ·simp [hi]
  ·by_cases p:i % 2=1<;>simp [hi,p,get]
 | .node c v l r,a,h,i=>by
  rw [PC] at h ⊢
  rw [get_node c v l r i]
  by_cases ha:a=0
  ·subst ha
   rw [if_pos rfl,get_node]
   by_cases hi:i=0<;>simp [hi]
  ·rw [if_neg ha] at h ⊢
   by_cases pa:a % 2=1
   ·rw [if_pos pa] at h ⊢
    rw [get_node,if_neg ha,if_pos pa] at h
    rw [get_node]
    by_cases hi:i=0
    ·simp [hi,Ne.symm ha]
    ·by_cases pi:i % 2=1
     ·simp only [hi,pi,if_true,if_false,get_ins b o l _ h]
      by_cases e:i=a
      ·simp [e]
      ·have:i / 2≠a / 2:=by lia
       simp [e,this]
     ·have:i≠a:=fun q=>pi (q ▸ pa)
      simp [hi,pi,this]
   ·rw [if_neg pa] at h ⊢
    rw [get_node,if_neg ha,if_neg pa] at h
    rw [get_node]
    by_cases hi:i=0
    ·simp [hi,Ne.symm ha]
    ·by_cases pi:i % 2=1
     ·have:i≠a:=fun q=>pa (q ▸ pi)
      simp [hi,pi,this]
     ·simp only [hi,pi,if_false,get_ins b o r _ h]
      by_cases e:i=a
      ·simp [e]
      ·have:i / 2-1≠a / 2-1:=by lia
       simp [e,this]
end TT
section
@[irreducible] noncomputable def oS:Code→Sem Fin:=PySem.W.Fast.tw11892475500146522536 PySem.W.Fast.tw14364793385576792824
noncomputable def Ds(p:Program)(w:World)(s:Shared)(t:Thread):Step:=PySem.W.Fast.tw8437177126325714943 oS p w s t
noncomputable def Gm(t:Thread):Bool:=PySem.W.Fast.tw2348191978395082540 t
theorem C4:denote table=oS:=by
 unfold oS
 rw [table_eq_tree,← PySem.W.Fast.te11892475500146522536,← PySem.W.Fast.te14364793385576792824]
theorem NH(p:Program)(w:World)(s:Shared)(t:Thread):Ds p w s t=step (denote table) p w s t:=by
 unfold Ds
 rw [C4,← PySem.W.Fast.te8437177126325714943]
theorem BD(t:Thread):Gm t=t.calm:=by
 unfold Gm
 rw [← PySem.W.Fast.te2348191978395082540]
structure SX where
 T:TT
 m:Nat
 n:Nat
 i:Nat
 gens:Array GenState
 drawn:Drawn
 t:Nat
 ti:Nat
 os:OsState
structure Bd(kt:KT)(s:Shared)(x:SX):Prop where
 size:s.heap.objs.size=x.n+x.i
 own:∀ j a o,x.T.get j=some (a,o)→s.heap.get? a=some o
 apart:∀ j j' a o o',x.T.get j=some (a,o)→x.T.get j'=some (a,o')→j=j'
 low:∀ j p,x.T.get j=some p→j < x.m
 top:∀ a o,kt.get a=some o→s.heap.get? a=some o
 off:∀ j a o,x.T.get j=some (a,o)→kt.get a=none
 gens:s.gens=x.gens
 drawn:s.drawn=x.drawn
 toks:s.toks=x.t+x.ti
 os:s.os=x.os
inductive R where
 | bad (why:Nat) (a:Nat)
 | fin (es:List (Nat×Nat)) (f:Fin) (x:SX) (code:Code) (pos:Pos) (nj:List Frame)
 | raised (es:List (Nat×Nat)) (e:Value) (x:SX) (code:Code) (pos:Pos) (nj:List Frame)
 | stop (es:List (Nat×Nat)) (cur:Sem Fin) (x:SX) (code:Code) (pos:Pos) (nj:List Frame) (k:Sem Fin→SX→R)
 | call (es:List (Nat×Nat)) (c:Code) (hd:Option Value) (x:SX) (code:Code) (pos:Pos) (nj:List Frame) (k:Result→SX→R)
noncomputable def CM(p:Program)(w:World)(kt:KT)(b:Nat):Nat→List Nat→Nat→List Nat→Nat→List (Nat×Nat)→SX→Thread→R
 | 0,_,_,_,_,_,_,_=>.bad 0 0
 | k+1,hs,c,cs,ag,es,⟨T,m,n,i,gens,drawn,t,ti,os⟩,⟨cur,code,pos,stack⟩=>
  match Gm ⟨cur,code,pos,stack⟩ with
  | false=>.bad 9 0
  | true=>match cur with
   | .load a pt kk=>match hs with
    | []=>.bad 1 a
    | h::hs=>match h with
     | 0=>match kt.get a with
      | some o=>CM p w kt b k hs c cs ag es ⟨T,m,n,i,gens,drawn,t,ti,os⟩ ⟨kk o,code,pos,stack⟩
      | none=>.bad 2 a
     | j+1=>match T.get j with
      | some (aj,o)=>CM p w kt b k hs c cs ag ((a,aj)::es) ⟨T,m,n,i,gens,drawn,t,ti,os⟩ ⟨kk o,code,pos,stack⟩
      | none=>.stop es (.load a pt kk) ⟨T,m,n,i,gens,drawn,t,ti,os⟩ code pos stack (fun pH x'=>CM p w kt b k hs c cs ag es x' ⟨pH,code,pos,stack⟩)
   | .loadIfAlive a kk=>match hs with
    | []=>.bad 1 a
    | h::hs=>match h with
     | 0=>match kt.get a with
      | some o=>CM p w kt b k hs c cs ag es ⟨T,m,n,i,gens,drawn,t,ti,os⟩ ⟨kk (some o),code,pos,stack⟩
      | none=>.bad 2 a
     | j+1=>match T.get j with
      | some (aj,o)=>CM p w kt b k hs c cs ag ((a,aj)::es) ⟨T,m,n,i,gens,drawn,t,ti,os⟩ ⟨kk (some o),code,pos,stack⟩
      | none=>.bad 3 a
   | .update a _ f kk=>match hs with
    | []=>.bad 1 a
    | h::hs=>match h with
     | 0=>.bad 4 a
     | j+1=>match T.get j with
      | some (aj,o)=>match (f o).isFreed with
       | true=>.bad 6 a
       | false=>CM p w kt b k hs c cs ag ((a,aj)::es) ⟨T.set j f,m,n,i,gens,drawn,t,ti,os⟩ ⟨kk (),code,pos,stack⟩
      | none=>.bad 3 a
   | .alloc o kk=>match o.isFreed with
    | true=>.bad 6 0
    | false=>match ((T.ins m (n+i) o).get m).isSome with
     | true=>CM p w kt b k hs c cs ag es ⟨T.ins m (n+i) o,m+1,n,i+1,gens,drawn,t,ti,os⟩ ⟨kk (n+i),code,pos,stack⟩
     | false=>.bad 7 m
   | .fresh kk=>CM p w kt b k hs c cs ag es ⟨T,m,n,i,gens,drawn,t,ti+1,os⟩ ⟨kk (t+ti),code,pos,stack⟩
   | .call c' hd g l kk=>match c with
    | 0=>.call es c' hd ⟨T,m,n,i,gens,drawn,t,ti,os⟩ code pos stack (fun res x'=>CM p w kt b k hs (cs.headD 1000000) cs.tail ag es x' ⟨kk res,code,pos,stack⟩)
    | c+1=>CM p w kt b k hs c cs ag es ⟨T,m,n,i,gens,drawn,t,ti,os⟩ ⟨oS c',c',pos,.ret kk hd g l code pos []::stack⟩
   | .pure f=>match Nat.beq stack.length b with
    | true=>match f with
     | .done f=>.fin es (.done f) ⟨T,m,n,i,gens,drawn,t,ti,os⟩ code pos stack
     | .again c'=>match ag with
      | 0=>.fin es (.again c') ⟨T,m,n,i,gens,drawn,t,ti,os⟩ code pos stack
      | ag+1=>CM p w kt b k hs c cs ag es ⟨T,m,n,i,gens,drawn,t,ti,os⟩ ⟨oS c',c',pos,stack⟩
    | false=>match f with
     | .again c'=>CM p w kt b k hs c cs ag es ⟨T,m,n,i,gens,drawn,t,ti,os⟩ ⟨oS c',c',pos,stack⟩
     | .done f=>match Ds p w ⟨{},gens,drawn,t+ti,os⟩ ⟨.pure (.done f),code,pos,stack⟩ with
      | .go s' t'=>CM p w kt b k hs c cs ag es ⟨T,m,n,i,s'.gens,s'.drawn,t,ti,s'.os⟩ t'
      | .halt _ _=>.bad 5 0
   | .raise e=>match Nat.beq stack.length b with
    | true=>.raised es e ⟨T,m,n,i,gens,drawn,t,ti,os⟩ code pos stack
    | false=>match Ds p w ⟨{},gens,drawn,t+ti,os⟩ ⟨.raise e,code,pos,stack⟩ with
     | .go s' t'=>CM p w kt b k hs c cs ag es ⟨T,m,n,i,s'.gens,s'.drawn,t,ti,s'.os⟩ t'
     | .halt _ _=>.bad 5 0
   | cur=>match Ds p w ⟨{},gens,drawn,t+ti,os⟩ ⟨cur,code,pos,stack⟩ with
    | .go s' t'=>CM p w kt b k hs c cs ag es ⟨T,m,n,i,s'.gens,s'.drawn,t,ti,s'.os⟩ t'
    | .halt _ _=>.bad 5 0
def Hr(es:List (Nat×Nat)):Prop:=∀ q∈es,q.1=q.2
structure Bz(x x':SX):Prop where
 fwd:∀ j a o,x.T.get j=some (a,o)→∃ o',x'.T.get j=some (a,o')
 bwd:∀ j a o,x'.T.get j=some (a,o)→(∃ o',x.T.get j=some (a,o'))∨x.n+x.i≤a
 up:x.n+x.i≤x'.n+x'.i
theorem Bz.same{x x':SX}(h:x.T=x'.T)(k:x.n+x.i≤x'.n+x'.i):Bz x x':=⟨fun q q o e=>⟨o,h ▸ e⟩,fun q q o e=>.inl ⟨o,h ▸ e⟩,k⟩
theorem Bz.refl(x:SX):Bz x x:=.same rfl (Nat.le_refl _)
theorem Bz.trans{x y z:SX}(h:Bz x y)(k:Bz y z):Bz x z:=⟨fun j a o e=>let ⟨_,e'⟩:=h.fwd j a o e; k.fwd j a _ e',fun j a o e=>(k.bwd j a o e).elim (fun ⟨o',e'⟩=>h.bwd j a o' e') (fun q=>.inr (Nat.le_trans h.up q)),Nat.le_trans h.up k.up⟩
def AP(x:SX)(s s':Shared):Prop:=s'.heap.life=s.heap.life∧∀ b o,s.heap.get? b=some o→(∀ j o',x.T.get j≠some (b,o'))→s'.heap.get? b=some o
theorem AP.refl(x:SX)(s:Shared):AP x s s:=⟨rfl,fun q q h q=>h⟩
theorem AP.trans{x:SX}{s s₁ s₂:Shared}(h:AP x s s₁)(k:AP x s₁ s₂):AP x s s₂:=⟨k.1.trans h.1,fun b o e q=>k.2 b o (h.2 b o e q) q⟩
theorem AP.ext{x x':SX}{s s₁:Shared}(h:AP x s s₁)(k:Bz x x'):AP x' s s₁:=⟨h.1,fun b o e q=>h.2 b o e fun j o' z=>let ⟨r9,z'⟩:=k.fwd j b o' z; q j r9 z'⟩
noncomputable def Dm(p:Program)(w:World)(kt:KT)(x:SX):R→Shared→Thread→Prop
 | .bad _ _,_,_=>True
 | .fin es f x' code pos nj,s,t=>Hr es→Bz x x'∧∃ s',Go p w s t s' ⟨.pure f,code,pos,nj⟩∧Bd kt s' x'∧AP x' s s'
 | .raised es e x' code pos nj,s,t=>Hr es→Bz x x'∧∃ s',Go p w s t s' ⟨.raise e,code,pos,nj⟩∧Bd kt s' x'∧AP x' s s'
 | .stop es cur x' code pos nj k,s,t=>Hr es→Bz x x'∧∃ s',Go p w s t s' ⟨cur,code,pos,nj⟩∧Bd kt s' x'∧AP x' s s'∧
   ∀ pH pQ od,Bd kt od pQ→Dm p w kt pQ (k pH pQ) od ⟨pH,code,pos,nj⟩
 | .call es c hd x' code pos nj k,s,t=>Hr es→Bz x x'∧∃ s' g l kk,Go p w s t s' ⟨.call c hd g l kk,code,pos,nj⟩∧Bd kt s' x'∧AP x' s s'∧
   ∀ res pQ od,Bd kt od pQ→Dm p w kt pQ (k res pQ) od ⟨kk res,code,pos,nj⟩
noncomputable def R.es:R→List (Nat×Nat)
 | .bad _ _=>[]
 | .fin es ..=>es
 | .raised es ..=>es
 | .stop es ..=>es
 | .call es ..=>es
section
variable{p:Program}{w:World}{kt:KT}
theorem Dm.head{x x₁:SX}{r:R}{s s₁:Shared}{t t₁:Thread}(hx:Bz x x₁)(hs:(model p w).step s t=.go s₁ t₁)(hk:AP x₁ s s₁)(h:Dm p w kt x₁ r s₁ t₁):Dm p w kt x r s t:=by
 cases r with
 | bad=>trivial
 | fin es f x' code pos nj=>
  intro e
  obtain ⟨a,s',g,r,k⟩:=h e
  exact ⟨hx.trans a,s',.head hs g,r,(hk.ext a).trans k⟩
 | raised es f x' code pos nj=>
  intro e
  obtain ⟨a,s',g,r,k⟩:=h e
  exact ⟨hx.trans a,s',.head hs g,r,(hk.ext a).trans k⟩
 | stop es f x' code pos nj k=>
  intro e
  obtain ⟨a,s',g,r,k,c⟩:=h e
  exact ⟨hx.trans a,s',.head hs g,r,(hk.ext a).trans k,c⟩
 | call es c hd x' code pos nj k=>
  intro e
  obtain ⟨a,s',g,l,kk,go,r,kp,c⟩:=h e
  exact ⟨hx.trans a,s',g,l,kk,.head hs go,r,(hk.ext a).trans kp,c⟩
theorem Dm.eqs{x:SX}{r:R}{s:Shared}{t:Thread}(h:Hr r.es→Dm p w kt x r s t):Dm p w kt x r s t:=by
 cases r with
 | bad=>trivial
 | fin es=>exact fun e=>h e e
 | raised es=>exact fun e=>h e e
 | stop es=>exact fun e=>h e e
 | call es=>exact fun e=>h e e
noncomputable def sT(n:Nat):Step→Prop
 | .go s _=>s.toks=n
 | .halt _ _=>True
theorem Ip{n:Nat}{c:Prop}[Decidable c]{x y:Step}(hx:sT n x)(hy:sT n y):sT n (if c then x else y):=by
 split<;>assumption
theorem Qp{den:Code→Sem Fin}{s:Shared}{t:Thread}(hn:∀ k,t.cur≠.fresh k):sT s.toks (step den p w s t):=by
 obtain ⟨heap,gens,drawn,toks,os⟩:=s
 obtain ⟨cur,code,pos,stack⟩:=t
 cases cur with
 | fresh k=>exact absurd rfl (hn k)
 | pure f=>cases f with
  | again c=>exact rfl
  | done f=>cases stack with
   | nil=>exact Ip trivial trivial
   | cons fr rest=>cases fr<;>exact rfl
 | raise e=>cases stack with
  | nil=>exact Ip trivial trivial
  | cons fr rest=>cases fr<;>exact rfl
 | finish e=>exact Ip trivial trivial
 | update=>exact Ip rfl trivial
 | choose=>exact Ip trivial rfl
 | load a=>delta step; dsimp only; cases heap.get? a<;>first | exact rfl | trivial
 | genState g=>delta step; dsimp only; cases gens[g]?<;>first | exact rfl | trivial
 | yield=>delta step; dsimp only; cases splitAtGen stack<;>first | exact rfl | trivial
 | resume g r=>delta step; dsimp only; cases gens[g]? with
  | none=>trivial
  | some st=>cases st with
   | fresh=>cases r with
    | send v=>cases v<;>exact rfl
    | throw=>exact rfl
   | _=>exact rfl
 | _=>first | exact rfl | trivial
theorem Lq{den:Code→Sem Fin}{s s':Shared}{t t':Thread}(h:step den p w s t=.go s' t')(hn:∀ k,t.cur≠.fresh k):s'.toks=s.toks:=by
 have k:=Qp (p:=p) (w:=w) (den:=den) (s:=s) hn
 rw [h] at k
 exact k
end
end
section
noncomputable def R.isBad:R→Prop
 | .bad _ _=>True
 | _=>False
section
variable{p:Program}{w:World}{kt:KT}{b:Nat}
end
end
section
variable{p:Program}{w:World}{kt:KT}{b:Nat}
def AX(p:Program)(w:World)(kt:KT)(es:List (Nat×Nat))(x:SX)(th:Thread)(r:R):Prop:=(∀ q∈es,r.isBad∨q∈r.es)∧∀ s,Bd kt s x→Dm p w kt x r s th
theorem AX.bad{es:List (Nat×Nat)}{x:SX}{th:Thread}{r:R}(h:r.isBad):AX p w kt es x th r:=⟨fun q q=>.inl h,fun q q=>by cases r<;>first | exact True.intro | cases h⟩
theorem AX.head{es:List (Nat×Nat)}{x x₁:SX}{th th₁:Thread}{r:R}(g:AX p w kt es x₁ th₁ r)(h:∀ s,Bd kt s x→∃ s₁,(model p w).step s th=.go s₁ th₁∧Bz x x₁∧AP x₁ s s₁∧Bd kt s₁ x₁):AX p w kt es x th r:=
 ⟨g.1,fun s D=>let ⟨s₁,hs,hx,hk,D1⟩:=h s D; Dm.head hx hs hk (g.2 s₁ D1)⟩
theorem Dm.own{x:SX}{r:R}{s:Shared}{t:Thread}{a aj:Nat}(hm:r.isBad∨(a,aj)∈r.es)(h:a=aj→Dm p w kt x r s t):Dm p w kt x r s t:=by
 refine Dm.eqs fun E=>?_
 rcases hm with bad | mem
 ·cases r<;>first | exact True.intro | cases bad
 ·exact h (E _ mem)
theorem AX.own{es:List (Nat×Nat)}{x x₁:SX}{th th₁:Thread}{r:R}{a aj:Nat}(g:AX p w kt ((a,aj)::es) x₁ th₁ r)(h:a=aj→∀ s,Bd kt s x→∃ s₁,(model p w).step s th=.go s₁ th₁∧Bz x x₁∧AP x₁ s s₁∧Bd kt s₁ x₁):AX p w kt es x th r:=
 ⟨fun q m=>g.1 q (.tail _ m),fun s D=>Dm.own (g.1 (a,aj) (.head _)) fun ea=>let ⟨s₁,hs,hx,hk,D1⟩:=h ea s D; Dm.head hx hs hk (g.2 s₁ D1)⟩
noncomputable def xO{α:Type}(q:Option α)(b:R)(f:α→R):R:=match q with
 | some a=>f a
 | none=>b
noncomputable def xP(q:Option (Nat×Obj))(b:R)(f:Nat→Obj→R):R:=match q with
 | some (a,o)=>f a o
 | none=>b
noncomputable def xB(q:Bool)(b f:R):R:=match q with
 | true=>f
 | false=>b
noncomputable def xN(n:Nat)(z:R)(f:Nat→R):R:=match n with
 | 0=>z
 | j+1=>f j
noncomputable def xH(hs:List Nat)(b:R)(f:Nat→List Nat→R):R:=match hs with
 | []=>b
 | h::t=>f h t
noncomputable def xT(q:Step)(f:Shared→Thread→R):R:=match q with
 | .go s t=>f s t
 | .halt _ _=>.bad 5 0
noncomputable def xF(q:PySem.Fin)(d:Flow→R)(a:Code→R):R:=match q with
 | .done f=>d f
 | .again c=>a c
noncomputable def VR(p:Program)(w:World)(kt:KT)(b:Nat)(E:List Nat→Nat→List Nat→Nat→List (Nat×Nat)→SX→Thread→R)(hs:List Nat)(c:Nat)(cs:List Nat)(ag:Nat)(es:List (Nat×Nat))(T:TT)(m n i:Nat)(gens:Array GenState)(drawn:Drawn)(t ti:Nat)(os:OsState)(cur:Sem PySem.Fin)(code:Code)(pos:Pos)(stack:List Frame):R:=match cur with
   | .load a pt kk=>xH hs (.bad 1 a) fun h hs=>xN h
     (xO (kt.get a) (.bad 2 a) fun o=>E hs c cs ag es ⟨T,m,n,i,gens,drawn,t,ti,os⟩ ⟨kk o,code,pos,stack⟩)
     fun j=>xP (T.get j) (.stop es (.load a pt kk) ⟨T,m,n,i,gens,drawn,t,ti,os⟩ code pos stack (fun pH x'=>E hs c cs ag es x' ⟨pH,code,pos,stack⟩))
      fun aj o=>E hs c cs ag ((a,aj)::es) ⟨T,m,n,i,gens,drawn,t,ti,os⟩ ⟨kk o,code,pos,stack⟩
   | .loadIfAlive a kk=>xH hs (.bad 1 a) fun h hs=>xN h
     (xO (kt.get a) (.bad 2 a) fun o=>E hs c cs ag es ⟨T,m,n,i,gens,drawn,t,ti,os⟩ ⟨kk (some o),code,pos,stack⟩)
     fun j=>xP (T.get j) (.bad 3 a) fun aj o=>E hs c cs ag ((a,aj)::es) ⟨T,m,n,i,gens,drawn,t,ti,os⟩ ⟨kk (some o),code,pos,stack⟩
   | .update a _ f kk=>xH hs (.bad 1 a) fun h hs=>xN h (.bad 4 a) fun j=>xP (T.get j) (.bad 3 a) fun aj o=>xB (f o).isFreed
     (E hs c cs ag ((a,aj)::es) ⟨T.set j f,m,n,i,gens,drawn,t,ti,os⟩ ⟨kk (),code,pos,stack⟩) (.bad 6 a)
   | .alloc o kk=>xB o.isFreed (xB ((T.ins m (n+i) o).get m).isSome (.bad 7 m)
     (E hs c cs ag es ⟨T.ins m (n+i) o,m+1,n,i+1,gens,drawn,t,ti,os⟩ ⟨kk (n+i),code,pos,stack⟩)) (.bad 6 0)
   | .fresh kk=>E hs c cs ag es ⟨T,m,n,i,gens,drawn,t,ti+1,os⟩ ⟨kk (t+ti),code,pos,stack⟩
   | .call c' hd g l kk=>xN c (.call es c' hd ⟨T,m,n,i,gens,drawn,t,ti,os⟩ code pos stack (fun res x'=>E hs (cs.headD 1000000) cs.tail ag es x' ⟨kk res,code,pos,stack⟩))
     fun c=>E hs c cs ag es ⟨T,m,n,i,gens,drawn,t,ti,os⟩ ⟨oS c',c',pos,.ret kk hd g l code pos []::stack⟩
   | .pure f=>xB (Nat.beq stack.length b)
     (xF f (fun f=>xT (Ds p w ⟨{},gens,drawn,t+ti,os⟩ ⟨.pure (.done f),code,pos,stack⟩) fun s' t'=>E hs c cs ag es ⟨T,m,n,i,s'.gens,s'.drawn,t,ti,s'.os⟩ t')
      fun c'=>E hs c cs ag es ⟨T,m,n,i,gens,drawn,t,ti,os⟩ ⟨oS c',c',pos,stack⟩)
     (xF f (fun f=>.fin es (.done f) ⟨T,m,n,i,gens,drawn,t,ti,os⟩ code pos stack)
      fun c'=>xN ag (.fin es (.again c') ⟨T,m,n,i,gens,drawn,t,ti,os⟩ code pos stack) fun ag=>E hs c cs ag es ⟨T,m,n,i,gens,drawn,t,ti,os⟩ ⟨oS c',c',pos,stack⟩)
   | .raise e=>xB (Nat.beq stack.length b) (xT (Ds p w ⟨{},gens,drawn,t+ti,os⟩ ⟨.raise e,code,pos,stack⟩) fun s' t'=>E hs c cs ag es ⟨T,m,n,i,s'.gens,s'.drawn,t,ti,s'.os⟩ t')
     (.raised es e ⟨T,m,n,i,gens,drawn,t,ti,os⟩ code pos stack)
   | cur=>xT (Ds p w ⟨{},gens,drawn,t+ti,os⟩ ⟨cur,code,pos,stack⟩) fun s' t'=>E hs c cs ag es ⟨T,m,n,i,s'.gens,s'.drawn,t,ti,s'.os⟩ t'
theorem MR(k:Nat)(hs:List Nat)(c:Nat)(cs:List Nat)(ag:Nat)(es:List (Nat×Nat))(T:TT)(m n i:Nat)(gens:Array GenState)(drawn:Drawn)(t ti:Nat)(os:OsState)(cur:Sem PySem.Fin)(code:Code)(pos:Pos)(stack:List Frame):CM p w kt b (k+1) hs c cs ag es ⟨T,m,n,i,gens,drawn,t,ti,os⟩ ⟨cur,code,pos,stack⟩=xB (Gm ⟨cur,code,pos,stack⟩) (.bad 9 0) (VR p w kt b (CM p w kt b k) hs c cs ag es T m n i gens drawn t ti os cur code pos stack):=by
 cases cur<;>kernel_rfl
noncomputable def plain:Sem Fin→Bool
 | .load .. | .update .. | .alloc .. | .loadIfAlive .. | .fresh _ | .pure (.again _) | .call ..=>false
 | _=>true
theorem Gd{k:Nat}{hs:List Nat}{c:Nat}{cs:List Nat}{ag:Nat}{es:List (Nat×Nat)}{T:TT}{m n i:Nat}{gens:Array GenState}{drawn:Drawn}{t ti:Nat}{os:OsState}{cur:Sem Fin}{code:Code}{pos:Pos}{stack:List Frame}
  (ih:∀ hs c cs ag es x th,AX p w kt es x th (CM p w kt b k hs c cs ag es x th)) (hc:Gm ⟨cur,code,pos,stack⟩=true) (hp:plain cur=true) :
  AX p w kt es ⟨T,m,n,i,gens,drawn,t,ti,os⟩ ⟨cur,code,pos,stack⟩ (xT (Ds p w ⟨{},gens,drawn,t+ti,os⟩ ⟨cur,code,pos,stack⟩) fun s' t'=>CM p w kt b k hs c cs ag es ⟨T,m,n,i,s'.gens,s'.drawn,t,ti,s'.os⟩ t'):=by
 cases q:Ds p w ⟨{},gens,drawn,t+ti,os⟩ ⟨cur,code,pos,stack⟩ with
 | halt=>exact AX.bad True.intro
 | go s' t'=>
  rw [NH] at q
  refine AX.head (ih _ _ _ _ _ _ _) fun s D=>?_
  obtain ⟨heap,g,d,tk,o⟩:=s
  obtain ⟨sz,ow,ap,lo,tp,off,eg,ed,et,eo⟩:=D
  dsimp only at sz ow ap lo tp off eg ed et eo
  subst eg ed et eo
  have no:∀ x,plain x=false→cur≠x:=fun x h e=>by rw [e,h] at hp; cases hp
  have z:=step_heap (H:=heap) (fun y y y=>no _ rfl) (fun y y y y=>no _ rfl) (fun y y=>no _ rfl) (fun y y=>no _ rfl) q
  have tk:=Lq q fun y=>no _ rfl
  dsimp only at tk
  rw [tk] at z
  exact ⟨_,(FF (by rw [← BD]; exact hc) (fun y=>no _ rfl) fun y y y y y=>no _ rfl).trans z,.same rfl (Nat.le_refl _),⟨rfl,fun y y h y=>h⟩,⟨sz,ow,ap,lo,tp,off,rfl,rfl,rfl,rfl⟩⟩
theorem I2{s s':Shared}{x y:SX}(D:Bd kt s x)(sz:s'.heap.objs.size=y.n+y.i)(up:x.n+x.i≤y.n+y.i)(hm:x.m≤y.m)(own:∀ j a o,y.T.get j=some (a,o)→s'.heap.get? a=some o∧((∃ o0,x.T.get j=some (a,o0))∨(j=x.m∧x.m < y.m∧x.n+x.i≤a)))(fwd:∀ j a o,x.T.get j=some (a,o)→∃ o',y.T.get j=some (a,o'))(top:∀ a o,s.heap.get? a=some o→kt.get a=some o→s'.heap.get? a=some o)(e:s'.gens=y.gens∧s'.drawn=y.drawn∧s'.toks=y.t+y.ti∧s'.os=y.os):Bd kt s' y∧Bz x y:=by
 have old:∀ {j a o},x.T.get j=some (a,o)→a < x.n+x.i:=fun h=>D.size ▸ Heap.lt_size (D.own _ _ _ h)
 have org:=fun j a o h=>(own j a o h).2
 refine ⟨⟨sz,fun j a o h=>(own j a o h).1,fun j j' a o o' h h'=>?_,fun j p h=>?_,fun a o h=>top a o (D.top a o h) h,fun j a o h=>?_,e.1,e.2.1,e.2.2.1,e.2.2.2⟩,fwd,fun j a o h=>(org j a o h).imp id (·.2.2),up⟩
 ·rcases org _ _ _ h with ⟨_,h⟩ | ⟨e1,_,l⟩<;>rcases org _ _ _ h' with ⟨_,h'⟩ | ⟨e2,_,l'⟩
  ·exact D.apart _ _ _ _ _ h h'
  ·exact absurd (old h) (Nat.not_lt.mpr l')
  ·exact absurd (old h') (Nat.not_lt.mpr l)
  ·exact e1.trans e2.symm
 ·rcases org j p.1 p.2 h with ⟨_,h⟩ | ⟨e1,l,_⟩
  ·exact Nat.lt_of_lt_of_le (D.low _ _ h) hm
  ·exact e1 ▸ l
 ·rcases org _ _ _ h with ⟨_,h⟩ | ⟨_,_,l⟩
  ·exact D.off _ _ _ h
  ·cases q:kt.get a with
   | none=>rfl
   | some z=>exact absurd (D.size ▸ Heap.lt_size (D.top _ _ q)) (Nat.not_lt.mpr l)
theorem CC{s:Shared}{T:TT}{m n i:Nat}{gens:Array GenState}{drawn:Drawn}{t ti:Nat}{os:OsState}(D:Bd kt s ⟨T,m,n,i,gens,drawn,t,ti,os⟩){j a:Nat}{o:Obj}{f:Obj→Obj}(e:T.get j=some (a,o))(hf:(f o).isFreed=false) :
  Bd kt { s with heap:=s.heap.update a f } ⟨T.set j f,m,n,i,gens,drawn,t,ti,os⟩∧AP ⟨T.set j f,m,n,i,gens,drawn,t,ti,os⟩ s { s with heap:=s.heap.update a f }∧Bz ⟨T,m,n,i,gens,drawn,t,ti,os⟩ ⟨T.set j f,m,n,i,gens,drawn,t,ti,os⟩:=by
 have hs:Heap.SameBut a s.heap (s.heap.update a f):=Heap.SameBut.update ..
 have fwd:∀ j' a' o',T.get j'=some (a',o')→∃ r9,(T.set j f).get j'=some (a',r9):=fun j' a' o' h=>by
  rw [TT.get_set]
  by_cases q:j'=j
  ·rw [if_pos q,← q,h]; exact ⟨_,rfl⟩
  ·rw [if_neg q]; exact ⟨o',h⟩
 have R:=I2 (s':={ s with heap:=s.heap.update a f }) (y:=⟨T.set j f,m,n,i,gens,drawn,t,ti,os⟩) D (hs.1.trans D.size) (Nat.le_refl _) (Nat.le_refl _) (fun j' a' o' h=>by
  rw [TT.get_set] at h
  by_cases q:j'=j
  ·rw [if_pos q,e] at h; cases h
   exact ⟨by first | exact Heap.get?_update_self f (D.own j a o e) hf | exact Heap.get?_update_self _ (D.own j a o e) hf,.inl ⟨o,q ▸ e⟩⟩
  ·rw [if_neg q] at h
   exact ⟨(hs.2 a' fun z=>q (D.apart j' j a' o' o h (z ▸ e))).trans (D.own _ _ _ h),.inl ⟨_,h⟩⟩) fwd (fun a' o' h k=>(hs.2 a' fun z=>by have:=D.off j a o e; rw [← z,k] at this; cases this).trans h) ⟨D.gens,D.drawn,D.toks,D.os⟩
 exact ⟨R.1,⟨by cases s with | mk h=>cases h; rfl,fun b' o' h q=>(hs.2 b' fun z=>let ⟨_,g⟩:=fwd j a o e; q j _ (z ▸ g)).trans h⟩,R.2⟩
theorem HH{s:Shared}{T:TT}{m n i:Nat}{gens:Array GenState}{drawn:Drawn}{t ti:Nat}{os:OsState}(D:Bd kt s ⟨T,m,n,i,gens,drawn,t,ti,os⟩){o:Obj}(hf:o.isFreed=false)(hg:((T.ins m (n+i) o).get m).isSome=true) :
  Bd kt { s with heap:=s.heap.push o } ⟨T.ins m (n+i) o,m+1,n,i+1,gens,drawn,t,ti,os⟩∧AP ⟨T.ins m (n+i) o,m+1,n,i+1,gens,drawn,t,ti,os⟩ s { s with heap:=s.heap.push o }∧Bz ⟨T,m,n,i,gens,drawn,t,ti,os⟩ ⟨T.ins m (n+i) o,m+1,n,i+1,gens,drawn,t,ti,os⟩:=by
 have sz:s.heap.objs.size=n+i:=D.size
 have R:=I2 (s':={ s with heap:=s.heap.push o }) (y:=⟨T.ins m (n+i) o,m+1,n,i+1,gens,drawn,t,ti,os⟩) D ((Heap.size_push _ _).trans (congrArg (· + 1) sz)) (Nat.le_succ _) (Nat.le_succ _) (fun j' a' o' h=>by
  rw [TT.get_ins _ o T m hg] at h
  by_cases q:j'=m
  ·rw [if_pos q] at h; cases h
   exact ⟨by rw [← sz]; exact Heap.get?_push_size _ hf,.inr ⟨q,Nat.lt_succ_self _,Nat.le_refl _⟩⟩
  ·rw [if_neg q] at h
   exact ⟨Heap.get?_push_of_some _ (D.own _ _ _ h),.inl ⟨_,h⟩⟩) (fun j' a' o' h=>⟨o',by rw [TT.get_ins _ o T m hg,if_neg (Nat.ne_of_lt (D.low _ _ h))]; exact h⟩) (fun a' o' h z=>Heap.get?_push_of_some _ h) ⟨D.gens,D.drawn,D.toks,D.os⟩
 exact ⟨R.1,⟨by cases s with | mk h=>cases h; rfl,fun b' o' h z=>Heap.get?_push_of_some _ h⟩,R.2⟩
variable{es:List (Nat×Nat)}{x:SX}{th:Thread}
theorem AX.xO{α:Type}{q:Option α}{d:R}{f:α→R}(h:q=none→AX p w kt es x th d)(k:∀ a,q=some a→AX p w kt es x th (f a)):AX p w kt es x th (xO q d f):=by
 cases q with
 | none=>exact h rfl
 | some a=>exact k a rfl
theorem AX.xP{q:Option (Nat×Obj)}{d:R}{f:Nat→Obj→R}(h:AX p w kt es x th d)(k:∀ a o,q=some (a,o)→AX p w kt es x th (f a o)):AX p w kt es x th (xP q d f):=by
 cases q with
 | none=>exact h
 | some a=>exact k a.1 a.2 rfl
theorem AX.xB{q:Bool}{d f:R}(h:q=false→AX p w kt es x th d)(k:q=true→AX p w kt es x th f):AX p w kt es x th (xB q d f):=by
 cases q with
 | false=>exact h rfl
 | true=>exact k rfl
theorem AX.xN{n:Nat}{z:R}{f:Nat→R}(h:AX p w kt es x th z)(k:∀ j,AX p w kt es x th (f j)):AX p w kt es x th (xN n z f):=by
 cases n with
 | zero=>exact h
 | succ j=>exact k j
theorem AX.xH{hs:List Nat}{a:Nat}{f:Nat→List Nat→R}(k:∀ h t,AX p w kt es x th (f h t)):AX p w kt es x th (xH hs (.bad 1 a) f):=by
 cases hs with
 | nil=>exact AX.bad True.intro
 | cons h t=>exact k h t
noncomputable def Z0:Sem Fin→Bool
 | .pure (.again _) | .call ..=>false
 | _=>true
theorem E3{s:Shared}{cur:Sem Fin}{code:Code}{pos:Pos}{stack:List Frame}(hc:Gm ⟨cur,code,pos,stack⟩=true)(h:Z0 cur=true):(model p w).step s ⟨cur,code,pos,stack⟩=step (denote table) p w s ⟨cur,code,pos,stack⟩:=
 FF (by rw [← BD]; exact hc) (fun q e=>by dsimp only at e; subst e; cases h) fun q q q q q e=>by dsimp only at e; subst e; cases h
theorem AX.qI(h:∀ s,Bd kt s x→Dm p w kt x r s th)(k:r.es=es):AX p w kt es x th r:=⟨fun q hq=>.inr (k ▸ hq),h⟩
theorem MS:∀ (k:Nat) (hs:List Nat) (c:Nat) (cs:List Nat) (ag:Nat) (es:List (Nat×Nat)) (x:SX) (th:Thread),AX p w kt es x th (CM p w kt b k hs c cs ag es x th):=by
 intro k
 induction k with
 | zero=>exact fun z z z z z z z=>AX.bad True.intro
 | succ k ih=>
  rintro hs c cs ag es ⟨T,m,n,i,gens,drawn,t,ti,os⟩ ⟨cur,code,pos,stack⟩
  rw [MR]
  refine AX.xB (fun z=>AX.bad True.intro) fun hc=>?_
  cases cur with
  | load a q kk=>
   refine AX.xH fun h hs=>?_
   exact .xN (.xO (fun z=>.bad True.intro) fun o e=>AX.head (ih _ _ _ _ _ _ _) fun s D=>⟨s,(E3 hc rfl).trans (by simp only [step,D.top a o e]),Bz.refl _,AP.refl _ _,D⟩)
    fun j=>.xP (.qI (fun s D E=>⟨Bz.refl _,s,.refl,D,AP.refl _ _,fun pH pQ od sL=>(ih _ _ _ _ _ _ _).2 _ sL⟩) rfl)
     fun z z e=>AX.own (ih _ _ _ _ _ _ _) fun ea s D=>⟨s,(E3 hc rfl).trans (by simp only [step,ea,D.own _ _ _ e]),Bz.refl _,AP.refl _ _,D⟩
  | loadIfAlive a kk=>
   refine AX.xH fun h hs=>?_
   exact .xN (.xO (fun z=>.bad True.intro) fun o e=>AX.head (ih _ _ _ _ _ _ _) fun s D=>⟨s,(E3 hc rfl).trans (by simp only [step,D.top a o e]),Bz.refl _,AP.refl _ _,D⟩)
    fun j=>.xP (.bad True.intro) fun z z e=>AX.own (ih _ _ _ _ _ _ _) fun ea s D=>⟨s,(E3 hc rfl).trans (by simp only [step,ea,D.own _ _ _ e]),Bz.refl _,AP.refl _ _,D⟩
  | update a q f kk=>
   refine AX.xH fun h hs=>?_
   exact .xN (.bad True.intro) fun j=>.xP (.bad True.intro) fun aj o e=>.xB (fun hf=>AX.own (ih _ _ _ _ _ _ _) fun ea s D=>by
    subst ea
    obtain ⟨D',K',X'⟩:=CC D e hf
    refine ⟨_,(E3 hc rfl).trans ?_,X',K',D'⟩
    simp only [step,D.own _ _ _ e,Option.isSome_some,if_true]) fun z=>.bad True.intro
  | alloc o kk=>
   refine AX.xB (fun hf=>?_) fun z=>?_
   ·exact .xB (fun z=>.bad True.intro) fun hg=>AX.head (ih _ _ _ _ _ _ _) fun s D=>by
     obtain ⟨D',K',X'⟩:=HH D hf hg
     have sz:s.heap.objs.size=n+i:=D.size
     exact ⟨_,(E3 hc rfl).trans (by simp only [step,sz]),X',K',D'⟩
   ·exact .bad True.intro
  | fresh kk=>
   exact AX.head (ih _ _ _ _ _ _ _) fun s D=>by
    have tk:s.toks=t+ti:=D.toks
    exact ⟨{ s with toks:=s.toks+1 },(E3 hc rfl).trans (by cases s; dsimp only at tk; rw [← tk]; rfl),.same rfl (Nat.le_refl _),⟨rfl,fun z z h z=>h⟩,⟨D.size,D.own,D.apart,D.low,D.top,D.off,D.gens,D.drawn,congrArg (· + 1) tk,D.os⟩⟩
  | call c' hd g l kk=>
   refine AX.xN ?_ fun z=>?_
   ·exact .qI (fun s D E=>⟨Bz.refl _,s,g,l,kk,.refl,D,AP.refl _ _,fun res pQ od sL=>(ih _ _ _ _ _ _ _).2 _ sL⟩) rfl
   ·exact AX.head (ih _ _ _ _ _ _ _) fun s D=>⟨s,by rw [← C4]; exact Cn,Bz.refl _,AP.refl _ _,D⟩
  | pure f=>
   cases f with
   | again c'=>
    have g:∀ ag,AX p w kt es ⟨T,m,n,i,gens,drawn,t,ti,os⟩ ⟨.pure (.again c'),code,pos,stack⟩ (CM p w kt b k hs c cs ag es ⟨T,m,n,i,gens,drawn,t,ti,os⟩ ⟨oS c',c',pos,stack⟩):=fun ag=>AX.head (ih _ _ _ _ _ _ _) fun s D=>⟨s,by rw [← C4]; exact DJ (by rw [← BD]; exact hc),Bz.refl _,AP.refl _ _,D⟩
    refine AX.xB (fun z=>g _) fun z=>?_
    refine AX.xN ?_ fun z=>?_
    ·exact .qI (fun s D E=>⟨Bz.refl _,s,.refl,D,AP.refl _ _⟩) rfl
    ·exact g _
   | done f=>
    refine AX.xB (fun z=>?_) fun z=>?_
    ·exact Gd (hs:=hs) (c:=c) (cs:=cs) (ag:=ag) ih hc rfl
    ·exact .qI (fun s D E=>⟨Bz.refl _,s,.refl,D,AP.refl _ _⟩) rfl
  | raise e=>
   refine AX.xB (fun z=>?_) fun z=>?_
   ·exact Gd (hs:=hs) (c:=c) (cs:=cs) (ag:=ag) ih hc rfl
   ·exact .qI (fun s D E=>⟨Bz.refl _,s,.refl,D,AP.refl _ _⟩) rfl
  | _=>exact Gd (hs:=hs) (c:=c) (cs:=cs) (ag:=ag) ih hc rfl
end
@[irreducible] noncomputable def run (p:Program) (w:World) (kt:KT) (b k:Nat) (hs:List Nat) (c:Nat) (cs:List Nat) (ag:Nat) (x:SX) (th:Thread):R:=CM p w kt b k hs c cs ag [] x th
theorem HG{p:Program}{w:World}{kt:KT}{b k:Nat}{hs:List Nat}{c:Nat}{cs:List Nat}{ag:Nat}{x:SX}{th:Thread}{s:Shared}(D:Bd kt s x):Dm p w kt x (run p w kt b k hs c cs ag x th) s th:=by
 unfold run
 exact (MS k hs c cs ag [] x th).2 s D
noncomputable abbrev pw:Program:=PySem.Challenge.pw_om0190_01
def Mj(i:Nat):Stmt:=pw.main.body.getD i (.Pass default)
def HY(i j:Nat):Stmt:=match Mj i with
 | .ClassDef _ _ _ b _ _ _ _ _ _ _=>b.getD j (.Pass default)
 | _=>.Pass default
noncomputable def vs(s:String)(t:Nat):Value:=.str (Str.ofString s) t
noncomputable def de(P:Params)(k:String)(t:Nat)(v:Value):DictEntry:=⟨PyData.keyHash P (Str.ofString k),.str (Str.ofString k) t,v⟩
noncomputable def fd(st:Stmt)(qual:String)(dflt mod code:Value):FuncData:=match st with
 | .FunctionDef name params body _ _ _ scope _ _ _=>{ name:=name,qualname:=Str.ofString qual,params:=params,body:=.stmts body,scope:=scope,globals:=3,closure:=[],defaults:=dflt,kwdefaults:=.none,pyModule:=mod,code:=code }
 | _=>{ name:=Str.empty,qualname:=Str.empty,params:=⟨[],[],none,[],[],none,[]⟩,body:=.stmts [],scope:=default,globals:=0,closure:=[],defaults:=.none,kwdefaults:=.none }
def co(n q:String)(t ln na fl a u:Nat):Obj:={ cls:=.type "code",data:=.fields #[vs n t,vs q (t+1),vs "/claim/cut.py" (t+2),.int ln 0,.int na 0,.int 0 0,.int 0 0,.int fl 0,.ref a,.bool true,.int 318 0,.ref (a+1),.none,.ref (a+2),.ref (a+3),.ref (a+4),.int u 0,.int ln 0,vs "/claim/cut.py" (u+1)] }
def fu(st:Stmt)(q m:String)(t c:Nat):Obj:={ cls:=.type "function",data:=.func (fd st q .none (vs m t) (.ref c)) }
def o0(P:Params):Obj:={ cls:=.type "dict",data:=.dict ⟨(List.zipIdx ([("__name__",vs "builtins" 160),("__doc__",.builtin "builtins.__doc__:str#opaque"),("__package__",.builtin "builtins.__package__:str#opaque"),("__loader__",.builtin "builtins.__loader__:shared#opaque"),("__spec__",.builtin "builtins.__spec__#opaque")]++(["__build_class__","__import__","abs","all","any","ascii","bin","breakpoint","callable","chr","compile","delattr","dir","divmod","eval","exec","format","getattr","globals","hasattr","hash","hex","id","input","isinstance","issubclass","iter","aiter","len","locals","max","min","next","anext","oct","ord","pow","print","repr","round","setattr","sorted","sum","vars"].map fun s=>(s,.builtin s))++[("None",.none),("Ellipsis",.ellipsis),("NotImplemented",.notImplemented),("False",.bool false),("True",.bool true)]++(["bool","memoryview","bytearray","bytes","classmethod","complex","dict","enumerate","filter","float","frozenset","property","int","list","map","object","range","reversed","set","slice","staticmethod","str","super","tuple","type","zip"].map fun s=>(s,.type s))++[("__debug__",.bool true)]++(["BaseException","BaseExceptionGroup","Exception","GeneratorExit","KeyboardInterrupt","SystemExit","ArithmeticError","AssertionError","AttributeError","BufferError","EOFError","ImportError","LookupError","MemoryError","NameError","OSError","ReferenceError","RuntimeError","StopAsyncIteration","StopIteration","SyntaxError","SystemError","TypeError","ValueError","Warning","FloatingPointError","OverflowError","ZeroDivisionError","BytesWarning","DeprecationWarning","EncodingWarning","FutureWarning","ImportWarning","PendingDeprecationWarning","ResourceWarning","RuntimeWarning","SyntaxWarning","UnicodeWarning","UserWarning","BlockingIOError","ChildProcessError","ConnectionError","FileExistsError","FileNotFoundError","InterruptedError","IsADirectoryError","NotADirectoryError","PermissionError","ProcessLookupError","TimeoutError","IndentationError","_IncompleteInputError","IndexError","KeyError","ModuleNotFoundError","NotImplementedError","PythonFinalizationError","RecursionError","UnboundLocalError","UnicodeError","BrokenPipeError","ConnectionAbortedError","ConnectionRefusedError","ConnectionResetError","TabError","UnicodeDecodeError","UnicodeEncodeError","UnicodeTranslateError","ExceptionGroup"].map fun s=>(s,.type s))++[("EnvironmentError",.type "OSError"),("IOError",.type "OSError"),("open",.builtin "open"),("quit",.builtin "builtins.quit#opaque"),("exit",.builtin "builtins.exit#opaque"),("copyright",.builtin "builtins.copyright#opaque"),("credits",.builtin "builtins.credits#opaque"),("license",.builtin "builtins.license#opaque"),("help",.builtin "builtins.help#opaque")]:List (String×Value)) 1).map fun q=>de P q.1.1 q.2 q.1.2⟩ 159 }
def o1(P:Params):Obj:={ cls:=.type "dict",data:=.dict #[de P "builtins" 162 (.ref 4),de P "__main__" 163 (.ref 5),de P "_sre" 244 (.ref 12),de P "_collections" 292 (.ref 30)] 4 }
def o2(P:Params):Obj:={ cls:=.none,data:=.dict #[de P "\x69mport.loaded._sre" 183 (.bool true),de P "class._frozen_importlib.BuiltinImporter" 185 (.ref 14),de P "watched.\x69mport" 206 (.ref 18),de P "class._frozen_importlib.ModuleSpec" 216 (.ref 22),de P "sys.modules.booked-epoch" 245 (.int 4 0),de P "\x69mport.later-laid._sre" 270 (.bool true),de P "watched.library" 272 (.ref 27),de P "watched.library-objects" 0 (.str ⟨#[12,30]⟩ 0),de P "watched.library-deep._sre" 273 (.str ⟨#[4,0,0,11,4,0,0,11,4,0,0,3,4,0,0,11,8,4,100,105,99,116,2]⟩ 0),de P "\x69mport.loaded._collections" 280 (.bool true),de P "sys.modules.landed._collections" 294 (.bool true),de P "\x69mport.later-laid._collections" 309 (.bool true),de P "watched.library-deep._collections" 311 (.str ⟨#[4,0,0,29,4,0,0,29,4,0,0,3,4,0,0,29,8,4,100,105,99,116,2]⟩ 0),de P "type.__subclasses__.Exception.0" 349 (.int 54 0),de P "type.__subclasses__.Exception.n" 350 (.int 1 0),de P "type.__subclasses__.OSError.0" 638 (.int 225 0),de P "type.__subclasses__.OSError.n" 639 (.int 1 0)] 17 }
def o3(P:Params):Obj:={ cls:=.type "dict",data:=.dict #[de P "__name__" 165 (vs "law_om0190_01" 1486),de P "__doc__" 166 .none,de P "__package__" 167 .none,de P "__loader__" 168 (.builtin "__main__.__loader__#opaque"),de P "__spec__" 169 .none,de P "__annotations__" 170 (.ref 6),de P "__builtins__" 171 (.ref 4),de P "__file__" 173 (vs "/claim/cut.py" 172),de P "__cached__" 174 .none,de P "_sre" 275 (.ref 12),de P "deque" 317 (.type "collections.deque"),de P "_wall" 330 (.ref 44),de P "Error" 352 (.ref 54),de P "error_reply" 368 (.ref 67),de P "parse257" 379 (.ref 76),de P "_NODE_OUT" 384 (.int (-1) 383),de P "_NODE_DONE" 387 (.int (-2) 386),de P "_NodeInfo" 424 (.ref 95),de P "CycleError" 442 (.ref 110),de P "TopologicalSorter" 561 (.ref 192),de P "_twin_re_1" 601 (.ref 201),de P "_whence" 611 (.ref 208),de P "_index" 619 (.ref 215),de P "UnsupportedOperation" 641 (.ref 225),de P "IOBase" 673 (.ref 245),de P "BufferedIOBase" 691 (.ref 260),de P "TextIOBase" 709 (.ref 272),de P "BytesIO" 971 (.ref 502),de P "StringIO" 1258 (.ref 749),de P "_kind" 1269 (.ref 758),de P "_fspath" 1278 (.ref 765),de P "_check_arg_types" 1288 (.ref 772),de P "isabs" 1295 (.ref 779),de P "join" 1306 (.ref 903),de P "join_path" 1307 (.ref 786),de P "dirname" 1317 (.ref 793),de P "shlex" 1458 (.ref 884),de P "split" 1468 (.ref 896),de P "join_shlex" 1476 (.ref 903),de P "_find_unsafe" 1478 (.ref 904),de P "quote" 1485 (.ref 911),de P "_law_turned" 1493 (.ref 916),de P "_law_arrow" 1501 (.ref 923),de P "_law_firsts" 1507 (.ref 928),de P "_law_rounds" 1522 (.ref 935),de P "_law_walks" 1528 (.ref 940),de P "law" 1534 (.ref 945)] 47 }
noncomputable def o4(P:Params):Obj:={ cls:=.type "module",dict:=some 0,data:=.plain }
def nD(P:Params):Obj:=co "parse257" "parse257" 369 11 1 3 70 377
def iA(P:Params):Obj:=fu (Mj 6) "parse257" "cpy313.ftplib" 331 75
def nC(P:Params):Obj:=co "__init__" "_NodeInfo.__init__" 404 34 2 3 85 409
def nB(P:Params):Obj:=fu (HY 10 1) "_NodeInfo.__init__" "cpy313.graphlib" 380 90
def nA(P:Params):Obj:={ cls:=.type "dict",data:=.dict #[de P "__module__" 395 (vs "cpy313.graphlib" 380),de P "__firstlineno__" 399 (.int 31 398),de P "__slots__" 403 (.ref 84),de P "__init__" 411 (.ref 91),de P "__static_attributes__" 415 (.ref 92),de P "node" 417 (.ref 96),de P "npredecessors" 419 (.ref 97),de P "successors" 421 (.ref 98),de P "__doc__" 422 .none] 5 }
def n9(P:Params):Obj:={ cls:=.type "type",data:=.cls { name:=Str.ofString "_NodeInfo",bases:=[.type "object"],mro:=[.ref 95,.type "object"],ns:=94,qualname:=Str.ofString "_NodeInfo",hasDict:=false,slotNames:=[Str.ofString "node",Str.ofString "npredecessors",Str.ofString "successors"],subclasses:=[] },slots:=#[none,none,some (vs "_NodeInfo" 388),some (vs "_NodeInfo" 396),some (.builtin "object.__new__"),some (.bool false)] }
def n8(P:Params):Obj:={ cls:=.type "member_descriptor",data:=.fields #[vs "node" 416,.ref 95,.builtin "proto.slot",.builtin "proto.slot#set",.int 2 0] }
def n7(P:Params):Obj:={ cls:=.type "member_descriptor",data:=.fields #[vs "npredecessors" 418,.ref 95,.builtin "proto.slot",.builtin "proto.slot#set",.int 1 0] }
def n6(P:Params):Obj:={ cls:=.type "member_descriptor",data:=.fields #[vs "successors" 420,.ref 95,.builtin "proto.slot",.builtin "proto.slot#set",.int 0 0] }
def j1(P:Params):Obj:={ cls:=.type "dict",data:=.dict #[de P "__module__" 432 (vs "cpy313.graphlib" 380),de P "__firstlineno__" 436 (.int 38 435),de P "__static_attributes__" 437 (.ref 108),de P "__weakref__" 439 (.ref 111),de P "__doc__" 440 .none] 3 }
def i'(P:Params):Obj:={ cls:=.type "type",data:=.cls { name:=Str.ofString "CycleError",bases:=[.type "ValueError"],mro:=[.ref 110,.type "ValueError",.type "Exception",.type "BaseException",.type "object"],ns:=109,qualname:=Str.ofString "CycleError",hasDict:=true,slotNames:=[],subclasses:=[] },slots:=#[some (.ref 101),none,some (vs "CycleError" 425),some (vs "CycleError" 433),some (.builtin "ValueError.__new__"),some (.bool true)] }
noncomputable def iz(P:Params):Obj:={ cls:=.type "tuple",data:=.seq #[.none] 0 }
def iw(P:Params):Obj:=co "__init__" "TopologicalSorter.__init__" 455 42 2 3 122 462
def iu(P:Params):Obj:={ cls:=.type "function",data:=.func (fd (HY 12 0) "TopologicalSorter.__init__" (.ref 121) (vs "cpy313.graphlib" 380) (.ref 127)) }
def ir(P:Params):Obj:=co "_get_nodeinfo" "TopologicalSorter._get_nodeinfo" 465 51 2 3 129 471
def iq(P:Params):Obj:=fu (HY 12 1) "TopologicalSorter._get_nodeinfo" "cpy313.graphlib" 380 134
def ip(P:Params):Obj:=co "add" "TopologicalSorter.add" 474 56 2 7 136 483
def ik(P:Params):Obj:=fu (HY 12 2) "TopologicalSorter.add" "cpy313.graphlib" 380 141
def ij(P:Params):Obj:={ cls:=.type "code",data:=.fields #[vs "prepare" 486,vs "TopologicalSorter.prepare" 487,vs "/claim/cut.py" 488,.int 65 0,.int 1 0,.int 0 0,.int 0 0,.int 3 0,.ref 143,.bool true,.int 318 0,.ref 144,.none,.none,.none,.ref 145,.int 489 0,.int 65 0,vs "/claim/cut.py" 490] }
def E2(P:Params):Obj:=fu (HY 12 3) "TopologicalSorter.prepare" "cpy313.graphlib" 380 146
def ig(P:Params):Obj:=co "get_ready" "TopologicalSorter.get_ready" 492 73 1 3 148 499
def ie(P:Params):Obj:=fu (HY 12 4) "TopologicalSorter.get_ready" "cpy313.graphlib" 380 153
def ic(P:Params):Obj:=co "done" "TopologicalSorter.done" 516 92 1 7 169 527
def We(P:Params):Obj:=fu (HY 12 7) "TopologicalSorter.done" "cpy313.graphlib" 380 174
def ib(P:Params):Obj:=co "_find_cycle" "TopologicalSorter._find_cycle" 530 115 1 3 176 540
def Wd(P:Params):Obj:=fu (HY 12 8) "TopologicalSorter._find_cycle" "cpy313.graphlib" 380 181
def ia(P:Params):Obj:={ cls:=.type "dict",data:=.dict #[de P "__module__" 450 (vs "cpy313.graphlib" 380),de P "__firstlineno__" 454 (.int 40 453),de P "__init__" 464 (.ref 128),de P "_get_nodeinfo" 473 (.ref 135),de P "add" 485 (.ref 142),de P "prepare" 491 (.ref 147),de P "get_ready" 501 (.ref 154),de P "is_active" 508 (.ref 161),de P "__bool__" 515 (.ref 168),de P "done" 529 (.ref 175),de P "_find_cycle" 542 (.ref 182),de P "static_order" 549 (.ref 189),de P "__static_attributes__" 554 (.ref 190),de P "__dict__" 556 (.ref 193),de P "__weakref__" 558 (.ref 194),de P "__doc__" 559 .none] 4 }
def iZ(P:Params):Obj:={ cls:=.type "type",data:=.cls { name:=Str.ofString "TopologicalSorter",bases:=[.type "object"],mro:=[.ref 192,.type "object"],ns:=191,qualname:=Str.ofString "TopologicalSorter",hasDict:=true,slotNames:=[],subclasses:=[] },slots:=#[none,none,some (vs "TopologicalSorter" 443),some (vs "TopologicalSorter" 451),some (.builtin "object.__new__"),some (.bool true)] }
noncomputable def iY(P:Params):Obj:={ cls:=.type "tuple",data:=.seq #[.int 14 0,.int 17 0,.int 4 0,.int 1 0,.int 1 0,.int 21 0,.int 9 0,.int 0 0,.int 604043296 0,.int 1 0,.int 0 0,.int 0 0,.int 0 0,.int 0 0,.int 0 0,.int 8 0,.int 4 0,.int 0 0,.int 13 0,.int 14 0,.int 21 0,.int 9 0,.int 0 0,.int 604043296 0,.int 1 0,.int 0 0,.int 0 0,.int 0 0,.int 0 0,.int 0 0,.int 8 0,.int 4 0,.int 0 0,.int 1 0] 0 }
def iX(P:Params):Obj:={ cls:=.type "re.Pattern",data:=.fields #[vs "[^\\w@%+=:,./-]" 563,.int 256 600,.int 0 0,.none,.none,.ref 200,.int 0 0] }
def iW(P:Params):Obj:=co "_index" "_index" 612 153 2 3 209 617
def iV(P:Params):Obj:=fu (Mj 16) "_index" "io" 602 214
def iU(P:Params):Obj:={ cls:=.type "code",data:=.fields #[vs "__new__" 656,vs "IOBase.__new__" 657,vs "/claim/cut.py" 658,.int 165 0,.int 1 0,.int 1 0,.int 0 0,.int 15 0,.ref 236,.bool true,.int 318 0,.ref 237,.none,.ref 238,.ref 239,.ref 240,.int 662 0,.int 165 0,vs "/claim/cut.py" 663] }
def iT(P:Params):Obj:=fu (HY 18 1) "IOBase.__new__" "io" 602 241
def iS(P:Params):Obj:={ cls:=.type "dict",data:=.dict #[de P "__module__" 649 (vs "io" 654),de P "__firstlineno__" 653 (.int 162 652),de P "__new__" 664 (.ref 246),de P "__static_attributes__" 665 (.ref 243),de P "__dict__" 668 (.ref 247),de P "__weakref__" 670 (.ref 248),de P "__doc__" 671 .none] 4 }
def iR(P:Params):Obj:={ cls:=.type "type",data:=.cls { name:=Str.ofString "IOBase",bases:=[.type "object"],mro:=[.ref 245,.type "object"],ns:=244,qualname:=Str.ofString "IOBase",hasDict:=true,slotNames:=[],subclasses:=[.ref 260,.ref 272] },slots:=#[none,none,some (vs "IOBase" 642),some (vs "IOBase" 650),some .none,some (.bool true)] }
noncomputable def iQ(P:Params):Obj:={ cls:=.type "staticmethod",data:=.fields #[.ref 242] }
def iP(P:Params):Obj:={ cls:=.type "dict",data:=.dict #[de P "__module__" 699 (vs "io" 704),de P "__firstlineno__" 703 (.int 171 702),de P "__static_attributes__" 706 (.ref 270),de P "__doc__" 707 .none] 2 }
def iO(P:Params):Obj:={ cls:=.type "type",data:=.cls { name:=Str.ofString "TextIOBase",bases:=[.ref 245],mro:=[.ref 272,.ref 245,.type "object"],ns:=271,qualname:=Str.ofString "TextIOBase",hasDict:=true,slotNames:=[],subclasses:=[.ref 749] },slots:=#[some (.ref 263),none,some (vs "TextIOBase" 692),some (vs "TextIOBase" 700),some .none,some (.bool true)] }
def iN(P:Params):Obj:={ cls:=.type "type",data:=.cls { name:=Str.ofString "BytesIO",bases:=[.ref 260],mro:=[.ref 502,.ref 260,.ref 245,.type "object"],ns:=501,qualname:=Str.ofString "BytesIO",hasDict:=true,slotNames:=[],subclasses:=[] },slots:=#[some (.ref 275),none,some (vs "BytesIO" 710),some (vs "BytesIO" 718),some .none,some (.bool true)] }
def iM(P:Params):Obj:={ cls:=.type "tuple",data:=.seq #[vs "" 986,vs "\n" 987] 0 }
def iL(P:Params):Obj:=co "__init__" "StringIO.__init__" 988 346 3 3 513 994
def iK(P:Params):Obj:={ cls:=.type "function",data:=.func (fd (HY 22 1) "StringIO.__init__" (.ref 512) (vs "io" 602) (.ref 518)) }
def iJ(P:Params):Obj:=co "__translated" "StringIO.__translated" 997 359 2 3 520 1003
def iI(P:Params):Obj:=fu (HY 22 2) "StringIO.__translated" "io" 602 525
def iH(P:Params):Obj:=co "__check" "StringIO.__check" 1006 367 1 3 527 1010
def iG(P:Params):Obj:=fu (HY 22 3) "StringIO.__check" "io" 602 532
noncomputable def iF(P:Params):Obj:={ cls:=.type "tuple",data:=.seq #[.int (-1) 1179] 0 }
def iE(P:Params):Obj:={ cls:=.type "code",data:=.fields #[vs "read" 1180,vs "StringIO.read" 1181,vs "/claim/cut.py" 1182,.int 489 0,.int 2 0,.int 2 0,.int 0 0,.int 3 0,.ref 689,.bool true,.int 318 0,.ref 690,.none,.ref 691,.ref 692,.ref 693,.int 1187 0,.int 489 0,vs "/claim/cut.py" 1188] }
def iD(P:Params):Obj:={ cls:=.type "function",data:=.func (fd (HY 22 25) "StringIO.read" (.ref 688) (vs "io" 602) (.ref 694)) }
def iC(P:Params):Obj:={ cls:=.type "dict",data:=.dict #[de P "__module__" 979 (vs "_io" 984),de P "__firstlineno__" 983 (.int 343 982),de P "__init__" 996 (.ref 519),de P "_StringIO__translated" 1005 (.ref 526),de P "_StringIO__check" 1012 (.ref 533),de P "_StringIO__check_dot" 1019 (.ref 540),de P "_StringIO__line" 1034 (.ref 547),de P "closed" 1042 (.ref 555),de P "line_buffering" 1050 (.ref 563),de P "newlines" 1058 (.ref 571),de P "encoding" 1066 (.ref 579),de P "errors" 1074 (.ref 587),de P "close" 1081 (.ref 594),de P "__enter__" 1088 (.ref 601),de P "__exit__" 1096 (.ref 608),de P "readable" 1103 (.ref 615),de P "writable" 1110 (.ref 622),de P "seekable" 1117 (.ref 629),de P "isatty" 1124 (.ref 636),de P "flush" 1131 (.ref 643),de P "fileno" 1138 (.ref 650),de P "detach" 1145 (.ref 657),de P "getvalue" 1152 (.ref 664),de P "tell" 1159 (.ref 671),de P "seek" 1169 (.ref 679),de P "truncate" 1177 (.ref 687),de P "read" 1189 (.ref 695),de P "readline" 1199 (.ref 703),de P "readlines" 1209 (.ref 711),de P "__iter__" 1216 (.ref 718),de P "__next__" 1224 (.ref 725),de P "write" 1236 (.ref 732),de P "writelines" 1244 (.ref 739),de P "__repr__" 1251 (.ref 746),de P "__static_attributes__" 1255 (.ref 747),de P "__doc__" 1256 .none] 2 }
def iB(P:Params):Obj:={ cls:=.type "type",data:=.cls { name:=Str.ofString "StringIO",bases:=[.ref 272],mro:=[.ref 749,.ref 272,.ref 245,.type "object"],ns:=748,qualname:=Str.ofString "StringIO",hasDict:=true,slotNames:=[],subclasses:=[] },slots:=#[some (.ref 505),none,some (vs "StringIO" 972),some (vs "StringIO" 980),some .none,some (.bool true)] }
noncomputable def i9(P:Params):Obj:={ cls:=.type "tuple",data:=.seq #[.none,.none,.bool false,.bool false] 0 }
def i8(P:Params):Obj:=co "__init__" "shlex.__init__" 1332 615 5 3 802 1341
def i7(P:Params):Obj:={ cls:=.type "function",data:=.func (fd (HY 32 0) "shlex.__init__" (.ref 801) (vs "cpy313.shlex" 1318) (.ref 807)) }
def i6(P:Params):Obj:=co "punctuation_chars" "shlex.punctuation_chars" 1344 656 1 3 809 1348
def i5(P:Params):Obj:=fu (HY 32 1) "shlex.punctuation_chars" "cpy313.shlex" 1318 814
def i4(P:Params):Obj:={ cls:=.type "property",data:=.fields #[.ref 815,.none,.none,.none,vs "punctuation_chars" 1351,.bool false] }
def i3(P:Params):Obj:=co "get_token" "shlex.get_token" 1376 683 1 3 839 1385
def i2(P:Params):Obj:=fu (HY 32 5) "shlex.get_token" "cpy313.shlex" 1318 844
def i1(P:Params):Obj:=co "read_token" "shlex.read_token" 1388 710 1 3 846 1396
def hW(P:Params):Obj:=fu (HY 32 6) "shlex.read_token" "cpy313.shlex" 1318 851
def hV(P:Params):Obj:=co "__iter__" "shlex.__iter__" 1416 857 1 3 868 1420
def hH(P:Params):Obj:=fu (HY 32 9) "shlex.__iter__" "cpy313.shlex" 1318 873
def h9(P:Params):Obj:=co "__next__" "shlex.__next__" 1423 860 1 3 875 1428
def H4(P:Params):Obj:=fu (HY 32 10) "shlex.__next__" "cpy313.shlex" 1318 880
def h8(P:Params):Obj:={ cls:=.type "dict",data:=.dict #[de P "__module__" 1327 (vs "cpy313.shlex" 1318),de P "__firstlineno__" 1331 (.int 613 1330),de P "__init__" 1343 (.ref 808),de P "punctuation_chars" 1351 (.ref 816),de P "push_token" 1359 (.ref 823),de P "push_source" 1368 (.ref 831),de P "pop_source" 1375 (.ref 838),de P "get_token" 1387 (.ref 845),de P "read_token" 1398 (.ref 852),de P "sourcehook" 1406 (.ref 859),de P "error_leader" 1415 (.ref 867),de P "__iter__" 1422 (.ref 874),de P "__next__" 1430 (.ref 881),de P "__static_attributes__" 1451 (.ref 882),de P "__dict__" 1453 (.ref 885),de P "__weakref__" 1455 (.ref 886),de P "__doc__" 1456 .none] 4 }
def gz(P:Params):Obj:={ cls:=.type "type",data:=.cls { name:=Str.ofString "shlex",bases:=[.type "object"],mro:=[.ref 884,.type "object"],ns:=883,qualname:=Str.ofString "shlex",hasDict:=true,slotNames:=[],subclasses:=[] },slots:=#[none,none,some (vs "shlex" 1320),some (vs "shlex" 1328),some (.builtin "object.__new__"),some (.bool true)] }
noncomputable def gy(P:Params):Obj:={ cls:=.type "tuple",data:=.seq #[.bool false,.bool true] 0 }
def gx(P:Params):Obj:=co "split" "split" 1459 865 3 3 890 1466
def IG(P:Params):Obj:={ cls:=.type "function",data:=.func (fd (Mj 33) "split" (.ref 889) (vs "cpy313.shlex" 1318) (.ref 895)) }
def a9(P:Params):Obj:=co "join" "join" 1469 873 1 3 897 1473
def gw(P:Params):Obj:=fu (Mj 34) "join" "cpy313.shlex" 1318 902
noncomputable def gv(P:Params):Obj:={ cls:=.type "builtin_function_or_method",data:=.fields #[.builtin "re.Pattern.search",.ref 201] }
def gu(P:Params):Obj:=co "quote" "quote" 1479 877 1 3 905 1483
def gr(P:Params):Obj:=fu (Mj 37) "quote" "cpy313.shlex" 1318 910
def gq(P:Params):Obj:={ cls:=.type "code",data:=.fields #[vs "_law_turned" 1488,vs "_law_turned" 1489,vs "/claim/cut.py" 1490,.int 884 0,.int 1 0,.int 0 0,.int 0 0,.int 3 0,.ref 912,.bool true,.int 318 0,.ref 913,.none,.none,.none,.ref 914,.int 1491 0,.int 884 0,vs "/claim/cut.py" 1492] }
def a8(P:Params):Obj:=fu (Mj 39) "_law_turned" "law_om0190_01" 1486 915
def gp(P:Params):Obj:=co "_law_arrow" "_law_arrow" 1494 886 2 3 917 1499
def gm(P:Params):Obj:=fu (Mj 40) "_law_arrow" "law_om0190_01" 1486 922
def gj(P:Params):Obj:={ cls:=.type "code",data:=.fields #[vs "_law_firsts" 1502,vs "_law_firsts" 1503,vs "/claim/cut.py" 1504,.int 888 0,.int 1 0,.int 0 0,.int 0 0,.int 3 0,.ref 924,.bool true,.int 318 0,.ref 925,.none,.none,.none,.ref 926,.int 1505 0,.int 888 0,vs "/claim/cut.py" 1506] }
def H3(P:Params):Obj:=fu (Mj 41) "_law_firsts" "law_om0190_01" 1486 927
def gi(P:Params):Obj:=co "_law_rounds" "_law_rounds" 1508 890 1 3 929 1520
def Cb(P:Params):Obj:=fu (Mj 42) "_law_rounds" "law_om0190_01" 1486 934
def gh(P:Params):Obj:={ cls:=.type "code",data:=.fields #[vs "_law_walks" 1523,vs "_law_walks" 1524,vs "/claim/cut.py" 1525,.int 909 0,.int 1 0,.int 0 0,.int 0 0,.int 3 0,.ref 936,.bool true,.int 318 0,.ref 937,.none,.none,.none,.ref 938,.int 1526 0,.int 909 0,vs "/claim/cut.py" 1527] }
def SO(P:Params):Obj:=fu (Mj 43) "_law_walks" "law_om0190_01" 1486 939
def gf(P:Params):Obj:={ cls:=.type "code",data:=.fields #[vs "law" 1529,vs "law" 1530,vs "/claim/cut.py" 1531,.int 924 0,.int 1 0,.int 0 0,.int 0 0,.int 3 0,.ref 941,.bool true,.int 318 0,.ref 942,.none,.none,.none,.ref 943,.int 1532 0,.int 924 0,vs "/claim/cut.py" 1533] }
def Wc(P:Params):Obj:=fu (Mj 44) "law" "law_om0190_01" 1486 944
def VW(P:Params):List (Nat×Obj):=[(0,o0 P),(1,o1 P),(2,o2 P),(3,o3 P),(4,o4 P),(75,nD P),(76,iA P),(90,nC P),(91,nB P),(94,nA P),(95,n9 P),(96,n8 P),(97,n7 P),(98,n6 P),(109,j1 P),(110,i' P),(121,iz P),(127,iw P),(128,iu P),(134,ir P),(135,iq P),(141,ip P),(142,ik P),(146,ij P),(147,E2 P),(153,ig P),(154,ie P),(174,ic P),(175,We P),(181,ib P),(182,Wd P),(191,ia P),(192,iZ P),(200,iY P),(201,iX P),(214,iW P),(215,iV P),(241,iU P),(242,iT P),(244,iS P),(245,iR P),(246,iQ P),(271,iP P),(272,iO P),(502,iN P),(512,iM P),(518,iL P),(519,iK P),(525,iJ P),(526,iI P),(532,iH P),(533,iG P),(688,iF P),(694,iE P),(695,iD P),(748,iC P),(749,iB P),(801,i9 P),(807,i8 P),(808,i7 P),(814,i6 P),(815,i5 P),(816,i4 P),(844,i3 P),(845,i2 P),(851,i1 P),(852,hW P),(873,hV P),(874,hH P),(880,h9 P),(881,H4 P),(883,h8 P),(884,gz P),(889,gy P),(895,gx P),(896,IG P),(902,a9 P),(903,gw P),(904,gv P),(910,gu P),(911,gr P),(915,gq P),(916,a8 P),(922,gp P),(923,gm P),(927,gj P),(928,H3 P),(934,gi P),(935,Cb P),(939,gh P),(940,SO P),(944,gf P),(945,Wc P)]
def A4(P:Params):KT:=KT.of (VW P)
structure FD where
 k:Result→Sem Fin
 gk:GenResult→Sem Fin
 gn:Nat
 g:Bool
 l:List Value
 pos:Pos
 body:List Stmt
 qm:List Stmt
 e:Expr
 gens:List Comprehension
 sc:Scope
 p2:Pos
 env:Env
 v:Value
 v2:Value
 n:Nat
 args:Args
 h:Option Value
 ty:String
 sx:Str
inductive Sh where
 | func
 | comp
 | whil
 | for_
 | bi (id:String) (k:Nat)
 | gcomp
 | rr (id:String)
 | fun1 (e:Env)
 | om (e:Env)
 | qP (e:Env)
noncomputable def Sh.code:Sh→FD→Code
 | .func,d=>.func d.body d.env
 | .comp,d=>.compLoop (.ListComp d.e d.gens d.sc d.p2) d.n d.v d.v2 d.env
 | .whil,d=>.whileLoop d.e d.body d.qm d.env
 | .for_,d=>.forLoop d.e d.v d.body d.qm d.env
 | .bi id 1,d=>.builtin id ⟨.ref d.n::d.args.pos,d.args.kw⟩
 | .bi id 2,d=>.builtin id ⟨.type d.ty::d.args.pos,d.args.kw⟩
 | .bi id 3,d=>.builtin id ⟨.str d.sx d.n::d.args.pos,d.args.kw⟩
 | .bi id _,d=>.builtin id ⟨[],d.args.kw⟩
 | .gcomp,d=>.compLoop (.GeneratorExp d.e d.gens d.sc d.p2) 0 d.v d.v2 d.env
 | .rr id,d=>.builtin id d.args
 | .fun1 e,d=>.func d.body e
 | .om e,d=>.whileLoop d.e d.body d.qm e
 | .qP e,d=>.forLoop d.e d.v d.body d.qm e
noncomputable def Sh.frame:Sh→FD→Frame
 | .rr id,d=>.gen d.gn d.gk d.l (.builtin id d.args) d.pos
 | sh,d=>.ret d.k none d.g d.l (sh.code d) d.pos []
noncomputable def VZ:Frame→Option Sh
 | .ret _ none _ _ c _ []=>match c with
  | .func _ _=>some .func
  | .compLoop (.ListComp _ _ _ _) _ _ _ _=>some .comp
  | .compLoop (.GeneratorExp _ _ _ _) 0 _ _ _=>some .gcomp
  | .whileLoop _ _ _ _=>some .whil
  | .forLoop _ _ _ _ _=>some .for_
  | .builtin id ⟨.ref _::_,_⟩=>some (.bi id 1)
  | .builtin id ⟨.type _::_,_⟩=>some (.bi id 2)
  | .builtin id ⟨.str _ _::_,_⟩=>some (.bi id 3)
  | .builtin id ⟨[],_⟩=>some (.bi id 0)
  | _=>none
 | .gen _ _ _ (.builtin id _) _=>some (.rr id)
 | _=>none
def NL:Sh→Frame→Option Sh
 | .fun1 _,.ret _ none _ _ (.func _ env) _ []=>some (.fun1 env)
 | .om _,.ret _ none _ _ (.whileLoop _ _ _ env) _ []=>some (.om env)
 | .qP _,.ret _ none _ _ (.forLoop _ _ _ _ env) _ []=>some (.qP env)
 | _,f=>VZ f
def BB:List Sh→List Frame→List (Option Sh)
 | s::ss,f::l=>NL s f::BB ss l
 | [],f::l=>none::[]
 | _,[]=>[]
noncomputable def BH:List Sh→Nat→(Nat→FD)→List Frame
 | [],_,_=>[]
 | s::ss,i,d=>s.frame (d i)::BH ss (i+1) d
noncomputable def LQ:FD:=⟨fun q=>.pure default,fun q=>.pure default,0,false,[],default,[],[],default,[],default,default,default,.none,.none,0,{},none,"",Str.empty⟩
noncomputable def kG(f:Frame):Option Sh→Prop
 | some s=>∃ d,f=s.frame d
 | none=>True
theorem PM(f:Frame):kG f (VZ f):=by
 cases f with
 | ret k hd g l c p kp=>
  cases hd with
  | some _=>exact True.intro
  | none=>
   cases kp with
   | cons _ _=>exact True.intro
   | nil=>
   cases c with
   | func b e=>exact ⟨{ LQ with k:=k,g:=g,l:=l,pos:=p,body:=b,env:=e },rfl⟩
   | whileLoop t b o e=>exact ⟨{ LQ with k:=k,g:=g,l:=l,pos:=p,e:=t,body:=b,qm:=o,env:=e },rfl⟩
   | forLoop t it b o e=>exact ⟨{ LQ with k:=k,g:=g,l:=l,pos:=p,e:=t,v:=it,body:=b,qm:=o,env:=e },rfl⟩
   | builtin id a=>
    obtain ⟨ps,kw⟩:=a
    cases ps with
    | nil=>exact ⟨{ LQ with k:=k,g:=g,l:=l,pos:=p,args:=⟨[],kw⟩ },rfl⟩
    | cons v ps=>
     cases v with
     | ref a=>exact ⟨{ LQ with k:=k,g:=g,l:=l,pos:=p,n:=a,args:=⟨ps,kw⟩ },rfl⟩
     | type a=>exact ⟨{ LQ with k:=k,g:=g,l:=l,pos:=p,ty:=a,args:=⟨ps,kw⟩ },rfl⟩
     | str a t=>exact ⟨{ LQ with k:=k,g:=g,l:=l,pos:=p,sx:=a,n:=t,args:=⟨ps,kw⟩ },rfl⟩
     | _=>exact True.intro
   | compLoop ex n it acc e=>
    cases ex with
    | ListComp=>exact ⟨{ LQ with k:=k,g:=g,l:=l,pos:=p,e:=_,gens:=_,sc:=_,p2:=_,n:=n,v:=it,v2:=acc,env:=e },rfl⟩
    | GeneratorExp=>
     cases n with
     | zero=>exact ⟨{ LQ with k:=k,g:=g,l:=l,pos:=p,e:=_,gens:=_,sc:=_,p2:=_,v:=it,v2:=acc,env:=e },rfl⟩
     | succ=>exact True.intro
    | _=>exact True.intro
   | _=>exact True.intro
 | gen n k l c p=>
  cases c with
  | builtin=>exact ⟨{ LQ with gk:=k,gn:=n,l:=l,pos:=p,args:=_ },rfl⟩
  | _=>exact True.intro
theorem Ai{f:Frame}{s:Sh}(h:VZ f=some s):∃ d,f=s.frame d:=by
 have k:=PM f
 rw [h] at k
 exact k
theorem PN{f:Frame}{s:Sh}(h:NL s f=some s):∃ d,f=s.frame d:=by
 cases s with
 | fun1 e=>cases f with
  | ret k hd g l c p kp=>cases hd with
   | some _=>exact Ai h
   | none=>cases c with
    | func b env=>cases kp with
     | nil=>cases h; exact ⟨{ LQ with k:=k,g:=g,l:=l,pos:=p,body:=b },rfl⟩
     | cons=>exact Ai h
    | _=>exact Ai h
  | gen=>exact Ai h
 | om e=>cases f with
  | ret k hd g l c p kp=>cases hd with
   | some _=>exact Ai h
   | none=>cases c with
    | whileLoop ex b o env=>cases kp with
     | nil=>cases h; exact ⟨{ LQ with k:=k,g:=g,l:=l,pos:=p,e:=ex,body:=b,qm:=o },rfl⟩
     | cons=>exact Ai h
    | _=>exact Ai h
  | gen=>exact Ai h
 | qP e=>cases f with
  | ret k hd g l c p kp=>cases hd with
   | some _=>exact Ai h
   | none=>cases c with
    | forLoop ex it b o env=>cases kp with
     | nil=>cases h; exact ⟨{ LQ with k:=k,g:=g,l:=l,pos:=p,e:=ex,v:=it,body:=b,qm:=o },rfl⟩
     | cons=>exact Ai h
    | _=>exact Ai h
  | gen=>exact Ai h
 | _=>exact Ai h
theorem G1:∀ {ss:List Sh} {l:List Frame} (i:Nat),BB ss l=ss.map some→∃ d,l=BH ss i d
 | [],[],_,_=>⟨fun q=>LQ,rfl⟩
 | [],_::_,_,h=>by cases h
 | _::_,[],_,h=>by cases h
 | s::ss,f::l,i,h=>by
  have h:=List.cons.inj h
  obtain ⟨d₀,e₀⟩:=PN h.1
  obtain ⟨d,e⟩:=G1 (i+1) h.2
  have key:∀ (ss:List Sh) (j:Nat),i < j→BH ss j (fun n=>if n=i then d₀ else d n)=BH ss j d:=by
   intro ss
   induction ss with
   | nil=>intros; rfl
   | cons s ss ih=>
    intro j hj
    show _::_=_::_
    rw [ih (j+1) (by lia)]
    have:¬ j=i:=by lia
    simp only [this,if_false]
  refine ⟨fun n=>if n=i then d₀ else d n,?_⟩
  show f::l=_::_
  rw [key ss (i+1) (by lia)]
  simp only [if_true]
  rw [e₀,e]
section
noncomputable def R.tag:R→Nat
 | .bad _ _=>0
 | .fin ..=>1
 | .raised ..=>2
 | .call ..=>3
 | .stop ..=>4
noncomputable def R.qh(r:R):List Nat:=r.es.map (·.1)
noncomputable def R.qg(r:R):List Nat:=r.es.map (·.2)
noncomputable def R.fin? : R→Option Fin
 | .fin _ f ..=>some f
 | _=>none
noncomputable def R.x:R→SX
 | .fin _ _ x ..=>x
 | .raised _ _ x ..=>x
 | .stop _ _ x ..=>x
 | .call _ _ _ x ..=>x
 | .bad _ _=>⟨.nil,0,0,0,#[],{},0,0,{}⟩
noncomputable def R.nj:R→List Frame
 | .fin _ _ _ _ _ s=>s
 | .raised _ _ _ _ _ s=>s
 | .stop _ _ _ _ _ s _=>s
 | .call _ _ _ _ _ _ s _=>s
 | .bad _ _=>[]
noncomputable def R.cd:R→Code
 | .fin _ _ _ c _ _=>c
 | .raised _ _ _ c _ _=>c
 | .stop _ _ _ c _ _ _=>c
 | .call _ _ _ _ c _ _ _=>c
 | .bad _ _=>.builtin "" {}
noncomputable def R.c:R→Code
 | .call _ c ..=>c
 | _=>.builtin "" {}
noncomputable def R.hd:R→Option Value
 | .call _ _ hd ..=>hd
 | _=>none
noncomputable def R.k:R→Result→SX→R
 | .call _ _ _ _ _ _ _ k=>k
 | _=>fun q q=>.bad 0 0
noncomputable def R.cur:R→Sem Fin
 | .stop _ c ..=>c
 | _=>.pure default
noncomputable def R.pos:R→Pos
 | .stop _ _ _ _ p _ _=>p
 | _=>default
noncomputable def R.kS:R→Sem Fin→SX→R
 | .stop _ _ _ _ _ _ k=>k
 | _=>fun q q=>.bad 0 0
noncomputable def R.err:R→Value
 | .raised _ e ..=>e
 | _=>.none
theorem DO:∀ {es:List (Nat×Nat)},es.map (·.1)=es.map (·.2)→Hr es
 | [],_=>fun y h=>nomatch h
 | q::es,h=>by
  rw [List.map_cons,List.map_cons,List.cons.injEq] at h
  intro z hz
  rcases List.mem_cons.mp hz with rfl | m
  ·exact h.1
  ·exact DO h.2 z m
section
variable{p:Program}{w:World}{kt:KT}
inductive UW (p:Program) (w:World) (kt:KT) (x:SX) (r:R) (s:Shared) (t:Thread) (cur:Sem Fin):Prop
 | mk (ext:Bz x r.x) (s':Shared) (pos:Pos) (go:Go p w s t s' ⟨cur,r.cd,pos,r.nj⟩) (rep:Bd kt s' r.x) (keep:AP r.x s s'):UW p w kt x r s t cur
inductive bu (p:Program) (w:World) (kt:KT) (x:SX) (r:R) (s:Shared) (t:Thread):Prop
 | mk (ext:Bz x r.x) (s':Shared) (go:Go p w s t s' ⟨r.cur,r.cd,r.pos,r.nj⟩) (rep:Bd kt s' r.x) (keep:AP r.x s s') (k:∀ pH pQ od,Bd kt od pQ→Dm p w kt pQ (r.kS pH pQ) od ⟨pH,r.cd,r.pos,r.nj⟩):bu p w kt x r s t
inductive bw (p:Program) (w:World) (kt:KT) (x:SX) (r:R) (s:Shared) (t:Thread):Prop
 | mk (ext:Bz x r.x) (s':Shared) (pos:Pos) (g:Bool) (l:List Value) (kk:Result→Sem Fin) (go:Go p w s t s' ⟨.call r.c r.hd g l kk,r.cd,pos,r.nj⟩) (rep:Bd kt s' r.x) (keep:AP r.x s s') (k:∀ res pQ od,Bd kt od pQ→Dm p w kt pQ (r.k res pQ) od ⟨kk res,r.cd,pos,r.nj⟩):bw p w kt x r s t
theorem Dm.toFin{x:SX}{r:R}{s:Shared}{t:Thread}{f:Fin}(h:Dm p w kt x r s t)(e1:r.qh=r.qg)(e2:r.fin?=some f):UW p w kt x r s t (.pure f):=by
 cases r<;>try cases e2
 obtain ⟨a,s',g,r,k⟩:=h (DO e1)
 exact ⟨a,s',_,g,r,k⟩
theorem Dm.qb{x:SX}{r:R}{s:Shared}{t:Thread}(h:Dm p w kt x r s t)(e1:r.qh=r.qg)(e2:r.tag=2):UW p w kt x r s t (.raise r.err):=by
 cases r<;>try cases e2
 obtain ⟨a,s',g,r,k⟩:=h (DO e1)
 exact ⟨a,s',_,g,r,k⟩
theorem Dm.qq{x:SX}{r:R}{s:Shared}{t:Thread}(h:Dm p w kt x r s t)(e1:r.qh=r.qg)(e2:r.tag=4):bu p w kt x r s t:=by
 cases r<;>try cases e2
 obtain ⟨a,s',go,rp,kp,c⟩:=h (DO e1)
 exact ⟨a,s',go,rp,kp,c⟩
theorem Dm.qr{x:SX}{r:R}{s:Shared}{t:Thread}(h:Dm p w kt x r s t)(e1:r.qh=r.qg)(e2:r.tag=3):bw p w kt x r s t:=by
 cases r<;>try cases e2
 obtain ⟨a,s',g,l,kk,go,rp,kp,c⟩:=h (DO e1)
 exact ⟨a,s',_,g,l,kk,go,rp,kp,c⟩
def JY(kt:KT)(s:Shared):Prop:=∀ a o,kt.get a=some o→s.heap.get? a=some o
structure BK(s s':Shared):Prop where
 life:s'.heap.life=s.heap.life
 old:∀ b o,s.heap.get? b=some o→s'.heap.get? b=some o
 gens:s'.gens=s.gens
 drawn:s'.drawn=s.drawn
 os:s'.os=s.os
theorem BK.refl(s:Shared):BK s s:=⟨rfl,fun q q h=>h,rfl,rfl,rfl⟩
theorem BK.trans{s s₁ s₂:Shared}(h:BK s s₁)(k:BK s₁ s₂):BK s s₂:=⟨k.life.trans h.life,fun b o e=>k.old b o (h.old b o e),k.gens.trans h.gens,k.drawn.trans h.drawn,k.os.trans h.os⟩
theorem BK.top{s s':Shared}(h:BK s s')(k:JY kt s):JY kt s':=fun a o e=>h.old a o (k a o e)
noncomputable def SX.grown(x:SX)(n t:Nat):SX:=⟨x.T,x.m,n,0,x.gens,x.drawn,t,0,x.os⟩
theorem Bd.grown{s s':Shared}{x:SX}(D:Bd kt s x)(G:BK s s'):Bd kt s' (x.grown s'.heap.objs.size s'.toks):=
 ⟨rfl,fun j a o h=>G.old _ _ (D.own j a o h),D.apart,D.low,fun a o h=>G.old _ _ (D.top a o h),D.off,G.gens.trans D.gens,G.drawn.trans D.drawn,rfl,G.os.trans D.os⟩
theorem Cq{s:Shared}{f:Flow}{cd oI:Code}{pos pc:Pos}{k:Result→Sem Fin}{hd:Option Value}{g:Bool}{l kp:List Value}{rest:List Frame}:Go p w s ⟨.pure (.done f),oI,pos,.ret k hd g l cd pc kp::rest⟩ s ⟨k (.ok f),cd,pc,rest⟩:=
 .one (step_leaf_ret _ _ _ _ _ (.ok f) _ _ _ _ _ _ _)
theorem TM{s:Shared}{e:Value}{cd oI:Code}{pos pc:Pos}{k:Result→Sem Fin}{hd:Option Value}{g:Bool}{l kp:List Value}{rest:List Frame}:Go p w s ⟨.raise e,oI,pos,.ret k hd g l cd pc kp::rest⟩ s ⟨k (.error e),cd,pc,rest⟩:=
 .one (step_leaf_ret _ _ _ _ _ (.error e) _ _ _ _ _ _ _)
theorem FC{s s':Shared}{t t':Thread}(h:(model p w).step s t=.go s' t'):s.heap.objs.size≤s'.heap.objs.size∧s'.heap.life=s.heap.life:=by
 have hl:t.loud=false:=by
  cases q:t.loud with
  | false=>rfl
  | true=>rw [Model.step_loud _ q] at h; cases h
 rw [Model.step_quiet _ hl] at h
 have key:∀ {t:Thread},step (denote table) p w s t=.go s' t'→s.heap.objs.size≤s'.heap.objs.size∧s'.heap.life=s.heap.life:=by
  intro t h
  rw [PySem.step_heap (denote table) p w s s' t t' h]
  obtain ⟨cur,code,pos,stack⟩:=t
  cases cur with
  | alloc=>exact ⟨(Heap.size_push _ _).symm ▸ Nat.le_succ _,rfl⟩
  | update a _ f _=>exact ⟨Nat.le_of_eq ((Heap.SameBut.update ..).1.symm),rfl⟩
  | _=>exact ⟨Nat.le_refl _,rfl⟩
 obtain ⟨cur,code,pos,stack⟩:=t
 replace key:=key (t:=⟨cur,code,pos,stack⟩)
 cases cur with
 | pure f=>cases f with
  | again c=>cases h; exact ⟨Nat.le_refl _,rfl⟩
  | done f=>exact key h
 | call c hd g l k=>cases h; exact ⟨Nat.le_refl _,rfl⟩
 | _=>exact key h
theorem Go.size{s s':Shared}{t t':Thread}(h:Go p w s t s' t'):s.heap.objs.size≤s'.heap.objs.size:=by
 induction h with
 | refl=>exact Nat.le_refl _
 | head e _ ih=>exact Nat.le_trans ((FC e).1) ih
end
end
def wf(w:World)(b1 b2:Bool):World:=(w.withFollow "special-get-raises" b1).withFollow "comprehension-iter-twice" b2
noncomputable def R.str:R→Option Str
 | .fin _ (.done (.ret (.str s _))) _ _ _ _=>some s
 | _=>none
def Cf(S:Str)(r:Result):Prop:=∃ tk,r=.ok (.ret (.str S tk))
section
def CT(p:Program)(w:World)(c:Code)(R:Result→Prop):Prop:=
 ∀ (s:Shared) (k:Result→Sem Fin) (g:Bool) (l:List Value) (cd:Code) (pc:Pos) (rest:List Frame),
  ∃ s' res,R res∧BK s s'∧Go p w s ⟨denote table c,c,pc,.ret k none g l cd pc []::rest⟩ s' ⟨k res,cd,pc,rest⟩
section
variable{p:Program}{w:World}
theorem EM{id:String}{args:Args}{R:Result→Prop}{T:Sem Fin}(h1:oS (.call (.builtin id) args)=.pure (.again (.builtin id args)))(h2:oS (.builtin id args)=T)(hc:∀ c pos st,Thread.calm ⟨.pure (.again (.builtin id args)),c,pos,st⟩=true)
  (h:∀ (s:Shared) (k:Result→Sem Fin) (g:Bool) (l:List Value) (cd:Code) (pc:Pos) (rest:List Frame),∃ s' res,R res∧BK s s'∧Go p w s ⟨T,.builtin id args,pc,.ret k none g l cd pc []::rest⟩ s' ⟨k res,cd,pc,rest⟩) :
  CT p w (.call (.builtin id) args) R:=by
 intro s k g l cd pc rest
 obtain ⟨s',res,hR,G,go⟩:=h s k g l cd pc rest
 refine ⟨s',res,hR,G,?_⟩
 rw [C4,h1]
 refine .head (DJ (hc _ _ _)) ?_
 rw [C4,h2]
 exact go
theorem I1{v:Value}{R:Result→Prop}(hR:R (.ok (.ret v))){c:Code}(s:Shared)(k:Result→Sem Fin)(g:Bool)(l:List Value)(cd:Code)(pc:Pos)(rest:List Frame) :
  ∃ s' res,R res∧BK s s'∧Go p w s ⟨.pure (.done (.ret v)),c,pc,.ret k none g l cd pc []::rest⟩ s' ⟨k res,cd,pc,rest⟩:=⟨s,_,hR,.refl s,Cq⟩
theorem M1{v:Nat→Value}{R:Result→Prop}(hR:∀ t,R (.ok (.ret (v t)))){c:Code}(s:Shared)(k:Result→Sem Fin)(g:Bool)(l:List Value)(cd:Code)(pc:Pos)(rest:List Frame) :
  ∃ s' res,R res∧BK s s'∧Go p w s ⟨.fresh fun t=>.pure (.done (.ret (v t))),c,pc,.ret k none g l cd pc []::rest⟩ s' ⟨k res,cd,pc,rest⟩:=
 ⟨{ s with toks:=s.toks+1 },_,hR s.toks,⟨rfl,fun q q h=>h,rfl,rfl,rfl⟩,.head (step_fresh ..) Cq⟩
theorem NY{base:List Frame}{s:Shared}{t:Sem Fin}{c:Code}{pos:Pos}{pre:List Frame}{s':Shared}{e:End}(h:Reach (model p w) base s t c pos pre s' e) :
  ∃ t' c' pos' qJ,Exits e t' c' pos' qJ∧Go p w s ⟨t,c,pos,pre++base⟩ s' ⟨t',c',pos',qJ++base⟩:=by
 induction h with
 | exit hx=>exact ⟨_,_,_,_,hx,.refl⟩
 | step hs _ ih=>
  obtain ⟨t',c',pos',qJ,hx,go⟩:=ih
  exact ⟨t',c',pos',qJ,hx,.head hs go⟩
noncomputable abbrev UI(cd:Code)(rest:List Frame):Around:={ handled:=(Ctx.of cd rest).handled,depth:=frameCount (Ctx.of cd rest).below+(Ctx.of cd rest).code.weight,frames:=none,guards:=none,units:=(Ctx.of cd rest).units }
theorem C'{c:Code}{s:Shared}{k:Result→Sem Fin}{g:Bool}{l:List Value}{cd:Code}{pc:Pos}{rest:List Frame}{Q E:Value→Shared→Prop}{R:Prop}(h:wpAny (model p w) (UI cd rest) (runValue c) Q E s)
  (hq:∀ v s' oI pos',Q v s'→Go p w s ⟨denote table c,c,pc,.ret k none g l cd pc []::rest⟩ s' ⟨.pure (.done (.ret v)),oI,pos',.ret k none g l cd pc []::rest⟩→R) (he:∀ v s' oI pos',E v s'→Go p w s ⟨denote table c,c,pc,.ret k none g l cd pc []::rest⟩ s' ⟨.raise v,oI,pos',.ret k none g l cd pc []::rest⟩→R):R:=by
 have z:=h (Ctx.of cd rest) pc ⟨rfl,Nat.le_refl _,(by intro l h; cases h),(by intro l h; cases h),Nat.le_refl _⟩
 have z':wpCode (model p w) ((Ctx.of cd rest).enter c none pc) (fun r s'=>match r with | .ok (.ret v)=>Q v s' | .ok _=>False | .error e=>E e s') pc s:=by
  have e:=Sem.wp_runValue (M:=model p w) (Γ:=Ctx.of cd rest) (E:=fun e q s'=>E e s') (p:=pc) (s:=s) c (fun a q s'=>Q a s')
  exact e ▸ z
 obtain ⟨r,s',ret,hr⟩:=z'
 obtain ⟨t',c',pos',qJ,hx,go⟩:=NY (runs_reach ret (.ret k none g l cd pc []::rest) ((Ctx.fits_of cd rest).enter _ k none g l pc []))
 obtain ⟨rfl,rfl⟩:=hx
 cases r with
 | error e=>exact he e s' _ _ hr go
 | ok fl=>cases fl with
  | ret v=>exact hq v s' _ _ hr go
  | _=>exact hr.elim
theorem Iv{f:Value}{args:List Value}{R:Result→Prop}
  (h:∀ (A:Around) (s:Shared) (Q E:Value→Shared→Prop),(∀ v s',R (.ok (.ret v))→BK s s'→Q v s')→wpAny (model p w) A (call f args) Q E s):CT p w (.call f ⟨args,[]⟩) R:=by
 intro s k g l cd pc rest
 exact C' (c:=.call f ⟨args,[]⟩) (h (UI cd rest) s (fun v s'=>R (.ok (.ret v))∧BK s s') (fun q q=>False) fun v s' a b=>⟨a,b⟩) (fun v s' q q hr go=>⟨s',_,hr.1,hr.2,go.trans Cq⟩) (fun q q q q h=>h.elim)
def BU(b:Bool)(r:Result):Prop:=r=.ok (.ret (.bool b))
def JZ(i:Int)(r:Result):Prop:=∃ tk,r=.ok (.ret (.int i tk))
theorem XT(a b:Int)(t u:Nat):CT p w (.call (.builtin "int.__lt__") ⟨[.int a t,.int b u],[]⟩) (BU (decide (a < b))):=
 EM (T:=.pure (.done (.ret (.bool (decide (a < b)))))) (by kernel_rfl) (by kernel_rfl) (fun q q q=>by rw [← BD]; kernel_rfl) (I1 (R:=BU _) rfl)
theorem XU(a b:Int)(t u:Nat):CT p w (.call (.builtin "int.__ge__") ⟨[.int a t,.int b u],[]⟩) (BU (decide (a≥b))):=
 EM (T:=.pure (.done (.ret (.bool (decide (a≥b)))))) (by kernel_rfl) (by kernel_rfl) (fun q q q=>by rw [← BD]; kernel_rfl) (I1 (R:=BU _) rfl)
theorem JM{id:String}{b:Builtin}(h:fastTable id=some b)(args:Args):oS (.builtin id args)=b args:=by
 rw [← C4]
 show (match entryFor table id with | some b=>b args | none=>_)=_
 rw [entryFor_of_fast h]
theorem Qo(x y:Nat)(a b:List Nat)(t u:Nat)(h:a.length+b.length+2≤sizeLine):CT p w (.call (.builtin "str.__add__") ⟨[.str ⟨⟨x::a⟩⟩ t,.str ⟨⟨y::b⟩⟩ u],[]⟩) (Cf ⟨⟨x::a++y::b⟩⟩):=by
 refine EM (T:=retStr (⟨⟨x::a⟩⟩++⟨⟨y::b⟩⟩)) (by kernel_rfl) ((JM (b:=Builtin.«str.__add__») (by kernel_rfl) _).trans (by kernel_rfl)) (fun q q q=>by rw [← BD]; kernel_rfl) ?_
 have e:(⟨⟨x::a⟩⟩++⟨⟨y::b⟩⟩:Str)=⟨⟨x::a++y::b⟩⟩:=by
  show Str.mk (_++_)=_
  simp
 rw [e]
 have:¬ (⟨⟨x::a++y::b⟩⟩:Str).length > sizeLine:=by
  show ¬ (x::a++y::b).length > sizeLine
  simp only [List.length_append,List.length_cons]
  lia
 unfold retStr mkStr
 rw [if_neg this]
 exact M1 fun tk=>⟨tk,rfl⟩
theorem Ou(x:Str)(t:Nat)(h:x.length < 2 ^ 62):CT p w (.call (.builtin "len") ⟨[.str x t],[]⟩) (JZ x.length):=
 Iv fun A s Q E hq=>PySem.P.len_str (by lia) (hq _ _ ⟨_,rfl⟩ ⟨rfl,fun q q h=>h,rfl,rfl,rfl⟩)
end
end
section
def Gs(p:Program)(w:World)(Pre:Shared→Prop)(c:Code)(R:Result→Prop):Prop:=
 ∀ (s:Shared) (k:Result→Sem Fin) (g:Bool) (l:List Value) (cd:Code) (pc:Pos) (rest:List Frame),Pre s→
  ∃ s' res,R res∧BK s s'∧Go p w s ⟨denote table c,c,pc,.ret k none g l cd pc []::rest⟩ s' ⟨k res,cd,pc,rest⟩
section
variable{p:Program}{w:World}{kt:KT}
theorem Ej{Pre:Shared→Prop}{c:Code}{R:Result→Prop}
  (h:∀ (A:Around) (s:Shared),Pre s→∀ (Q E:Value→Shared→Prop),(∀ v s',R (.ok (.ret v))→BK s s'→Q v s')→wpAny (model p w) A (runValue c) Q E s):Gs p w Pre c R:=by
 intro s k g l cd pc rest p8
 exact C' (h (UI cd rest) s p8 (fun v s'=>R (.ok (.ret v))∧BK s s') (fun q q=>False) fun v s' a b=>⟨a,b⟩) (fun v s' q q hr go=>⟨s',_,hr.1,hr.2,go.trans Cq⟩) (fun q q q q h=>h.elim)
theorem D6{Pre:Shared→Prop}{f:Value}{args:List Value}{R:Result→Prop}
  (h:∀ (A:Around) (s:Shared),Pre s→∀ (Q E:Value→Shared→Prop),(∀ v s',R (.ok (.ret v))→BK s s'→Q v s')→wpAny (model p w) A (call f args) Q E s):Gs p w Pre (.call f ⟨args,[]⟩) R:=Ej h
theorem B4{s:Shared}{n:Nat}:BK s { s with toks:=n }:=⟨rfl,fun q q h=>h,rfl,rfl,rfl⟩
theorem HC(x:Str)(t a:Nat)(i j:Nat)(ti tj:Nat)(h1:i≤j)(h2:j≤x.length)(h3:x.length≤sizeLine)(h4:j-i < x.length) :
  Gs p w (fun s=>s.heap.IsSlice a (some ((i:Int),ti)) (some ((j:Int),tj)) none) (.call (.builtin "str.__getitem__") ⟨[.str x t,.ref a],[]⟩) (Cf ⟨⟨(x.cps.toList.drop i).take (j-i)⟩⟩):=by
 refine D6 fun A s hs Q E hq=>?_
 refine call_meets (T:="str") PySem.F.slot_str_getitem (typeIs_str s x t) PySem.F.entry_str_getitem (PySem.F.args_str_getitem_2 _ _) (meets_str_getitem_slice x t a (some ((i:Int),ti)) (some ((j:Int),tj)) none rfl) ⟨hs,?_⟩
 have pk:slicePicked x (some ((i:Int),ti)) (some ((j:Int),tj)) none=(List.range (j-i)).map (fun k=>i+k):=by
  unfold slicePicked Builtin.Str.strSliceIndices
  simp only [Option.map_some,Option.map_none,Option.getD_none]
  have e1:¬ ((i:Int) < 0):=by lia
  have e2:¬ ((j:Int) < 0):=by lia
  simp only [e1,e2,if_false,show ((1:Int) > 0) from by decide,if_true]
  have m1:max 0 (min (i:Int) (x.length:Int))=(i:Int):=by lia
  have m2:max 0 (min (j:Int) (x.length:Int))=(j:Int):=by lia
  rw [m1,m2]
  unfold sliceRange
  simp only [show ((1:Int) > 0) from by decide,if_true]
  have c:(if (i:Int) < (j:Int) then ((j:Int)-i+1-1) / 1 else 0).toNat=j-i:=by
   split<;>lia
  rw [c]
  apply List.map_congr_left
  intro k _
  lia
 have ln:(slicePicked x (some ((i:Int),ti)) (some ((j:Int),tj)) none).length=j-i:=by rw [pk]; simp
 have fm:(slicePicked x (some ((i:Int),ti)) (some ((j:Int),tj)) none).filterMap (x.cps[·]?)=(x.cps.toList.drop i).take (j-i):=by
  rw [pk]
  obtain ⟨⟨l⟩⟩:=x
  have h2':j≤l.length:=h2
  simp only [List.getElem?_toArray]
  clear pk ln h3 h4 hs hq
  generalize hd:j-i=d
  have:i+d≤l.length:=by lia
  clear h1 h2 h2' hd
  induction d with
  | zero=>simp
  | succ d ih=>
   rw [List.range_succ,List.map_append,List.filterMap_append,ih (by lia)]
   have lt:i+d < l.length:=by lia
   simp only [List.map_cons,List.map_nil,List.filterMap_cons,List.filterMap_nil,List.getElem?_eq_getElem lt]
   rw [List.take_succ]
   have:(l.drop i)[d]?=some l[i+d]:=by rw [List.getElem?_drop,List.getElem?_eq_getElem lt]
   rw [this]; rfl
 unfold sliceMade
 rw [ln,fm]
 have ne:((j-i==x.length)=false):=by simp; lia
 rw [ne,Bool.and_false]
 refine ⟨?_,hq _ _ ⟨_,rfl⟩ B4⟩
 show ((x.cps.toList.drop i).take (j-i)).length≤sizeLine
 rw [List.length_take]
 have:j-i < x.length:=h4
 lia
end
end
inductive SR (cd:Code) (ps:Pos) (st:List Frame) {α:Type}:Sem α→Shared→α→Shared→Prop
 | pure {a s}:SR cd ps st (.pure a) s a s
 | load {a p k s o v s'}:s.heap.get? a=some o→SR cd ps st (k o) s v s'→SR cd ps st (.load a p k) s v s'
 | update {a p f k s o v s'}:s.heap.get? a=some o→SR cd ps st (k ()) { s with heap:=s.heap.update a f } v s'→SR cd ps st (.update a p f k) s v s'
 | alloc {o k s v s'}:SR cd ps st (k s.heap.objs.size) { s with heap:=s.heap.push o } v s'→SR cd ps st (.alloc o k) s v s'
 | stack {k s v s'}:SR cd ps st (k ((cd,ps)::st.map Frame.where_)) s v s'→SR cd ps st (.stack k) s v s'
theorem SR.bind{cd:Code}{ps:Pos}{st:List Frame}{α β:Type}{m:Sem α}{f:α→Sem β}{s s₁ s':Shared}{a:α}{v:β}(h:SR cd ps st m s a s₁)(k:SR cd ps st (f a) s₁ v s'):SR cd ps st (m>>=f) s v s':=by
 induction h with
 | pure=>exact k
 | load ho _ ih=>exact .load ho (ih k)
 | update ho _ ih=>exact .update ho (ih k)
 | alloc _ ih=>exact .alloc (ih k)
 | stack _ ih=>exact .stack (ih k)
structure Hq{α:Type}(C:Sem α→Sem Fin):Prop where
 load:∀ a p k,C (.load a p k)=.load a p (fun o=>C (k o))
 update:∀ a p f k,C (.update a p f k)=.update a p f (fun o=>C (k o))
 alloc:∀ o k,C (.alloc o k)=.alloc o (fun a=>C (k a))
 stack:∀ k,C (.stack k)=.stack (fun l=>C (k l))
theorem SR.go{p:Program}{w:World}{cd:Code}{ps:Pos}{st:List Frame}{α:Type}{m:Sem α}{s s':Shared}{a:α}(h:SR cd ps st m s a s'){C:Sem α→Sem Fin}(P:Hq C):Go p w s ⟨C m,cd,ps,st⟩ s' ⟨C (.pure a),cd,ps,st⟩:=by
 induction h with
 | pure=>exact .refl
 | @load a q k s o v s' ho _ ih=>
  rw [P.load]
  refine .head ((FF rfl (by intros; intro e; cases e) (by intros; intro e; cases e)).trans ?_) ih
  simp only [step,ho]
 | @update a q f k s o v s' ho _ ih=>
  rw [P.update]
  refine .head ((FF rfl (by intros; intro e; cases e) (by intros; intro e; cases e)).trans ?_) ih
  obtain ⟨hp,g1,d1,t1,o1⟩:=s
  have qt:hp.get? a=some o:=ho
  simp only [step,qt,Option.isSome_some,if_true]
 | @alloc o k s v s' _ ih=>
  rw [P.alloc]
  exact .head ((FF rfl (by intros; intro e; cases e) (by intros; intro e; cases e)).trans rfl) ih
 | @stack k s v s' _ ih=>
  rw [P.stack]
  exact .head ((FF rfl (by intros; intro e; cases e) (by intros; intro e; cases e)).trans rfl) ih
noncomputable abbrev Vw:=Bool×Option Env×Option String
def vw(c:Code):Vw:=(c.isFrame,c.env?,match c with | .builtin id _=>some id | _=>none)
def Lm(cd:Code)(st:List Frame):List Vw:=vw cd::st.map (fun f=>vw f.where_.1)
noncomputable def F4(cd:Code)(ps:Pos)(st:List Frame):List (Code×Pos):=(cd,ps)::st.map Frame.where_
theorem Gr(cd:Code)(ps:Pos)(st:List Frame):(F4 cd ps st).map (fun q=>vw q.1)=Lm cd st:=by
 simp [F4,Lm,List.map_map,Function.comp_def]
def Gf(V:List Vw):List Env:=(V.filter (·.1)).filterMap (·.2.1)
theorem JG(pd:List (Code×Pos)):(pd.filter (·.1.isFrame)).filterMap (·.1.env?)=Gf (pd.map (fun q=>vw q.1)):=by
 unfold Gf
 induction pd with
 | nil=>rfl
 | cons q l ih=>
  simp only [List.map_cons]
  by_cases h:q.1.isFrame=true
  ·rw [List.filter_cons_of_pos (by exact h),List.filter_cons_of_pos (by exact h),List.filterMap_cons,List.filterMap_cons,ih]; rfl
  ·rw [List.filter_cons_of_neg (by exact h),List.filter_cons_of_neg (by exact h),ih]
def Am(f:Nat)(V:List Vw):Option (List String):=match V.dropWhile fun v=>!(v.1&&v.2.1.bind (·.frame)==some f) with
 | []=>none
 | _::under=>some (under.filterMap (·.2.2)).eraseDups
theorem Du{α β:Type}(g:α→β)(p:β→Bool):∀ l:List α,(l.map g).dropWhile p=(l.dropWhile (fun a=>p (g a))).map g
 | []=>rfl
 | a::l=>by
  rw [List.map_cons,List.dropWhile_cons,List.dropWhile_cons]
  split
  ·exact Du g p l
  ·rfl
theorem Me(f:Nat)(pd:List (Code×Pos)):EntryCells.beneath f pd=Am f (pd.map (fun q=>vw q.1)):=by
 unfold EntryCells.beneath Am
 rw [Du (fun q:Code×Pos=>vw q.1)]
 have e:(fun a:Code×Pos=>!((vw a.1).1&&(vw a.1).2.1.bind (·.frame)==some f))=fun (c,_)=>!(c.isFrame&&c.env?.bind (·.frame)==some f):=rfl
 rw [e]
 cases pd.dropWhile fun (c,_)=>!(c.isFrame&&c.env?.bind (·.frame)==some f) with
 | nil=>rfl
 | cons a l=>
  simp only [List.map_cons,List.filterMap_map,Function.comp_def]
  rfl
noncomputable def Dd(env:Env)(o:Obj)(back:Value):Array (Option Value):=#[some env.code,some (.ref env.globals),o.slots.getD 2 none,some back,o.slots.getD 4 none,env.func.map Value.ref,some (.ref env.builtins)]++(env.cells.map fun c=>some (.ref c.2)).toArray
noncomputable abbrev Fm:=Env×Nat×Obj
def Gp:List Fm→List Env→Value
 | q::_,_=>.ref q.2.1
 | [],env::_=>env.frame.elim .notImplemented .ref
 | [],[]=>.notImplemented
def Al:Heap→List Fm→List Env→Heap
 | h,[],_=>h
 | h,q::rd,tl=>Al (h.update q.2.1 (fun o=>{ o with slots:=Dd q.1 o (Gp rd tl) })) rd tl
structure YW(h:Heap)(q:Fm):Prop where
 fr:q.1.frame=some q.2.1
 kind:q.1.scope.kind≠.module
 gen:(q.1.scope.isGenerator || q.1.scope.isCoroutine)=false
 get:h.get? q.2.1=some q.2.2
 fresh:(q.2.2.slots.getD 3 none).isSome=false
 live:q.2.2.isFreed=false
def YP(h:Heap)(rd:List Fm):List Env→Prop
 | []=>True
 | env::_=>∃ f o,env.frame=some f∧h.get? f=some o∧(o.slots.getD 3 none).isSome=true∧f∉rd.map (·.2.1)
theorem Jo(o:Obj)(sl:Array (Option Value)):({ o with slots:=sl }:Obj).isFreed=o.isFreed:=by
 obtain ⟨c,d,dt,s⟩:=o; cases dt<;>rfl
theorem KS{cd:Code}{ps:Pos}{st:List Frame}(h:(Lm cd st).any (fun v=>v.2.2==some "claim.caller")=true)(s:Shared):SR cd ps st underTheClaimsCaller s true s:=by
 unfold underTheClaimsCaller
 refine SR.bind (SR.stack .pure) ?_
 refine (?_:∀ b,b=true→SR cd ps st (pure b) s true s) _ ?_
 ·intro b hb; subst hb; exact .pure
 ·rw [← Gr cd ps st,List.any_map,List.any_eq_true] at h
  obtain ⟨q,hq,e⟩:=h
  rw [List.any_eq_true]
  refine ⟨q,hq,?_⟩
  obtain ⟨c,p⟩:=q
  simp only [Function.comp,vw] at e
  cases c with
  | builtin id a=>simp only [Option.some_beq_some,beq_iff_eq] at e; subst e; rfl
  | _=>simp at e
theorem HI{cd:Code}{ps:Pos}{st:List Frame}(hC:(Lm cd st).any (fun v=>v.2.2==some "claim.caller")=true) :
  ∀ (rd:List Fm) (tl:List Env) (s:Shared),(∀ q∈rd,YW s.heap q)→(rd.map (·.2.1)).Nodup→YP s.heap rd tl→SR cd ps st (readyFrames (rd.map (·.1)++tl)) s () { s with heap:=Al s.heap rd tl }
 | [],[],s,_,_,_=>.pure
 | [],env::l,s,_,_,h=>by
  obtain ⟨f,o,hf,ho,hr,_⟩:=h
  show SR cd ps st (readyFrames (env::l)) s () s
  simp only [readyFrames,hf]
  refine SR.bind (SR.load ho .pure) ?_
  rw [if_pos hr]
  exact .pure
 | q::rd,tl,s,h,nd,ht=>by
  obtain ⟨env,f,o⟩:=q
  have ok:=h _ (.head _)
  have hf:env.frame=some f:=ok.fr
  have ho:s.heap.get? f=some o:=ok.get
  have hfr:(o.slots.getD 3 none).isSome=false:=ok.fresh
  simp only [List.map_cons,List.cons_append,readyFrames,hf]
  refine SR.bind (SR.load ho .pure) ?_
  rw [if_neg (by rw [hfr]; exact Bool.false_ne_true)]
  have hk:env.scope.kind≠.module:=ok.kind
  have hg:(env.scope.isGenerator || env.scope.isCoroutine)=false:=ok.gen
  have h1:behindIsImport env (rd.map (·.1)++tl)=pure false:=by
   unfold behindIsImport
   rw [if_pos (by simp [hk])]
  rw [h1]
  refine SR.bind (.pure) ?_
  have h2:SR cd ps st (keptBack env false (rd.map (·.1)++tl)) s (Gp rd tl) s:=by
   cases rd with
   | nil=>
    cases tl with
    | nil=>
     simp only [List.map_nil,List.nil_append,keptBack,hg,Bool.false_eq_true,↓reduceIte,Gp]
     refine SR.bind (a:=true) ?_ .pure
     exact KS hC s
    | cons e2 l=>
     show SR cd ps st (pure (if (env.scope.isGenerator || env.scope.isCoroutine)=true then Value.none else if false=true then .notImplemented else e2.frame.elim .notImplemented Value.ref)) s _ s
     rw [hg]
     exact .pure
   | cons q2 rd=>
    have hf2:=(h q2 (.tail _ (.head _))).fr
    show SR cd ps st (pure (if (env.scope.isGenerator || env.scope.isCoroutine)=true then Value.none else if false=true then .notImplemented else q2.1.frame.elim .notImplemented Value.ref)) s _ s
    rw [hg,hf2]
    exact .pure
  refine SR.bind h2 ?_
  refine SR.bind (SR.update ho .pure) ?_
  have nd':=List.nodup_cons.mp nd
  have other:∀ b,b≠f→∀ o',s.heap.get? b=some o'→(s.heap.update f (fun o=>{ o with slots:=Dd env o (Gp rd tl) })).get? b=some o':=fun b hb o' h'=>((Heap.SameBut.update ..).2 b hb).trans h'
  refine HI hC rd tl _ (fun q hq=>?_) nd'.2 ?_
  ·have okq:=h q (.tail _ hq)
   refine ⟨okq.fr,okq.kind,okq.gen,other _ (fun e=>nd'.1 (List.mem_map.mpr ⟨q,hq,e⟩)) _ okq.get,okq.fresh,okq.live⟩
  ·cases tl with
   | nil=>trivial
   | cons e2 l=>
    obtain ⟨f2,o2,a,b,c,d⟩:=ht
    exact ⟨f2,o2,a,other _ (fun e=>d (by rw [e]; exact .head _)) _ b,c,fun m=>d (.tail _ m)⟩
theorem Cj:∀ (rd:List Fm) (tl:List Env) (h:Heap) (b:Nat),b∉rd.map (·.2.1)→(Al h rd tl).get? b=h.get? b
 | [],_,_,_,_=>rfl
 | q::rd,tl,h,b,hb=>by
  show (Al _ rd tl).get? b=_
  rw [Cj rd tl _ b (fun m=>hb (.tail _ m))]
  exact (Heap.SameBut.update ..).2 b (fun e=>hb (by rw [e]; exact .head _))
theorem D4:∀ (rd:List Fm) (tl:List Env) (h:Heap),(Al h rd tl).objs.size=h.objs.size
 | [],_,_=>rfl
 | q::rd,tl,h=>by
  show (Al _ rd tl).objs.size=_
  rw [D4 rd tl _]
  exact (Heap.SameBut.update ..).1
noncomputable def CY(head:Value)(f:Nat)(fl:Value)(ps:Pos)(ids:List String)(pU:Bool):Obj:=
 { cls:=.type "traceback",data:=.fields #[head,.ref f,.none,fl,.none,rawInt ps.line,rawInt ps.endLine,rawInt ps.col,rawInt ps.endCol,.str (EntryCells.make ids) 0,.bool pU] }
theorem Eu{cd:Code}{ps:Pos}{st:List Frame}{s:Shared}{a i:Nat}{o:Obj}{vs:Array Value}{v:Value}(ho:s.heap.get? a=some o)(hd:o.data=.fields vs)(hv:vs[i]?=some v):SR cd ps st (field (.ref a) i) s v s:=by
 have h1:SR cd ps st (fieldsOf (.ref a)) s vs s:=by
  show SR cd ps st (load a>>=fun o=>match o.data with | .fields vs=>pure vs | _=>unsupported "internal:no-fields") s vs s
  refine SR.bind (SR.load ho .pure) ?_
  rw [hd]; exact .pure
 unfold field
 refine SR.bind h1 ?_
 rw [hv]; exact .pure
theorem Ci{cd:Code}{ps:Pos}{st:List Frame}{s:Shared}{a i:Nat}{o:Obj}{vs:Array Value}{v:Value}(ho:s.heap.get? a=some o)(hd:o.data=.fields vs)(hi:i < vs.size):SR cd ps st (setField (.ref a) i v) s () { s with heap:=s.heap.update a (Obj.mapFields (·.setIfInBounds i v)) }:=by
 unfold setField updateField
 refine SR.bind (SR.load ho .pure) ?_
 rw [hd]
 dsimp only
 rw [if_pos hi]
 exact SR.update ho .pure
theorem HK{cd:Code}{ps:Pos}{st:List Frame}{s:Shared}{f:Nat}{pU:Bool}{ids:List String}(h1:cd.env?.bind (·.frame)=some f)(h2:ps.line≠0)(h3:Am f (Lm cd st)=some ids)(h4:¬ (EntryCells.make ids).length > sizeLine) :
  SR cd ps st (entryPlaceOf f pU) s [rawInt ps.line,rawInt ps.endLine,rawInt ps.col,rawInt ps.endCol,.str (EntryCells.make ids) 0,.bool pU] s:=by
 unfold entryPlaceOf
 refine SR.bind (SR.stack .pure) ?_
 have e:((cd,ps)::st.map Frame.where_).find? (fun (c,_)=>c.env?.bind (·.frame)==some f)=some (cd,ps):=by
  rw [List.find?_cons_of_pos]
  show (cd.env?.bind (·.frame)==some f)=true
  rw [h1]; simp
 rw [e]
 dsimp only
 rw [if_neg (by simpa using h2)]
 have c:EntryCells.cells f pU ((cd,ps)::st.map Frame.where_)=[.str (EntryCells.make ids) 0,.bool pU]:=by
  unfold EntryCells.cells
  have:=Me f (F4 cd ps st)
  rw [Gr,h3] at this
  unfold F4 at this
  rw [this]
  dsimp only
  rw [if_neg h4]
 rw [c]
 exact .pure
theorem Hj{cd:Code}{ps:Pos}{st:List Frame}{s:Shared}{f:Nat}{head:Value}{pU:Bool}{ids:List String} :
  SR cd ps st (EntryCells.newEntry head (.ref f) .none (rawInt f) .none [rawInt ps.line,rawInt ps.endLine,rawInt ps.col,rawInt ps.endCol,.str (EntryCells.make ids) 0,.bool pU]) s (.ref s.heap.objs.size) { s with heap:=s.heap.push (CY head f (rawInt f) ps ids pU) }:=by
 exact SR.alloc .pure
structure F5(cd:Code)(ps:Pos)(st:List Frame)(s:Shared)(env:Env)(f:Nat)(rd:List Fm)(tl:List Env)(ids:List String):Prop where
 fr:env.frame=some f
 own:cd.env?.bind (·.frame)=some f
 line:ps.line≠0
 envs:(Gf (Lm cd st)).dropWhile (·.frame != env.frame)=rd.map (·.1)++tl
 top:(rd.map (·.1)++tl).head?.bind (·.frame)=some f
 caller:(Lm cd st).any (fun v=>v.2.2==some "claim.caller")=true
 qo:Am f (Lm cd st)=some ids
 size:¬ (EntryCells.make ids).length > sizeLine
 sE:∀ q∈rd,YW s.heap q
 nd:(rd.map (·.2.1)).Nodup
 tail:YP s.heap rd tl
theorem FI{cd:Code}{ps:Pos}{st:List Frame}{s:Shared}{env:Env}{f:Nat}{rd:List Fm}{tl:List Env}{ids:List String}(N:F5 cd ps st s env f rd tl ids) :
  SR cd ps st (frameOf env) s (.ref f) { s with heap:=Al s.heap rd tl }:=by
 unfold frameOf
 have h1:SR cd ps st frameEnvs s (Gf (Lm cd st)) s:=by
  unfold frameEnvs
  refine SR.bind (SR.stack .pure) ?_
  have:=JG (F4 cd ps st)
  rw [Gr] at this
  unfold F4 at this
  rw [this]
  exact .pure
 refine SR.bind h1 ?_
 rw [N.envs]
 have R:=HI (ps:=ps) N.caller rd tl s N.sE N.nd N.tail
 have T:=N.top
 generalize rd.map (·.1)++tl=l at R T
 cases l with
 | nil=>cases T
 | cons e2 l=>
  have h2:SR cd ps st (frameObject (e2::l)) s (some (Value.ref f)) { s with heap:=Al s.heap rd tl }:=by
   unfold frameObject
   refine SR.bind R ?_
   have:e2.frame=some f:=by simpa using T
   rw [this]
   exact .pure
  exact SR.bind h2 .pure
theorem OL{cd:Code}{ps:Pos}{st:List Frame}{s:Shared}{env:Env}{f:Nat}{rd:List Fm}{tl:List Env}{ids:List String}(N:F5 cd ps st s env f rd tl ids){ea:Nat}{oe:Obj}{vs:Array Value}
  (he:s.heap.get? ea=some oe) (hd:oe.data=.fields vs) (h1:vs[1]?=some .none) (oQ:ea∉rd.map (·.2.1)) :
  SR cd ps st (noteFrame (.ref ea) env) s () { s with heap:=((Al s.heap rd tl).push (CY .none f (rawInt f) ps ids false)).update ea (Obj.mapFields (·.setIfInBounds 1 (.ref s.heap.objs.size))) }:=by
 have hsz:1 < vs.size:=(Array.getElem?_eq_some_iff.mp h1).1
 unfold noteFrame
 simp only [N.fr]
 refine SR.bind (Eu he hd h1) ?_
 rw [if_neg (by decide)]
 refine SR.bind (FI N) ?_
 refine SR.bind (HK N.own N.line N.qo N.size) ?_
 refine SR.bind Hj ?_
 have e2:(Al s.heap rd tl).get? ea=some oe:=(Cj rd tl _ ea oQ).trans he
 have e3:=Heap.get?_push_of_some (h:=Al s.heap rd tl) (CY .none f (rawInt f) ps ids false) e2
 have:=Ci (cd:=cd) (ps:=ps) (st:=st) (s:={ s with heap:=(Al s.heap rd tl).push (CY .none f (rawInt f) ps ids false) }) (v:=.ref (Al s.heap rd tl).objs.size) e3 hd hsz
 rw [D4] at this ⊢
 exact this
theorem MC{cd:Code}{ps:Pos}{st:List Frame}{s:Shared}{env:Env}{f:Nat}{rd:List Fm}{tl:List Env}{ids:List String}{tb:Nat}{ot:Obj}{ts:Array Value}{ea:Nat}{oe:Obj}{vs:Array Value}
  (ht:s.heap.get? tb=some ot) (rl:ot.data=.fields ts) (h3:ts[3]?=some .none)
  (N:F5 cd ps st { s with heap:=s.heap.update tb (Obj.mapFields (·.setIfInBounds 3 .none)) } env f rd tl ids)
  (he:s.heap.get? ea=some oe) (hd:oe.data=.fields vs) (h1:vs[1]?=some (.ref tb)) (oQ:ea∉rd.map (·.2.1)) (si:tb≠ea) :
  SR cd ps st (noteFrame (.ref ea) env) s () { s with heap:=((Al (s.heap.update tb (Obj.mapFields (·.setIfInBounds 3 .none))) rd tl).push (CY (.ref tb) f (rawInt f) ps ids true)).update ea (Obj.mapFields (·.setIfInBounds 1 (.ref s.heap.objs.size))) }:=by
 have hsz:1 < vs.size:=(Array.getElem?_eq_some_iff.mp h1).1
 have hsz3:3 < ts.size:=(Array.getElem?_eq_some_iff.mp h3).1
 unfold noteFrame
 simp only [N.fr]
 refine SR.bind (Eu he hd h1) ?_
 rw [if_pos (by rfl)]
 have hsu:(s.heap.update tb (Obj.mapFields (·.setIfInBounds 3 .none))).objs.size=s.heap.objs.size:=(Heap.SameBut.update ..).1
 refine SR.bind (Eu ht rl h3) ?_
 rw [if_neg (by intro e; cases e)]
 refine SR.bind (Ci ht rl hsz3) ?_
 refine SR.bind (FI N) ?_
 refine SR.bind (HK (pU:=(Value.ref tb != Value.none)) N.own N.line N.qo N.size) ?_
 refine SR.bind Hj ?_
 have e1:(s.heap.update tb (Obj.mapFields (·.setIfInBounds 3 .none))).get? ea=some oe:=((Heap.SameBut.update ..).2 ea (Ne.symm si)).trans he
 have e2:(Al (s.heap.update tb (Obj.mapFields (·.setIfInBounds 3 .none))) rd tl).get? ea=some oe:=(Cj rd tl _ ea oQ).trans e1
 have e3:=Heap.get?_push_of_some (h:=Al (s.heap.update tb (Obj.mapFields (·.setIfInBounds 3 .none))) rd tl) (CY (.ref tb) f (rawInt f) ps ids true) e2
 have:=Ci (cd:=cd) (ps:=ps) (st:=st) (s:={ s with heap:=(Al (s.heap.update tb (Obj.mapFields (·.setIfInBounds 3 .none))) rd tl).push (CY (.ref tb) f (rawInt f) ps ids true) }) (v:=.ref (Al (s.heap.update tb (Obj.mapFields (·.setIfInBounds 3 .none))) rd tl).objs.size) e3 hd hsz
 rw [D4,hsu] at this ⊢
 exact this
section
noncomputable def eV:Value→Value
 | .str s _=>.str s 0
 | .int i _=>.int i 0
 | .float b _=>.float b 0
 | .bytes b _=>.bytes b 0
 | v=>v
def eC:Code→Code
 | .call f a=>.call f ⟨a.pos.map eV,a.kw.map fun q=>(q.1,eV q.2)⟩
 | .builtin id a=>.builtin id ⟨a.pos.map eV,a.kw.map fun q=>(q.1,eV q.2)⟩
 | c=>c
def eD:Data→Data
 | .seq xs n=>.seq ⟨xs.toList.map eV⟩ n
 | .dict es n=>.dict ⟨es.toList.map fun e=>⟨e.hash,eV e.key,eV e.val⟩⟩ n
 | .set es n t=>.set ⟨es.toList.map fun e=>(e.1,eV e.2)⟩ n t
 | .fields xs=>.fields ⟨xs.toList.map eV⟩
 | d=>d
def eS:Option Value→Option Value
 | some v=>some (eV v)
 | none=>none
def eO(o:Obj):Obj:=⟨o.cls,o.dict,eD o.data,⟨o.slots.toList.map eS⟩⟩
def eP:Option (Nat×Obj)→Option (Nat×Obj)
 | some (a,o)=>some (a,eO o)
 | none=>none
noncomputable def A2(x:SX)(m:Nat):Nat:=match x.T.get m with
 | some (a,_)=>a
 | none=>0
structure U where
 n:Nat→Nat→Nat
 d:Nat→Data
structure NT where
 X:SX→Sem Fin
 Y:SX→Sem Fin
 vp:Option ((SX→List Vw)×Pos)
noncomputable def Wj(e:Value)(env:Env):Sem Unit:=PySem.W.Fast.tw17872113653443481271 e env
theorem OP(e:Value)(env:Env):Wj e env=noteFrame e env:=by unfold Wj; rw [← PySem.W.Fast.te17872113653443481271]
structure AA where
 C:SX→Code
 tr:List Nat
 pre:SX→List (Option (Nat×Obj))
 ss:SX→List Sh
 ok:U→SX→Bool
 res:U→SX→Result
 upd:U→SX→SX
 good:U→SX→Prop:=fun _ _=>True
 nt:Option NT:=none
 rM:Option (SX→List Nat):=none
noncomputable def Hs:Value→Nat
 | .str _ t=>t
 | .int _ t=>t
 | .float _ t=>t
 | .bytes _ t=>t
 | _=>0
noncomputable def dV(t:Nat):Value→Value
 | .str s _=>.str s t
 | .int i _=>.int i t
 | .float b _=>.float b t
 | .bytes b _=>.bytes b t
 | v=>v
theorem Ec(v:Value):dV (Hs v) (eV v)=v:=by cases v<;>rfl
theorem Hl{α:Type}{a b:α}{l l':List α}(h:a=b)(k:l=l'):a::l=b::l':=h ▸ k ▸ rfl
noncomputable def mI{α β:Type}(g:β→α→α):(Nat→β)→List α→List α
 | _,[]=>[]
 | q,a::l=>g (q 0) a::mI g (fun k=>q (k+1)) l
theorem GQ{α β:Type}{g:β→α→α}{f:α→α}[Inhabited β](h:∀ a,∃ b,g b (f a)=a):∀ l:List α,∃ q,mI g q (l.map f)=l
 | []=>⟨fun z=>default,rfl⟩
 | a::l=>let ⟨b,e⟩:=h a; let ⟨q,e'⟩:=GQ h l; ⟨fun k=>Nat.casesOn (motive:=fun z=>β) k b q,Hl e e'⟩
theorem cI{β:Type}(f g:Nat→β):∃ q:Nat→β,(fun k=>q (2*k))=f∧(fun k=>q (2*k+1))=g:=
 ⟨fun k=>bif k % 2==0 then f (k / 2) else g (k / 2),funext fun k=>by show (bif 2*k % 2==0 then f (2*k / 2) else _)=_; rw [Nat.mul_mod_right,Nat.mul_div_cancel_left _ Nat.two_pos]; rfl,funext fun k=>by show (bif (2*k+1) % 2==0 then _ else g ((2*k+1) / 2))=_; rw [Nat.mul_add_mod,Nat.mul_add_div Nat.two_pos]; rfl⟩
def dL(q:Nat→Nat)(l:List Value):List Value:=mI dV q l
theorem Ld(l:List Value):∃ q,dL q (l.map eV)=l:=GQ (fun a=>⟨_,Ec a⟩) l
def dE(q:Nat→Nat)(l:List DictEntry):List DictEntry:=mI (fun (p:Nat×Nat) e=>⟨e.hash,dV p.1 e.key,dV p.2 e.val⟩) (fun k=>(q (2*k),q (2*k+1))) l
theorem bS(l:List DictEntry):∃ q,dE q (l.map fun e=>⟨e.hash,eV e.key,eV e.val⟩)=l:=by
 obtain ⟨q,h⟩:=GQ (g:=fun (p:Nat×Nat) e=>(⟨e.hash,dV p.1 e.key,dV p.2 e.val⟩:DictEntry)) (f:=fun e=>⟨e.hash,eV e.key,eV e.val⟩) (fun a=>⟨(_,_),congr (congrArg (DictEntry.mk a.hash) (Ec a.key)) (Ec a.val)⟩) l
 obtain ⟨q',e1,e2⟩:=cI (fun k=>(q k).1) fun k=>(q k).2
 exact ⟨q',(congrArg (fun x=>mI _ x _) (funext fun k=>Prod.ext (congrFun e1 k) (congrFun e2 k))).trans h⟩
def dS(q:Nat→Nat)(l:List (Option Value)):List (Option Value):=mI (fun t o=>o.map (dV t)) q l
theorem bR(l:List (Option Value)):∃ q,dS q (l.map eS)=l:=GQ (fun a=>match a with | none=>⟨0,rfl⟩ | some a=>⟨_,congrArg some (Ec a)⟩) l
def dT(q:Nat→Nat)(l:List (Int×Value)):List (Int×Value):=mI (fun t v=>(v.1,dV t v.2)) q l
theorem bQ(l:List (Int×Value)):∃ q,dT q (l.map fun z=>(z.1,eV z.2))=l:=GQ (fun a=>⟨_,congrArg (Prod.mk a.1) (Ec a.2)⟩) l
def dD(q:Nat→Nat):Data→Data
 | .seq xs n=>.seq ⟨dL q xs.toList⟩ n
 | .dict es n=>.dict ⟨dE q es.toList⟩ n
 | .set es n t=>.set ⟨dT q es.toList⟩ n t
 | .fields xs=>.fields ⟨dL q xs.toList⟩
 | d=>d
theorem bU(d:Data):∃ q,dD q (eD d)=d:=by
 cases d with
 | seq xs n=>exact (Ld xs.toList).imp fun q h=>congrArg (fun x=>Data.seq ⟨x⟩ n) h
 | dict es n=>exact (bS es.toList).imp fun q h=>congrArg (fun x=>Data.dict ⟨x⟩ n) h
 | set es n t=>exact (bQ es.toList).imp fun q h=>congrArg (fun x=>Data.set ⟨x⟩ n t) h
 | fields xs=>exact (Ld xs.toList).imp fun q h=>congrArg (fun x=>Data.fields ⟨x⟩) h
 | _=>exact ⟨fun z=>0,rfl⟩
def dO(q:Nat→Nat)(o:Obj):Obj:=⟨o.cls,o.dict,dD (fun i=>q (2*i)) o.data,⟨dS (fun i=>q (2*i+1)) o.slots.toList⟩⟩
theorem Bj(o:Obj):∃ q,dO q (eO o)=o:=by
 obtain ⟨q1,h1⟩:=bU o.data
 obtain ⟨q2,h2⟩:=bR o.slots.toList
 obtain ⟨q,e1,e2⟩:=cI q1 q2
 exact ⟨q,show (⟨o.cls,o.dict,dD (fun i=>q (2*i)) (eD o.data),⟨dS (fun i=>q (2*i+1)) (o.slots.toList.map eS)⟩⟩:Obj)=o by rw [e1,e2,h1,h2]⟩
noncomputable def Va(o:Obj):List Value:=match o.data with
 | .seq xs _=>xs.toList
 | _=>[]
def Fq:Code→List Nat
 | .call _ a=>(a.pos.drop 1).map Hs
 | _=>[]
noncomputable def U0:U:=⟨fun q q=>0,fun q=>.plain⟩
abbrev YS:=Nat×List Nat×Option Value×Code×List (Option (Nat×Obj))×List (Option Sh)×Bool×Option (Sem Fin×Option (List Vw×Pos))×Option (List Nat)
abbrev YR:=List YS
def j4(o:AA)(r:R):Option (Sem Fin×Option (List Vw×Pos)):=match o.nt with
 | none=>none
 | some nt=>some (r.cur,match nt.vp with
  | none=>none
  | some _=>some (Lm r.cd r.nj,r.pos))
def j3(o:AA)(r:R):Option (Sem Fin×Option (List Vw×Pos)):=match o.nt with
 | none=>none
 | some nt=>some (nt.X r.x,match nt.vp with
  | none=>none
  | some q=>some (q.1 r.x,q.2))
def kc(o:AA)(r:R):Option (List Nat):=match o.rM with
 | none=>none
 | some _=>some (Fq r.c)
noncomputable def kZ(o:AA)(r:R):Option (List Nat):=match o.rM with
 | none=>none
 | some f=>some (f r.x)
noncomputable def j2(o:AA):Nat:=match o.nt with
 | none=>3
 | some _=>4
def kg(ss:List Sh)(r:R):List (Option Sh):=match ss with
 | []=>[]
 | ss=>BB ss (Frame.ret (fun q=>.pure default) none false [] r.cd default []::r.nj)
noncomputable def next(o:AA)(u:U)(r:R):R:=match o.nt with
 | none=>r.k (o.res u r.x) (o.upd u r.x)
 | some nt=>r.kS (nt.Y r.x) (o.upd u r.x)
set_option tactic.hygienic true in
def Ge:List AA→List U→R→R
 | o::os,u::us,r=>Ge os us (next o u r)
 | _,_,r=>r
def Sn(o:AA)(u:U)(r:R):YS:=(r.tag,r.qh,r.hd,eC r.c,o.tr.map (fun j=>eP (r.x.T.get j)),kg (o.ss r.x) r,o.ok u r.x,j4 o r,kc o r)
def Sk(o:AA)(r:R):YS:=(j2 o,r.qg,none,o.C r.x,o.pre r.x,(o.ss r.x).map some,true,j3 o r,kZ o r)
set_option tactic.hygienic true in
def Sm:List AA→List U→R→YR
 | o::os,u::us,r=>Sn o u r::Sm os us (next o u r)
 | _,_,_=>[]
set_option tactic.hygienic true in
def Sl:List AA→List U→R→YR
 | o::os,u::us,r=>Sk o r::Sl os us (next o u r)
 | _,_,_=>[]
section
variable{p:Program}{w:World}{kt:KT}
theorem Qw{ss:List Sh}{r:R}(h:kg ss r=ss.map some)(k:Result→Sem Fin)(g:Bool)(l:List Value)(pc:Pos):ss=[]∨BB ss (Frame.ret k none g l r.cd pc []::r.nj)=ss.map some:=by
 cases ss with
 | nil=>exact .inl rfl
 | cons a b=>
  right
  rw [← h]
  show _::_=_::_
  congr 1
  generalize r.cd=cd0
  cases a<;>first | rfl | (cases cd0<;>rfl)
inductive c5 (p:Program) (w:World) (kt:KT) (o:AA) (x:SX) (s:Shared) (t:Thread) (k:Result→Sem Fin) (cd:Code) (pc:Pos) (rest:List Frame):Prop
 | mk (u:U) (s':Shared) (go:Go p w s t s' ⟨k (o.res u x),cd,pc,rest⟩) (rep:Bd kt s' (o.upd u x)) (ext:Bz x (o.upd u x)) (keep:AP (o.upd u x) s s') (good:o.good u x):c5 p w kt o x s t k cd pc rest
def AA.Ok(p:Program)(w:World)(kt:KT)(o:AA):Prop:=o.nt=none∧
 ∀ (c:Code) (x:SX) (s:Shared) (k:Result→Sem Fin) (g:Bool) (l:List Value) (cd:Code) (pc:Pos) (rest:List Frame),
  eC c=o.C x→o.tr.map (fun j=>eP (x.T.get j))=o.pre x→(o.ss x=[]∨BB (o.ss x) (Frame.ret k none g l cd pc []::rest)=(o.ss x).map some)→(∀ u,o.ok u x=true)→Bd kt s x→(∀ f,o.rM=some f→Fq c=f x)→c5 p w kt o x s ⟨denote table c,c,pc,.ret k none g l cd pc []::rest⟩ k cd pc rest
noncomputable def Gz(C:Code)(res:Nat→Result):AA:=⟨fun q=>C,[],fun q=>[],fun q=>[],fun q q=>true,fun u q=>res (u.n 0 2),fun u x=>x.grown (u.n 0 0) (u.n 0 1),fun q q=>True,none,none⟩
theorem C0{C:Code}{res:Nat→Result}(h:∀ c,eC c=C→CT p w c (fun r=>∃ u,r=res u)):(Gz C res).Ok p w kt:=by
 refine ⟨rfl,?_⟩
 intro c x s k g l cd pc rest hc _ _ _ D _
 obtain ⟨s',r,⟨u,rfl⟩,G,go⟩:=h c hc s k g l cd pc rest
 refine ⟨⟨fun q i=>if i=0 then s'.heap.objs.size else if i=1 then s'.toks else u,fun q=>.plain⟩,s',go,?_,?_,?_,trivial⟩
 ·exact D.grown G
 ·refine ⟨fun q q o h=>⟨o,h⟩,fun q q o h=>.inl ⟨o,h⟩,?_⟩
  show x.n+x.i≤s'.heap.objs.size+0
  rw [← D.size]; exact go.size
 ·exact ⟨G.life,fun b o hb q=>G.old b o hb⟩
theorem AZ{c:Code}{f:Value}{vs:List Value}(h:eC c=.call f ⟨vs,[]⟩):∃ ps,c=.call f ⟨ps,[]⟩∧ps.map eV=vs:=by
 cases c with
 | call f' ar=>
  obtain ⟨ps,kw⟩:=ar
  obtain ⟨rfl,hh⟩:=Code.call.inj h
  obtain ⟨h1,h2⟩:=Args.mk.inj hh
  obtain rfl:=List.map_eq_nil_iff.mp h2
  exact ⟨ps,rfl,h1⟩
 | _=>cases h
theorem E8{v:Value}{a:Int}(h:eV v=.int a 0):∃ t,v=.int a t:=by
 cases v with
 | int i t=>cases h; exact ⟨t,rfl⟩
 | _=>cases h
theorem AM{v:Value}{a:Str}(h:eV v=.str a 0):∃ t,v=.str a t:=by
 cases v with
 | str i t=>cases h; exact ⟨t,rfl⟩
 | _=>cases h
theorem AD{v:Value}{a:Nat}(h:eV v=.ref a):v=.ref a:=by
 cases v with
 | ref i=>cases h; rfl
 | _=>cases h
theorem E5{ps:List Value}{a:Value}(h:ps.map eV=[a]):∃ x,ps=[x]∧eV x=a:=by
 cases ps with
 | nil=>cases h
 | cons x l=>cases l with
  | nil=>exact ⟨x,rfl,(List.cons.inj h).1⟩
  | cons _ _=>cases (List.cons.inj h).2
theorem Bb{ps:List Value}{a b:Value}(h:ps.map eV=[a,b]):∃ x y,ps=[x,y]∧eV x=a∧eV y=b:=by
 cases ps with
 | nil=>cases h
 | cons x l=>
  obtain ⟨y,rfl,e⟩:=E5 (List.cons.inj h).2
  exact ⟨x,y,rfl,(List.cons.inj h).1,e⟩
theorem Pd{c:Code}{id:String}{a b:Int}(h:eC c=.call (.builtin id) ⟨[.int a 0,.int b 0],[]⟩):∃ t u,c=.call (.builtin id) ⟨[.int a t,.int b u],[]⟩:=by
 obtain ⟨ps,rfl,e⟩:=AZ h
 obtain ⟨x,y,rfl,e1,e2⟩:=Bb e
 obtain ⟨t,rfl⟩:=E8 e1
 obtain ⟨u,rfl⟩:=E8 e2
 exact ⟨t,u,rfl⟩
def K5(a b:Int)(v:Bool):AA:=Gz (.call (.builtin "int.__lt__") ⟨[.int a 0,.int b 0],[]⟩) fun q=>.ok (.ret (.bool v))
theorem Ba{a b:Int}{v:Bool}(h:decide (a < b)=v):(K5 a b v).Ok p w kt:=C0 fun c hc=>by
 obtain ⟨t,u,rfl⟩:=Pd hc
 intro s k g l cd pc rest
 obtain ⟨s',res,e,G,go⟩:=XT (p:=p) (w:=w) a b t u s k g l cd pc rest
 exact ⟨s',res,⟨0,by rw [e,h]⟩,G,go⟩
def Mn(a b:Int)(v:Bool):AA:=Gz (.call (.builtin "int.__ge__") ⟨[.int a 0,.int b 0],[]⟩) fun q=>.ok (.ret (.bool v))
theorem CE{a b:Int}{v:Bool}(h:decide (a≥b)=v):(Mn a b v).Ok p w kt:=C0 fun c hc=>by
 obtain ⟨t,u,rfl⟩:=Pd hc
 intro s k g l cd pc rest
 obtain ⟨s',res,e,G,go⟩:=XU (p:=p) (w:=w) a b t u s k g l cd pc rest
 exact ⟨s',res,⟨0,by rw [e,h]⟩,G,go⟩
def MA(x:Str):AA:=Gz (.call (.builtin "len") ⟨[.str x 0],[]⟩) fun u=>.ok (.ret (.int x.length u))
theorem EP{x:Str}(h:x.length < 2 ^ 62):(MA x).Ok p w kt:=C0 fun c hc=>by
 obtain ⟨ps,rfl,e⟩:=AZ hc
 obtain ⟨v,rfl,e1⟩:=E5 e
 obtain ⟨t,rfl⟩:=AM e1
 exact Ou x t h
def Wa(x:Str)(m i j:Nat):AA:=⟨fun X=>.call (.builtin "str.__getitem__") ⟨[.str x 0,.ref (A2 X m)],[]⟩,[m],fun X=>[some (A2 X m,{ cls:=.type "slice",data:=.fields #[.int i 0,.int j 0,.none] })],fun q=>[],fun q q=>true,
 fun u q=>.ok (.ret (.str ⟨⟨(x.cps.toList.drop i).take (j-i)⟩⟩ (u.n 0 2))),fun u x=>x.grown (u.n 0 0) (u.n 0 1),fun q q=>True,none,none⟩
theorem JJ{o:Obj}{i j:Int}(h:eO o = { cls:=.type "slice",data:=.fields #[.int i 0,.int j 0,.none] }):∃ ti tj,o.cls=.type "slice"∧o.data=.fields #[.int i ti,.int j tj,.none]:=by
 obtain ⟨q,e⟩:=Bj o
 rw [h] at e
 subst e
 exact ⟨_,_,rfl,rfl⟩
theorem L4{x:Str}{m i j:Nat}(h1:i≤j)(h2:j≤x.length)(h3:x.length≤sizeLine)(h4:j-i < x.length):(Wa x m i j).Ok p w kt:=by
 refine ⟨rfl,?_⟩
 intro c X s k g l cd pc rest hc hp _ _ D _
 obtain ⟨ps,rfl,e⟩:=AZ hc
 obtain ⟨v,v2,rfl,e1,e2⟩:=Bb e
 obtain ⟨t,rfl⟩:=AM e1
 obtain rfl:=AD e2
 have hp':eP (X.T.get m)=some (A2 X m,{ cls:=.type "slice",data:=.fields #[.int i 0,.int j 0,.none] }):=(List.cons.inj hp).1
 cases q:X.T.get m with
 | none=>rw [q] at hp'; cases hp'
 | some z=>
  obtain ⟨b,o⟩:=z
  rw [q] at hp'
  simp only [eP,Option.some.injEq,Prod.mk.injEq] at hp'
  obtain ⟨hb,ho⟩:=hp'
  obtain ⟨ti,tj,oO,hdt⟩:=JJ ho
  rw [← hb]
  obtain ⟨s',r,⟨u,rfl⟩,G,go⟩:=HC (p:=p) (w:=w) x t b i j ti tj h1 h2 h3 h4 s k g l cd pc rest ⟨o,D.own m b o q,oO,hdt⟩
  refine ⟨⟨fun y i=>if i=0 then s'.heap.objs.size else if i=1 then s'.toks else u,fun y=>.plain⟩,s',go,?_,?_,?_,trivial⟩
  ·exact D.grown G
  ·refine ⟨fun y y o h=>⟨o,h⟩,fun y y o h=>.inl ⟨o,h⟩,?_⟩
   show X.n+X.i≤s'.heap.objs.size+0
   rw [← D.size]; exact go.size
  ·exact ⟨G.life,fun b o hb y=>G.old b o hb⟩
end
end
noncomputable def k9(r:R)(j:Nat):Nat:=match r.x.T.get j with
 | some (a,_)=>a
 | none=>0
def eF:Fin→Fin
 | .done (.ret v)=>.done (.ret (eV v))
 | f=>f
def R.sF(r:R):Option Fin:=r.fin?.map eF
structure lu(r:R)(f:Fin)(nj:List Frame)(gens:Array GenState)(drawn:Drawn)(os:OsState):Prop where
 es:r.qh=r.qg
 fin:r.sF=some f
 nj:r.nj=nj
 gens:r.x.gens=gens
 drawn:r.x.drawn=drawn
 os:r.x.os=os
noncomputable def Hc(N:Nat):KT→Nat→Nat→Bool
 | .nil,_,_=>true
 | .node v l r,s,b=>(match v with | some _=>Nat.blt b N | none=>true)&&(Hc N l (2*s) (s+b)&&Hc N r (2*s) (2*s+b))
theorem Ep(N:Nat):∀ (t:KT) (s b:Nat),Hc N t s b=true→∀ j o,t.get j=some o→s*j+b < N
 | .nil,_,_,_,_,_,e=>by cases e
 | .node v l r,s,b,h,j,o,e=>by
  have h:(_&&(Hc N l (2*s) (s+b)&&Hc N r (2*s) (2*s+b)))=true:=h
  rw [Bool.and_eq_true,Bool.and_eq_true] at h
  rw [KT.get_node] at e
  by_cases h0:j=0
  ·subst h0
   rw [if_pos rfl] at e
   subst e
   have:=h.1
   simp only at this
   have:=Nat.le_of_ble_eq_true this
   lia
  ·rw [if_neg h0] at e
   by_cases p:j % 2=1
   ·rw [if_pos p] at e
    have z:=Ep N l _ _ h.2.1 _ _ e
    rw [KT.arith1 p]; exact z
   ·rw [if_neg p] at e
    have z:=Ep N r _ _ h.2.2 _ _ e
    rw [KT.arith2 h0 p]; exact z
theorem P9(P:Params):Hc 946 (A4 P) 1 0=true:=by kernel_rfl
theorem P8{P:Params}{a:Nat}(h:946≤a):(A4 P).get a=none:=by
 cases q:(A4 P).get a with
 | none=>rfl
 | some o=>have:=Ep 946 _ _ _ (P9 P) _ _ q; lia
def dK(q:Nat→Nat)(l:List (Str×Value)):List (Str×Value):=mI (fun t v=>(v.1,dV t v.2)) q l
theorem Uz(l:List (Str×Value)):∃ q,dK q (l.map fun z=>(z.1,eV z.2))=l:=GQ (fun a=>⟨_,congrArg (Prod.mk a.1) (Ec a.2)⟩) l
def dC(q q':Nat→Nat):Code→Code
 | .call f a=>.call f ⟨dL q a.pos,dK q' a.kw⟩
 | .builtin id a=>.builtin id ⟨dL q a.pos,dK q' a.kw⟩
 | c=>c
theorem bV(c:Code):∃ q q',dC q q' (eC c)=c:=by
 cases c with
 | call f a=>exact (Ld a.pos).imp fun q h=>(Uz a.kw).imp fun q' h'=>congrArg (Code.call f) (congr (congrArg Args.mk h) h')
 | builtin id a=>exact (Ld a.pos).imp fun q h=>(Uz a.kw).imp fun q' h'=>congrArg (Code.builtin id) (congr (congrArg Args.mk h) h')
 | _=>exact ⟨fun z=>0,fun z=>0,rfl⟩
def lX(q:Nat→Nat→Nat)(l:List Obj):List Obj:=mI dO q l
theorem Y5(l:List Obj):∃ q,lX q (l.map eO)=l:=GQ Bj l
noncomputable def FH:List α→List α×List α
 | []=>([],[])
 | [a]=>([a],[])
 | a::b::l=>(a::(FH l).1,b::(FH l).2)
theorem Er:∀ (l:List α) (i:Nat),(FH l).1[i]?=l[2*i]?∧(FH l).2[i]?=l[2*i+1]?
 | [],_=>⟨rfl,rfl⟩
 | [_],0=>⟨rfl,rfl⟩
 | [_],_+1=>⟨rfl,rfl⟩
 | _::_::_,0=>⟨rfl,rfl⟩
 | _::_::l,i+1=>Er l i
theorem Gb:∀ (l:List α),(FH l).1.length≤l.length∧(FH l).2.length≤l.length
 | []=>⟨Nat.le_refl _,Nat.le_refl _⟩
 | [_]=>⟨Nat.le_refl _,Nat.zero_le _⟩
 | _::_::l=>⟨Nat.succ_le_succ (Nat.le_succ_of_le (Gb l).1),Nat.succ_le_succ (Nat.le_succ_of_le (Gb l).2)⟩
def Np:Nat→List (Nat×Obj)→TT
 | 0,_=>.nil
 | _+1,[]=>.nil
 | k+1,q::l=>.node q.1 q.2 (Np k (FH l).1) (Np k (FH l).2)
theorem PH{j:Nat}(p:(j+1) % 2=1):2*((j+1) / 2)=j:=by
 have:=Nat.div_add_mod (j+1) 2; rw [p] at this; exact Nat.succ.inj this
theorem MN{j:Nat}(p:(j+1) % 2=0):2*((j+1) / 2-1)+1=j:=by
 have:=Nat.div_add_mod (j+1) 2; rw [p] at this
 cases q:(j+1) / 2 with
 | zero=>rw [q] at this; cases this
 | succ k=>rw [q] at this; exact Nat.succ.inj this
theorem I7:∀ (k:Nat) (l:List (Nat×Obj)) (j:Nat),l.length≤k→(Np k l).get j=l[j]?
 | 0,[],_,_=>rfl
 | 0,_::_,_,h=>absurd h (Nat.not_succ_le_zero _)
 | _+1,[],_,_=>rfl
 | k+1,q::l,j,h=>by
  have hl:=Gb l
  have h:=Nat.le_of_succ_le_succ h
  show (TT.node q.1 q.2 _ _).get j=_
  rw [TT.get_node]
  cases j with
  | zero=>rfl
  | succ j=>
   rw [if_neg (Nat.succ_ne_zero j),List.getElem?_cons_succ]
   by_cases p:(j+1) % 2=1
   ·rw [if_pos p,I7 k _ _ (Nat.le_trans hl.1 h),(Er l _).1,PH p]
   ·rw [if_neg p,I7 k _ _ (Nat.le_trans hl.2 h),(Er l _).2,MN (Nat.mod_two_ne_one.mp p)]
inductive End where
 | fin (f:Fin)
 | err (e:Value)
noncomputable def End.rZ:End→Sem Fin
 | .fin f=>.pure f
 | .err e=>.raise e
def eE:End→End
 | .fin f=>.fin (eF f)
 | e=>e
noncomputable def R.end? : R→Option End
 | .fin _ f ..=>some (.fin f)
 | .raised _ e ..=>some (.err e)
 | _=>none
structure Spec where
 C:Code
 ad:List Nat
 pre:List Obj
 ss:List Sh
 fin:(Nat→Nat)→End
 ch:(Nat→Nat)→List Obj
 nw:(Nat→Nat)→List Obj
def II(o5:List Nat)(r:R)(k:Nat):Nat:=match o5[k]? with
 | some j=>k9 r j
 | none=>0
def eQ:Option (Nat×Obj)→Option Obj
 | some (_,o)=>some (eO o)
 | none=>none
def nJ:Option End→Option End
 | some e=>some (eE e)
 | none=>none
def LB(m:List Nat)(o5:List Nat)(r:R):List Nat×Option End×List (Option (Nat×Obj))×List (Option Obj)×List Frame×Array GenState×Drawn×OsState:=
 (r.qh,nJ r.end?,m.map (fun j=>eP (r.x.T.get j)),o5.map (fun j=>eQ (r.x.T.get j)),r.nj,r.x.gens,r.x.drawn,r.x.os)
def KZ(S:Spec)(o5:List Nat)(nj:List Frame)(gens:Array GenState)(drawn:Drawn)(os:OsState)(r:R):List Nat×Option End×List (Option (Nat×Obj))×List (Option Obj)×List Frame×Array GenState×Drawn×OsState:=
 (r.qg,some (S.fin (II o5 r)),(S.ad.zip (S.ch (II o5 r))).map some,(S.nw (II o5 r)).map some,nj,gens,drawn,os)
theorem HV{α:Type}{l:List α}(nd:l.Nodup){i j:Nat}(hi:i < l.length)(hj:j < l.length)(e:l[i]=l[j]):i=j:=by
 rcases Nat.lt_trichotomy i j with h | h | h
 ·exact absurd e (List.pairwise_iff_getElem.mp nd i j hi hj h)
 ·exact h
 ·exact absurd e.symm (List.pairwise_iff_getElem.mp nd j i hj hi h)
theorem Yx{p:Program}{w:World}{kt:KT}{x:SX}{r:R}{s:Shared}{t:Thread}{e:End}(h:Dm p w kt x r s t)(e1:r.qh=r.qg)(e2:r.end?=some e):UW p w kt x r s t e.rZ:=by
 cases r with
 | fin es f x' c ps st=>cases e2; exact h.toFin e1 rfl
 | raised es f x' c ps st=>cases e2; exact h.qb e1 rfl
 | _=>cases e2
noncomputable def Bs:TT→List (Nat×Obj)→TT
 | T,[]=>T
 | T,q::l=>Bs (T.set q.1 (fun z=>q.2)) l
noncomputable def Co:TT→Nat→List (Nat×Obj)→TT
 | T,_,[]=>T
 | T,m,q::l=>Co (T.ins m q.1 q.2) (m+1) l
noncomputable def HP:TT→Nat→List (Nat×Obj)→Bool
 | _,_,[]=>true
 | T,m,q::l=>((T.ins m q.1 q.2).get m).isSome&&HP (T.ins m q.1 q.2) (m+1) l
theorem G4:∀ (l:List (Nat×Obj)) (T:TT) (i a:Nat) (o:Obj),(Bs T l).get i=some (a,o)→∃ o0,T.get i=some (a,o0)∧((i,o)∈l∨(i∉l.map (·.1)∧o=o0))
 | [],T,i,a,o,h=>⟨o,h,.inr ⟨by simp,rfl⟩⟩
 | q::l,T,i,a,o,h=>by
  obtain ⟨o1,h1,h2⟩:=G4 l _ i a o h
  rw [TT.get_set] at h1
  by_cases e:i=q.1
  ·rw [if_pos e] at h1
   cases g:T.get q.1 with
   | none=>rw [g] at h1; cases h1
   | some z=>
    rw [g] at h1
    simp only [Option.map_some,Option.some.injEq,Prod.mk.injEq] at h1
    refine ⟨z.2,by rw [e,g,← h1.1],.inl ?_⟩
    rcases h2 with h2 | ⟨_,h2⟩
    ·exact .tail _ h2
    ·rw [h2,← h1.2,e]; exact .head _
  ·rw [if_neg e] at h1
   refine ⟨o1,h1,?_⟩
   rcases h2 with h2 | ⟨h3,h2⟩
   ·exact .inl (.tail _ h2)
   ·exact .inr ⟨by simp only [List.map_cons,List.mem_cons,not_or]; exact ⟨e,h3⟩,h2⟩
theorem G5:∀ (l:List (Nat×Obj)) (T:TT) (i a:Nat) (o:Obj),T.get i=some (a,o)→∃ o',(Bs T l).get i=some (a,o')
 | [],T,i,a,o,h=>⟨o,h⟩
 | q::l,T,i,a,o,h=>by
  have:∃ o',(T.set q.1 (fun z=>q.2)).get i=some (a,o'):=by
   rw [TT.get_set]
   by_cases e:i=q.1
   ·rw [if_pos e,← e,h]; exact ⟨_,rfl⟩
   ·rw [if_neg e]; exact ⟨o,h⟩
  obtain ⟨o',h'⟩:=this
  exact G5 l _ i a o' h'
theorem E7:∀ (l:List (Nat×Obj)) (T:TT) (m i:Nat),HP T m l=true→(Co T m l).get i=if m≤i∧i < m+l.length then l[i-m]? else T.get i
 | [],T,m,i,_=>by rw [if_neg fun h=>absurd h.2 (Nat.not_lt.mpr h.1)]; rfl
 | q::l,T,m,i,h=>by
  have h:(_&&HP (T.ins m q.1 q.2) (m+1) l)=true:=h
  rw [Bool.and_eq_true] at h
  show (Co (T.ins m q.1 q.2) (m+1) l).get i=_
  rw [E7 l _ _ i h.2]
  by_cases h1:m+1≤i∧i < m+1+l.length
  ·rw [if_pos h1,if_pos ⟨Nat.le_of_succ_le h1.1,by rw [Nat.add_right_comm] at h1; exact h1.2⟩,← Nat.sub_add_cancel (Nat.sub_pos_of_lt h1.1),← Nat.sub_add_eq,List.getElem?_cons_succ]
  ·rw [if_neg h1,TT.get_ins _ _ _ _ h.1]
   by_cases e:i=m
   ·subst e
    rw [if_pos rfl,if_pos ⟨Nat.le_refl _,Nat.lt_add_of_pos_right (Nat.succ_pos _)⟩,Nat.sub_self]
    rfl
   ·rw [if_neg e,if_neg fun ⟨a,b⟩=>h1 ⟨Nat.lt_of_le_of_ne a (Ne.symm e),by rw [Nat.add_right_comm]; exact b⟩]
def Kh(t:Nat):End→Result
 | .fin (.done (.ret v))=>.ok (.ret (dV t v))
 | .fin (.done f)=>.ok f
 | .fin (.again _)=>.ok .next
 | .err e=>.error e
def dF:(Nat→Nat→Nat)→(Nat→Data)→List Obj→List Bool→List Obj
 | _,_,[],_=>[]
 | q,_,o::l,[]=>lX q (o::l)
 | q,d,o::l,b::fl=>(bif b then ⟨o.cls,o.dict,d 0,⟨dS (fun k=>q 0 (2*k+1)) o.slots.toList⟩⟩ else dO (q 0) o)::dF (fun k=>q (k+1)) (fun k=>d (k+1)) l fl
def Ib(q:Nat→Nat→Nat)(d:Nat→Data)(fl:List Bool)(i:Nat)(l:List Obj):List Obj:=dF (fun k=>q (k+i)) (fun k=>d (k+i)) l fl
def Za:(Nat→Data)→List Obj→List Bool→Prop
 | _,[],_=>True
 | _,_::_,[]=>True
 | d,o::l,true::fl=>eD (d 0)=o.data∧Za (fun k=>d (k+1)) l fl
 | d,_::l,false::fl=>Za (fun k=>d (k+1)) l fl
def J1(d:Nat→Data)(fl:List Bool)(i:Nat)(l:List Obj):Prop:=Za (fun k=>d (k+i)) l fl
theorem U':∀ (os:List Obj) (fl:List Bool),∃ q d,dF q d (os.map eO) fl=os∧Za d (os.map eO) fl
 | [],_=>⟨fun z z=>0,fun z=>.plain,rfl,trivial⟩
 | o::l,[]=>let ⟨q,h⟩:=Y5 (o::l); ⟨q,fun z=>.plain,h,trivial⟩
 | o::l,b::fl=>
  let ⟨q,d,h1,h2⟩:=U' l fl
  let ⟨q0,h0⟩:=Bj o
  ⟨fun k=>Nat.casesOn (motive:=fun z=>Nat→Nat) k q0 q,fun k=>Nat.casesOn (motive:=fun z=>Data) k o.data d,Hl (by cases b; exact h0; exact congrArg (fun x:Obj=>(⟨o.cls,o.dict,o.data,x.slots⟩:Obj)) h0) h1,by cases b; exact h2; exact ⟨rfl,h2⟩⟩
theorem KO(os:List Obj)(fl:List Bool):∃ q d,Ib q d fl 0 (os.map eO)=os∧J1 d fl 0 (os.map eO):=U' os fl
def dA(u:U)(fl:List Bool)(os:List Obj):List Obj:=Ib (fun j=>u.n (2*j+1)) (fun j=>u.d (2*j)) fl 0 os
def cb(u:U)(fl:List Bool)(os:List Obj):List (Nat×Obj):=((List.range os.length).map (fun k=>u.n 0 (3+k))).zip (Ib (fun j=>u.n (2*j+2)) (fun j=>u.d (2*j+1)) fl 0 os)
def B6(ss:SX→List Sh)(tr:List Nat)(fl fn:List Bool)(S:SX→Spec):AA where
 C:=fun x=>(S x).C
 tr:=tr
 pre:=fun x=>((S x).ad.zip (S x).pre).map some
 ss:=ss
 ok:=fun u x=>HP (Bs x.T (tr.zip (dA u fl ((S x).ch (fun k=>u.n 0 (3+k)))))) x.m (cb u fn ((S x).nw (fun k=>u.n 0 (3+k))))
 res:=fun u x=>Kh (u.n 0 2) ((S x).fin (fun k=>u.n 0 (3+k)))
 upd:=fun u x=>⟨Co (Bs x.T (tr.zip (dA u fl ((S x).ch (fun k=>u.n 0 (3+k)))))) x.m (cb u fn ((S x).nw (fun k=>u.n 0 (3+k)))),x.m+((S x).nw (fun k=>u.n 0 (3+k))).length,u.n 0 0,0,x.gens,x.drawn,u.n 0 1,0,x.os⟩
 nt:=none
 rM:=none
 good:=fun u x=>J1 (fun j=>u.d (2*j)) fl 0 ((S x).ch (fun k=>u.n 0 (3+k)))∧J1 (fun j=>u.d (2*j+1)) fn 0 ((S x).nw (fun k=>u.n 0 (3+k)))
def Ck(ss:List Sh)(tr:List Nat)(fl fn:List Bool)(S:SX→Spec):AA:=B6 (fun q=>ss) tr fl fn S
noncomputable def E6:End→Bool
 | .fin (.again _)=>false
 | _=>true
section
noncomputable abbrev Lp:=List (Nat×Obj)
structure BX(kt:KT)(s:Shared)(L:Lp):Prop where
 top:JY kt s
 own:∀ q∈L,∃ o,s.heap.get? q.1=some o∧eO o=q.2
 nd:(L.map (·.1)).Nodup
 off:∀ q∈L,kt.get q.1=none
structure Fr(s s':Shared)(L L':Lp):Prop where
 life:s'.heap.life=s.heap.life
 gens:s'.gens=s.gens
 drawn:s'.drawn=s.drawn
 os:s'.os=s.os
 old:∀ b o,s.heap.get? b=some o→b∉L.map (·.1)→s'.heap.get? b=some o
 new:∀ q∈L',q.1∈L.map (·.1)∨s.heap.objs.size≤q.1
inductive c8 (w:World) (ni:End→Lp→Prop) (s:Shared) (t:Thread) (nj:List Frame) (L:Lp):Prop
 | mk (e:End) (s':Shared) (L':Lp) (oI:Code) (pos':Pos) (go:Go pw w s t s' ⟨e.rZ,oI,pos',nj⟩) (po:ni (eE e) L') (has:BX (A4 w.2) s' L') (fr:Fr s s' L L'):c8 w ni s t nj L
def Dn(w:World)(Sh:Pos→List Frame→Prop)(C:Code)(Pre:Lp→Prop)(ni:End→Lp→Prop):Prop:=
 ∀ (c:Code) (s:Shared) (pc:Pos) (nj:List Frame) (L:Lp),Pre L→eC c=C→BX (A4 w.2) s L→Sh pc nj→c8 w ni s ⟨denote table c,c,pc,nj⟩ nj L
def A3(ss:List Sh):Pos→List Frame→Prop:=fun q nj=>BB ss nj=ss.map some
noncomputable def Il:Pos→List Frame→Prop:=fun pc nj=>∃ k g l cd rest,nj=Frame.ret k none g l cd pc []::rest
theorem BX.perm{kt:KT}{s:Shared}{L L':Lp}(h:BX kt s L)(p:L.Perm L'):BX kt s L':=
 ⟨h.top,fun q m=>h.own q (p.mem_iff.mpr m),(p.map _).nodup_iff.mp h.nd,fun q m=>h.off q (p.mem_iff.mpr m)⟩
theorem BX.left{kt:KT}{s:Shared}{L M:Lp}(h:BX kt s (L++M)):BX kt s L:=
 ⟨h.top,fun q m=>h.own q (List.mem_append_left _ m),by have:=h.nd; rw [List.map_append] at this; exact (List.nodup_append.mp this).1,fun q m=>h.off q (List.mem_append_left _ m)⟩
theorem BX.right{kt:KT}{s:Shared}{L M:Lp}(h:BX kt s (L++M)):BX kt s M:=(h.perm List.perm_append_comm).left
theorem BX.lt{kt:KT}{s:Shared}{L:Lp}(h:BX kt s L){q:Nat×Obj}(m:q∈L):q.1 < s.heap.objs.size:=by
 obtain ⟨o,ho,_⟩:=h.own q m
 exact Heap.lt_size ho
theorem Fr.refl(s:Shared)(L:Lp):Fr s s L L:=⟨rfl,rfl,rfl,rfl,fun z z h z=>h,fun q m=>.inl (List.mem_map_of_mem m)⟩
theorem Fr.trans{s s₁ s₂:Shared}{L L₁ L₂:Lp}(z:s.heap.objs.size≤s₁.heap.objs.size)(h:Fr s s₁ L L₁)(k:Fr s₁ s₂ L₁ L₂):Fr s s₂ L L₂:=by
 refine ⟨k.life.trans h.life,k.gens.trans h.gens,k.drawn.trans h.drawn,k.os.trans h.os,fun b o e n=>?_,fun q m=>?_⟩
 ·refine k.old b o (h.old b o e n) fun m=>?_
  obtain ⟨q,hq,rfl⟩:=List.mem_map.mp m
  rcases h.new q hq with a | a
  ·exact n a
  ·exact absurd (Heap.lt_size e) (Nat.not_lt.mpr a)
 ·rcases k.new q m with a | a
  ·obtain ⟨q',hq,e⟩:=List.mem_map.mp a
   rw [← e]; exact h.new q' hq
  ·exact .inr (Nat.le_trans z a)
section
variable{w:World}{Sh:Pos→List Frame→Prop}{C:Code}{Pre oK:Lp→Prop}{ni oA:End→Lp→Prop}
theorem Dn.nV(h:Dn w Sh C Pre ni)(h1:∀ L,oK L→Pre L)(h2:∀ e L,ni e L→oA e L):Dn w Sh C oK oA:=by
 intro c s pc nj L hp hc H hs
 obtain ⟨e,s',L',oI,pos',go,po,H',F⟩:=h c s pc nj L (h1 L hp) hc H hs
 exact ⟨e,s',L',oI,pos',go,h2 _ _ po,H',F⟩
theorem Dn.perm(h:Dn w Sh C Pre ni):Dn w Sh C (fun L=>∃ L0,Pre L0∧L.Perm L0) (fun e L=>∃ L0,ni e L0∧L0.Perm L):=by
 intro c s pc nj L hp hc H hs
 obtain ⟨L0,hp,p⟩:=hp
 obtain ⟨e,s',L',oI,pos',go,po,H',F⟩:=h c s pc nj L0 hp hc (H.perm p) hs
 refine ⟨e,s',L',oI,pos',go,⟨L',po,.refl _⟩,H',F.life,F.gens,F.drawn,F.os,fun b o e n=>F.old b o e fun m=>n ((p.map _).mem_iff.mpr m),fun q m=>?_⟩
 rcases F.new q m with a | a
 ·exact .inl ((p.map _).mem_iff.mpr a)
 ·exact .inr a
theorem Dn.frame(h:Dn w Sh C Pre ni)(F:Lp):Dn w Sh C (fun L=>∃ L1,Pre L1∧L=L1++F) (fun e L'=>∃ L1,ni e L1∧L'=L1++F):=by
 intro c s pc nj L hp hc H hs
 obtain ⟨L1,hp,rfl⟩:=hp
 obtain ⟨e,s',L',oI,pos',go,po,H',Fx⟩:=h c s pc nj L1 hp hc H.left hs
 have nd:=H.nd
 rw [List.map_append] at nd
 have dj:=(List.nodup_append.mp nd).2.2
 refine ⟨e,s',L'++F,oI,pos',go,⟨L',po,rfl⟩,⟨H'.top,fun q m=>?_,?_,fun q m=>?_⟩,Fx.life,Fx.gens,Fx.drawn,Fx.os,fun b o e n=>?_,fun q m=>?_⟩
 ·rcases List.mem_append.mp m with m | m
  ·exact H'.own q m
  ·obtain ⟨o,ho,eo⟩:=H.own q (List.mem_append_right _ m)
   exact ⟨o,Fx.old _ _ ho (fun a=>dj _ a _ (List.mem_map_of_mem m) rfl),eo⟩
 ·rw [List.map_append]
  refine List.nodup_append.mpr ⟨H'.nd,(List.nodup_append.mp nd).2.1,fun a ha b hb e=>?_⟩
  subst e
  obtain ⟨q,hq,rfl⟩:=List.mem_map.mp ha
  rcases Fx.new q hq with z | z
  ·exact dj _ z _ hb rfl
  ·obtain ⟨q2,hq2,e2⟩:=List.mem_map.mp hb
   have:=H.right.lt hq2
   rw [e2] at this
   exact absurd this (Nat.not_lt.mpr z)
 ·rcases List.mem_append.mp m with m | m
  ·exact H'.off q m
  ·exact H.off q (List.mem_append_right _ m)
 ·exact Fx.old b o e fun m=>n (by rw [List.map_append]; exact List.mem_append_left _ m)
 ·rcases List.mem_append.mp m with m | m
  ·rcases Fx.new q m with a | a
   ·exact .inl (by rw [List.map_append]; exact List.mem_append_left _ a)
   ·exact .inr a
  ·exact .inl (List.mem_map_of_mem (List.mem_append_right _ m))
noncomputable def B5(c:Code):Bool:=Gm ⟨.pure (.again c),c,default,[]⟩
theorem Jt{c c':Code}{pos:Pos}{st:List Frame}(h:B5 c=true):Thread.calm ⟨.pure (.again c),c',pos,st⟩=true:=by
 unfold B5 at h
 rw [BD] at h
 exact h
theorem Dn.again{p9:Code→Lp→Prop}(oq:∀ p p' nj,Sh p nj→Sh p' nj)(h:Dn w Sh C Pre (fun e L=>(∃ c,e=.fin (.again c)∧B5 c=true∧p9 c L)∨ni e L))(k:∀ c,Dn w Sh (eC c) (p9 c) ni):Dn w Sh C Pre ni:=by
 intro c s pc nj L hp hc H hs
 obtain ⟨e,s',L',oI,pos',go,po,H',F⟩:=h c s pc nj L hp hc H hs
 rcases po with ⟨c2,he,hq,hm⟩ | po
 ·have e2:e=.fin (.again c2):=by
   cases e with
   | err v=>cases he
   | fin f=>cases f with
    | again c3=>cases he; rfl
    | done f=>cases f<;>cases he
  subst e2
  obtain ⟨e,s2,L2,cd2,pM,go2,oU,H2,F2⟩:=k c2 c2 s' pos' nj L' hm rfl H' (oq _ _ _ hs)
  exact ⟨e,s2,L2,cd2,pM,go.trans (.head (DJ (Jt hq)) go2),oU,H2,F.trans go.size F2⟩
 ·exact ⟨e,s',L',oI,pos',go,po,H',F⟩
end
structure Gu(kt:KT)(s:Shared)(x:SX)(P:Lp):Prop where
 own:∀ q∈P,∃ o,s.heap.get? q.1=some o∧eO o=q.2
 nd:(P.map (·.1)).Nodup
 off:∀ q∈P,kt.get q.1=none
 lt:∀ q∈P,q.1 < x.n+x.i
 apart:∀ q∈P,∀ j o,x.T.get j≠some (q.1,o)
def Ad(x:SX)(P:Lp)(s s':Shared):Prop:=s'.heap.life=s.heap.life∧∀ b o,s.heap.get? b=some o→(∀ j o',x.T.get j≠some (b,o'))→b∉P.map (·.1)→s'.heap.get? b=some o
inductive la (p:Program) (w:World) (kt:KT) (o:AA) (O:U→SX→Lp→Prop) (x:SX) (s:Shared) (t:Thread) (k:Result→Sem Fin) (cd:Code) (pc:Pos) (rest:List Frame) (P:Lp):Prop
 | mk (u:U) (s':Shared) (P':Lp) (go:Go p w s t s' ⟨k (o.res u x),cd,pc,rest⟩) (rep:Bd kt s' (o.upd u x)) (ext:Bz x (o.upd u x)) (out:O u x P') (pL:Gu kt s' (o.upd u x) P') (keep:Ad (o.upd u x) P s s') (new:∀ q∈P',q.1∈P.map (·.1)∨s.heap.objs.size≤q.1) (sub:∀ a∈P.map (·.1),a∈P'.map (·.1)) (good:o.good u x):la p w kt o O x s t k cd pc rest P
def AA.pP(p:Program)(w:World)(kt:KT)(o:AA)(I:Lp→Prop)(O:U→SX→Lp→Prop):Prop:=o.nt=none∧
 ∀ (c:Code) (x:SX) (s:Shared) (k:Result→Sem Fin) (g:Bool) (l:List Value) (cd:Code) (pc:Pos) (rest:List Frame) (P:Lp),
  eC c=o.C x→o.tr.map (fun j=>eP (x.T.get j))=o.pre x→(o.ss x=[]∨BB (o.ss x) (Frame.ret k none g l cd pc []::rest)=(o.ss x).map some)→(∀ u,o.ok u x=true)→Bd kt s x→(∀ f,o.rM=some f→Fq c=f x)→I P→Gu kt s x P→la p w kt o O x s ⟨denote table c,c,pc,.ret k none g l cd pc []::rest⟩ k cd pc rest P
def AA.oB(p:Program)(w:World)(kt:KT)(o:AA)(I O:Lp→Prop):Prop:=o.pP p w kt I fun q q=>O
inductive YQ (p:Program) (w:World) (kt:KT) (o:AA) (X Y:Sem Fin) (x:SX) (s:Shared) (cd:Code) (ps:Pos) (nj:List Frame):Prop
 | mk (u:U) (s':Shared) (go:Go p w s ⟨X,cd,ps,nj⟩ s' ⟨Y,cd,ps,nj⟩) (rep:Bd kt s' (o.upd u x)) (ext:Bz x (o.upd u x)) (keep:AP (o.upd u x) s s') (good:o.good u x):YQ p w kt o X Y x s cd ps nj
def AA.qQ(p:Program)(w:World)(kt:KT)(o:AA):Prop:=∃ nt,o.nt=some nt∧
 ∀ (x:SX) (s:Shared) (cd:Code) (ps:Pos) (nj:List Frame),(∀ q,nt.vp=some q→Lm cd nj=q.1 x∧ps=q.2)→(∀ u,o.ok u x=true)→Bd kt s x→YQ p w kt o (nt.X x) (nt.Y x) x s cd ps nj
section
variable{p:Program}{w:World}{kt:KT}
theorem Gu.keep{s s':Shared}{x x':SX}{P:Lp}(h:Gu kt s x P)(X:Bz x x')(K:AP x' s s'):Gu kt s' x' P:=by
 have ap:∀ q∈P,∀ j o,x'.T.get j≠some (q.1,o):=fun q m j o e=>by
  rcases X.bwd j _ _ e with ⟨o',z⟩ | z
  ·exact h.apart q m j o' z
  ·exact absurd (h.lt q m) (Nat.not_lt.mpr z)
 refine ⟨fun q m=>?_,h.nd,h.off,fun q m=>Nat.lt_of_lt_of_le (h.lt q m) X.up,ap⟩
 obtain ⟨o,ho,eo⟩:=h.own q m
 exact ⟨o,K.2 _ _ ho (fun j o' e=>ap q m j o' e),eo⟩
theorem AA.Ok.pL{o:AA}(h:o.Ok p w kt)(I:Lp→Prop):o.oB p w kt I I:=by
 refine ⟨h.1,?_⟩
 intro c x s k g l cd pc rest P a b d e D tk hI hP
 obtain ⟨u,s',go,D',X,K,G⟩:=h.2 c x s k g l cd pc rest a b d e D tk
 exact ⟨u,s',P,go,D',X,hI,hP.keep X K,⟨K.1,fun b o hb hn z=>K.2 b o hb hn⟩,fun q m=>.inl (List.mem_map_of_mem m),fun z m=>m,G⟩
theorem Ad.of{x:SX}{P:Lp}{s s':Shared}(h:AP x s s'):Ad x P s s':=⟨h.1,fun b o a c q=>h.2 b o a c⟩
theorem Ad.ext{x x':SX}{P:Lp}{s s₁:Shared}(h:Ad x P s s₁)(k:Bz x x'):Ad x' P s s₁:=⟨h.1,fun b o e q n=>h.2 b o e (fun j o' z=>let ⟨r9,z'⟩:=k.fwd j b o' z; q j r9 z') n⟩
theorem Ad.trans{x:SX}{P P₁:Lp}{s s₁ s₂:Shared}(h:Ad x P s s₁)(hn:∀ q∈P₁,q.1∈P.map (·.1)∨s.heap.objs.size≤q.1)(k:Ad x P₁ s₁ s₂):Ad x P s s₂:=
 ⟨k.1.trans h.1,fun b o e q n=>k.2 b o (h.2 b o e q n) q fun m=>by
  obtain ⟨z,hz,rfl⟩:=List.mem_map.mp m
  rcases hn z hz with a | a
  ·exact n a
  ·exact absurd (Heap.lt_size e) (Nat.not_lt.mpr a)⟩
end
end
def Spec.oH(S:Spec):Lp:=S.ad.zip S.pre
def Spec.o8(S:Spec)(A:Nat→Nat):Lp:=S.ad.zip (S.ch A)++((List.range (S.nw A).length).map A).zip (S.nw A)
inductive V5 (S:Spec) (O:Lp→Prop) (P:Lp) (e:End) (L':Lp):Prop
 | mk (A:Nat→Nat) (P':Lp) (out:O P') (sub:∀ a∈P.map (·.1),a∈P'.map (·.1)) (he:e=S.fin A) (hL:L'=S.o8 A++P'):V5 S O P e L'
def Spec.nP(S:Spec)(w:World)(Sh:Pos→List Frame→Prop)(I O:Lp→Prop):Prop:=
 ∀ P,I P→Dn w Sh S.C (fun L=>L=S.oH++P) (V5 S O P)
section
theorem IM{h:Heap}{ad:List Nat}:∀ {pre:List Obj},ad.length=pre.length→(∀ q∈ad.zip pre,∃ o,h.get? q.1=some o∧eO o=q.2)→∃ os:List Obj,os.map eO=pre∧∀ q∈ad.zip os,h.get? q.1=some q.2:=by
 induction ad with
 | nil=>intro pre e k; cases pre with
  | nil=>exact ⟨[],rfl,fun z m=>nomatch m⟩
  | cons _ _=>cases e
 | cons a ad ih=>intro pre e k; cases pre with
  | nil=>cases e
  | cons p pre=>
   obtain ⟨o,h1,h2⟩:=k _ (.head _)
   obtain ⟨os,e1,e2⟩:=ih (Nat.succ.inj e) fun q m=>k q (.tail _ m)
   refine ⟨o::os,Hl h2 e1,fun q m=>?_⟩
   cases m with
   | head=>exact h1
   | tail _ m=>exact e2 q m
theorem F3{x:SX}{j a:Nat}{o:Obj}(h:x.T.get j=some (a,o)):A2 x j=a:=by unfold A2; rw [h]
theorem Gh{z:Option (Nat×Obj)}{q:Nat×Obj}(h:eP z=some q):∃ o,z=some (q.1,o)∧eO o=q.2:=by
 cases z with
 | none=>cases h
 | some z=>cases h; exact ⟨z.2,rfl,rfl⟩
section
variable{x:SX}{tr:List Nat}{L:Lp}(e:tr.map (fun j=>eP (x.T.get j))=L.map some)
include e
theorem Ht{q:Nat×Obj}(m:q∈L):∃ j∈tr,∃ o,x.T.get j=some (q.1,o)∧eO o=q.2:=
 have ⟨j,hj,h⟩:=List.mem_map.mp (e ▸ List.mem_map_of_mem m)
 ⟨j,hj,Gh h⟩
theorem Fc{j:Nat}(m:j∈tr):∃ o,x.T.get j=some (A2 x j,o)∧(A2 x j,eO o)∈L:=by
 have m:=List.mem_map_of_mem (f:=fun j=>eP (x.T.get j)) m
 rw [e] at m
 obtain ⟨q,hq,h⟩:=List.mem_map.mp m
 obtain ⟨o,g,h⟩:=Gh h.symm
 rw [F3 g]
 exact ⟨o,g,by rw [h]; exact hq⟩
theorem Jg:tr.map (A2 x)=L.map (·.1):=by
 induction tr generalizing L with
 | nil=>cases L with | nil=>rfl | cons _ _=>cases e
 | cons j tr ih=>
  cases L with
  | nil=>cases e
  | cons q L=>
   obtain ⟨o,g,_⟩:=Gh (List.cons.inj e).1
   exact Hl (F3 g) (ih (List.cons.inj e).2)
theorem VU{kt:KT}{s:Shared}(D:Bd kt s x){i a:Nat}{o:Obj}(g:x.T.get i=some (a,o))(n:i∉tr):a∉L.map (·.1):=fun m=>by
 obtain ⟨q,hq,rfl⟩:=List.mem_map.mp m
 obtain ⟨j,hj,o',g',_⟩:=Ht e hq
 exact n (D.apart _ _ _ _ _ g g' ▸ hj)
theorem PG{kt:KT}{s:Shared}{P:Lp}(D:Bd kt s x)(hP:Gu kt s x P)(nd:tr.Nodup):BX kt s (L++P):=by
 refine ⟨D.top,fun q m=>?_,?_,fun q m=>?_⟩
 ·rcases List.mem_append.mp m with m | m
  ·obtain ⟨j,_,o,g,h⟩:=Ht e m
   exact ⟨o,D.own _ _ _ g,h⟩
  ·exact hP.own q m
 ·rw [List.map_append,← Jg e]
  have nd2:(tr.map (A2 x)).Nodup:=List.pairwise_map.mpr (nd.imp_of_mem fun {a b} ha hb n h=>n (by
   obtain ⟨o,h1,_⟩:=Fc e ha
   obtain ⟨o',h2,_⟩:=Fc e hb
   rw [← h] at h2
   exact D.apart _ _ _ _ _ h1 h2))
  refine List.nodup_append.mpr ⟨nd2,hP.nd,fun a ha b hb h=>?_⟩
  ·obtain ⟨j,hj,rfl⟩:=List.mem_map.mp ha
   obtain ⟨o,g,_⟩:=Fc e hj
   obtain ⟨q,hq,h'⟩:=List.mem_map.mp hb
   exact hP.apart q hq j o (by rw [h',← h]; exact g)
 ·rcases List.mem_append.mp m with m | m
  ·obtain ⟨j,_,o,g,h⟩:=Ht e m
   exact D.off _ _ _ g
  ·exact hP.off q m
end
inductive nM (kt:KT) (s:Shared) (L P:Lp) (x:SX):Prop
 | mk (D:Bd kt s x) (hP:Gu kt s x P) (sub:∀ j a o,x.T.get j=some (a,o)→a∈L.map (·.1))
theorem Ki{kt:KT}{s:Shared}{ad:List Nat}{pre os:List Obj}{P:Lp}(HL:BX kt s (ad.zip pre++P))(hl:ad.length=pre.length)(pZ:os.map eO=pre)(own:∀ q∈ad.zip os,s.heap.get? q.1=some q.2):nM kt s (ad.zip pre) P ⟨Np pre.length (ad.zip os),pre.length,s.heap.objs.size,0,s.gens,s.drawn,s.toks,0,s.os⟩:=by
 have lo:os.length=ad.length:=by rw [hl,← pZ,List.length_map]
 have lz:(ad.zip os).length=pre.length:=by rw [List.length_zip,lo,Nat.min_self,hl]
 have get:∀ j,(Np pre.length (ad.zip os)).get j=(ad.zip os)[j]?:=fun j=>I7 _ _ _ (Nat.le_of_eq lz)
 have fz:(ad.zip pre).map (·.1)=ad:=List.map_fst_zip (Nat.le_of_eq hl)
 have HN:=HL.nd
 rw [List.map_append,fz] at HN
 have HN:=List.nodup_append.mp HN
 have sub:∀ j a o,(Np pre.length (ad.zip os)).get j=some (a,o)→a∈ad:=fun j a o h=>(List.of_mem_zip (List.mem_of_getElem? (get j ▸ h))).1
 have adj:∀ {j a o},(Np pre.length (ad.zip os)).get j=some (a,o)→ad[j]?=some a:=fun {j a o} h=>(List.getElem?_zip_eq_some.mp ((get j).symm.trans h)).1
 refine ⟨⟨rfl,fun j a o h=>own _ (List.mem_of_getElem? (get j ▸ h)),fun j j' a o o' h h'=>?_,fun j z h=>?_,HL.top,fun j a o h=>?_,rfl,rfl,rfl,rfl⟩,⟨HL.right.own,HL.right.nd,HL.right.off,fun q m=>HL.right.lt m,fun q m j o h=>?_⟩,fun j a o h=>by rw [fz]; exact sub j a o h⟩
 ·obtain ⟨p1,e1⟩:=List.getElem?_eq_some_iff.mp (adj h)
  obtain ⟨p2,e2⟩:=List.getElem?_eq_some_iff.mp (adj h')
  exact HV HN.1 p1 p2 (e1.trans e2.symm)
 ·have h:=(List.getElem?_eq_some_iff.mp ((get j).symm.trans h)).1
  rw [lz] at h; exact h
 ·have m:=sub j a o h
  rw [← fz] at m
  obtain ⟨q,hq,rfl⟩:=List.mem_map.mp m
  exact HL.off q (List.mem_append_left _ hq)
 ·exact HN.2.2 _ (sub j _ o h) _ (List.mem_map_of_mem m) rfl
theorem OR{r:R}{o5:List Nat}{n:Nat}(h:n=o5.length):(List.range n).map (II o5 r)=o5.map (A2 r.x):=by
 subst h
 refine List.ext_getElem (by rw [List.length_map,List.length_map,List.length_range]) fun i h1 h2=>?_
 rw [List.getElem_map,List.getElem_map,List.getElem_range]
 rw [List.length_map] at h2
 unfold II
 rw [List.getElem?_eq_getElem h2]
 rfl
theorem OQ{x:SX}:∀ {o5:List Nat} {nw:List Obj},o5.map (fun j=>eQ (x.T.get j))=nw.map some→o5.map (fun j=>eP (x.T.get j))=((o5.map (A2 x)).zip nw).map some
 | [],[],_=>rfl
 | [],_::_,h=>nomatch h
 | _::_,[],h=>nomatch h
 | j::o5,o::nw,h=>by
  refine Hl ?_ (OQ (List.cons.inj h).2)
  have h:=(List.cons.inj h).1
  unfold A2
  dsimp only at h ⊢
  cases hz:x.T.get j with
  | none=>rw [hz] at h; cases h
  | some z=>rw [hz] at h; cases h; rfl
inductive c7 (w:World) (kt:KT) (S:Spec) (tr:List Nat) (A:Nat→Nat) (x1 y:SX) (cd:Code) (s1:Shared) (t1:Thread) (nj:List Frame) (gens:Array GenState) (drawn:Drawn) (os:OsState):Prop
 | mk (e:End) (s2:Shared) (pM:Pos) (go:Go pw w s1 t1 s2 ⟨e.rZ,cd,pM,nj⟩) (he:eE e=S.fin A) (D:Bd kt s2 y) (K:AP y s1 s2) (X:Bz x1 y) (uC:tr.map (fun j=>eP (y.T.get j))=(S.o8 A).map some) (e6:s2.gens=gens) (e7:s2.drawn=drawn) (e8:s2.os=os):c7 w kt S tr A x1 y cd s1 t1 nj gens drawn os
theorem Xl{w:World}{kt:KT}{x1:SX}{r:R}{s1:Shared}{t1:Thread}{S:Spec}{m:List Nat}{o5:List Nat}{nj:List Frame}{gens:Array GenState}{drawn:Drawn}{os:OsState}(S1:Dm pw w kt x1 r s1 t1)(E:LB m o5 r=KZ S o5 nj gens drawn os r):c7 w kt S (m++o5) (II o5 r) x1 r.x r.cd s1 t1 nj gens drawn os:=by
 unfold LB KZ at E
 simp only [Prod.mk.injEq] at E
 obtain ⟨e1,e2,e3,e4,e5,e6,e7,e8⟩:=E
 cases hq:r.end? with
 | none=>rw [hq] at e2; cases e2
 | some e=>
  rw [hq] at e2
  obtain ⟨X2,s2,pM,go2,D2,K2⟩:=Yx S1 e1 hq
  have hn:=congrArg List.length e4
  rw [List.length_map,List.length_map] at hn
  exact ⟨e,s2,pM,e5 ▸ go2,Option.some.inj e2,D2,K2,X2,by unfold Spec.o8; rw [List.map_append,e3,OQ e4,OR hn.symm,List.map_append],D2.gens.trans e6,D2.drawn.trans e7,D2.os.trans e8⟩
theorem nE(n0 t0 r0:Nat)(A:Nat→Nat)(q1 q2:Nat→Nat→Nat)(d1 d2:Nat→Data):∃ u:U,(u.n 0 0=n0∧u.n 0 1=t0∧u.n 0 2=r0)∧(fun k=>u.n 0 (3+k))=A∧(fun j=>u.n (2*j+1))=q1∧(fun j=>u.n (2*j+2))=q2∧(fun j=>u.d (2*j))=d1∧(fun j=>u.d (2*j+1))=d2:=by
 obtain ⟨q,e1,e2⟩:=cI q1 q2
 obtain ⟨d,e3,e4⟩:=cI d1 d2
 exact ⟨⟨fun j i=>Nat.casesOn (motive:=fun z=>Nat) j (Nat.casesOn (motive:=fun z=>Nat) i n0 fun i=>Nat.casesOn (motive:=fun z=>Nat) i t0 fun i=>Nat.casesOn (motive:=fun z=>Nat) i r0 A) fun j=>q j i,d⟩,⟨rfl,rfl,rfl⟩,funext fun k=>by rw [Nat.add_comm]; rfl,e1,e2,e3,e4⟩
theorem Vs{w:World}{s:Shared}{e:End}{cd oI:Code}{pos pc:Pos}{k:Result→Sem Fin}{g:Bool}{l:List Value}{rest:List Frame}(h:E6 (eE e)=true):∃ t,Go pw w s ⟨e.rZ,oI,pos,Frame.ret k none g l cd pc []::rest⟩ s ⟨k (Kh t (eE e)),cd,pc,rest⟩:=by
 cases e with
 | err v=>exact ⟨0,TM⟩
 | fin f=>cases f with
  | again c=>cases h
  | done f=>cases f with
   | ret v=>exact ⟨Hs v,by rw [show Kh (Hs v) (eE (.fin (.done (.ret v))))=.ok (.ret v) from congrArg (fun v=>Except.ok (Flow.ret v)) (Ec v)]; exact Cq⟩
   | _=>exact ⟨0,Cq⟩
inductive bt (x:SX) (tr:List Nat) (os:List Obj) (nl:Lp) (i a:Nat) (o:Obj):Prop
 | new (lo:x.m≤i) (k:nl[i-x.m]?=some (a,o))
 | sd (o0:Obj) (g:x.T.get i=some (a,o0)) (m:(a,o)∈(tr.map (A2 x)).zip os)
 | old (g:x.T.get i=some (a,o)) (n:i∉tr)
theorem da{x:SX}{tr:List Nat}{os:List Obj}{nl:Lp}(lo:os.length=tr.length)(ok:HP (Bs x.T (tr.zip os)) x.m nl=true){i a:Nat}{o:Obj}(h:(Co (Bs x.T (tr.zip os)) x.m nl).get i=some (a,o)):bt x tr os nl i a o:=by
 rw [E7 _ _ _ _ ok] at h
 by_cases h1:x.m≤i∧i < x.m+nl.length
 ·rw [if_pos h1] at h; exact .new h1.1 h
 ·rw [if_neg h1] at h
  obtain ⟨o0,g1,g2 | ⟨g2,g3⟩⟩:=G4 _ _ _ _ _ h
  ·refine .sd o0 g1 ?_
   rw [List.zip_map_left]
   exact List.mem_map.mpr ⟨_,g2,congrArg (Prod.mk · o) (F3 g1)⟩
  ·rw [List.map_fst_zip (Nat.le_of_eq lo.symm)] at g2
   exact .old (g3 ▸ g1) g2
inductive kH (kt:KT) (s s':Shared) (x y:SX) (P P':Lp):Prop
 | mk (D:Bd kt s' y) (X:Bz x y) (hP:Gu kt s' y P') (K:Ad y P s s') (new:∀ q∈P',q.1∈P.map (·.1)∨s.heap.objs.size≤q.1)
theorem RD{kt:KT}{s s':Shared}{x:SX}{tr:List Nat}{os:List Obj}{L M N nl P P':Lp}(D:Bd kt s x)(hP:Gu kt s x P)(e:tr.map (fun j=>eP (x.T.get j))=L.map some)(lo:os.length=tr.length)(H:BX kt s' ((M++N)++P'))(f1:M.map (·.1)=tr.map (A2 x))(n1:∀ q∈(tr.map (A2 x)).zip os,s'.heap.get? q.1=some q.2)(f2:N.map (·.1)=nl.map (·.1))(n2:∀ q∈nl,s'.heap.get? q.1=some q.2)(F:Fr s s' (L++P) ((M++N)++P'))(sub:∀ a∈P.map (·.1),a∈P'.map (·.1))(ok:HP (Bs x.T (tr.zip os)) x.m nl=true)(sz:s.heap.objs.size≤s'.heap.objs.size) :
  kH kt s s' x ⟨Co (Bs x.T (tr.zip os)) x.m nl,x.m+nl.length,s'.heap.objs.size,0,x.gens,x.drawn,s'.toks,0,x.os⟩ P P':=by
 have HN:=H.nd
 rw [List.map_append,List.map_append,f1,f2] at HN
 have ⟨HM,_,dP⟩:=List.nodup_append.mp HN
 have ⟨_,nN,dN⟩:=List.nodup_append.mp HM
 clear HN HM
 have el:=Jg e
 have inP:∀ {a:Nat},a∈(L++P).map (·.1)→a∈tr.map (A2 x)∨a∈P.map (·.1):=fun m=>by rw [List.map_append,← el] at m; exact List.mem_append.mp m
 have fresh:∀ q∈nl,s.heap.objs.size≤q.1∧kt.get q.1=none:=fun q m=>by
  have m:=List.mem_map_of_mem (f:=fun z:Nat×Obj=>z.1) m
  have m2:=m
  rw [← f2] at m2
  obtain ⟨q',hq,h⟩:=List.mem_map.mp m2
  have hq:=List.mem_append_left P' (List.mem_append_right M hq)
  rw [← h] at m ⊢
  refine ⟨(F.new q' hq).elim (fun a=>(inP a).elim (fun a=>absurd rfl (dN _ a _ m)) fun a=>absurd rfl (dP _ (List.mem_append_right _ m) _ (sub _ a))) id,H.off q' hq⟩
 have nk:∀ {i a:Nat} {o:Obj},nl[i-x.m]?=some (a,o)→(a,o)∈nl:=List.mem_of_getElem?
 have offP:∀ {i a o},x.T.get i=some (a,o)→a∉P.map (·.1):=fun {i a o} h m=>by
  obtain ⟨z,hz,rfl⟩:=List.mem_map.mp m
  exact hP.apart z hz _ _ h
 have kept:∀ {i a o},x.T.get i=some (a,o)→i∉tr→a∉(L++P).map (·.1):=fun h n m=>(inP m).elim (el ▸ VU e D h n) (offP h)
 have old:∀ {i a o},x.T.get i=some (a,o)→a < s.heap.objs.size:=fun h=>Heap.lt_size (D.own _ _ _ h)
 have W:=@da x tr os nl lo ok
 have T:∀ {i a o},(Co (Bs x.T (tr.zip os)) x.m nl).get i=some (a,o)→(x.m≤i∧nl[i-x.m]?=some (a,o))∨∃ o0,x.T.get i=some (a,o0):=fun h=>by
  rcases W h with ⟨lo,k⟩ | ⟨o0,g,m⟩ | ⟨g,n⟩
  ·exact .inl ⟨lo,k⟩
  ·exact .inr ⟨_,g⟩
  ·exact .inr ⟨_,g⟩
 have fwd:∀ j a o,x.T.get j=some (a,o)→∃ o',(Co (Bs x.T (tr.zip os)) x.m nl).get j=some (a,o'):=fun j a o h=>by
  rw [E7 _ _ _ _ ok,if_neg fun q=>absurd (D.low _ _ h) (Nat.not_lt.mpr q.1)]
  exact G5 _ _ _ _ _ h
 refine ⟨⟨rfl,fun i a o h=>?_,fun i j a o o' h h'=>?_,fun i z h=>?_,H.top,fun i a o h=>?_,F.gens.trans D.gens,F.drawn.trans D.drawn,rfl,F.os.trans D.os⟩,⟨fwd,fun i a o h=>?_,?_⟩,⟨H.right.own,H.right.nd,H.right.off,fun q m=>H.right.lt m,fun q m j o h=>?_⟩,⟨F.life,fun b o hb hn sy=>F.old b o hb fun m=>(inP m).elim (fun m=>?_) sy⟩,fun q m=>(F.new q (List.mem_append_right _ m)).imp (fun a=>(inP a).elim (fun a=>absurd rfl (dP _ (List.mem_append_left _ a) _ (List.mem_map_of_mem m))) id) id⟩
 ·rcases W h with ⟨_,k⟩ | ⟨o0,g,m⟩ | ⟨g,n⟩
  ·exact n2 _ (nk k)
  ·exact n1 _ m
  ·exact F.old a o (D.own _ _ _ g) (kept g n)
 ·rcases T h with ⟨k1,h⟩ | ⟨o0,h⟩<;>rcases T h' with ⟨k2,h'⟩ | ⟨o1,h'⟩
  ·obtain ⟨p1,e1⟩:=List.getElem?_eq_some_iff.mp h
   obtain ⟨p2,e2⟩:=List.getElem?_eq_some_iff.mp h'
   have:=HV nN (i:=i-x.m) (j:=j-x.m) (by rw [List.length_map]; exact p1) (by rw [List.length_map]; exact p2) (by rw [List.getElem_map,List.getElem_map,e1,e2])
   rw [← Nat.sub_add_cancel k1,this,Nat.sub_add_cancel k2]
  ·exact absurd (old h') (Nat.not_lt.mpr (fresh _ (nk h)).1)
  ·exact absurd (old h) (Nat.not_lt.mpr (fresh _ (nk h')).1)
  ·exact D.apart _ _ _ _ _ h h'
 ·obtain ⟨a,o⟩:=z
  show i < x.m+nl.length
  rcases T h with ⟨k1,h⟩ | ⟨o0,h⟩
  ·exact (Nat.sub_lt_iff_lt_add' k1).mp (List.getElem?_eq_some_iff.mp h).1
  ·exact Nat.lt_of_lt_of_le (D.low _ _ h) (Nat.le_add_right _ _)
 ·rcases T h with ⟨_,h⟩ | ⟨o0,h⟩
  ·exact (fresh _ (nk h)).2
  ·exact D.off _ _ _ h
 ·rcases T h with ⟨_,h⟩ | h
  ·exact .inr (D.size ▸ (fresh _ (nk h)).1)
  ·exact .inl h
 ·exact D.size ▸ sz
 ·have m':=List.mem_map_of_mem (f:=fun z:Nat×Obj=>z.1) m
  rcases W h with ⟨_,h⟩ | ⟨o0,g,h⟩ | ⟨g,n⟩
  ·exact dP _ (List.mem_append_right _ (List.mem_map_of_mem (nk h))) _ m' rfl
  ·exact dP _ (List.mem_append_left _ (List.of_mem_zip h).1) _ m' rfl
  ·exact (F.new q (List.mem_append_right _ m)).elim (kept g n) fun a=>absurd (old g) (Nat.not_lt.mpr a)
 ·obtain ⟨j,hj,rfl⟩:=List.mem_map.mp m
  obtain ⟨o2,g,_⟩:=Fc e hj
  obtain ⟨o',h⟩:=fwd _ _ _ g
  exact hn j o' h
end
section
inductive V4 {Z:Type} (F:Z→Spec) (φ:Z→(Nat→Nat)→Prop) (O:Lp→Prop) (P:Lp) (e:End) (L':Lp):Prop
 | mk (z:Z) (A:Nat→Nat) (P':Lp) (hz:φ z A) (out:O P') (sub:∀ a∈P.map (·.1),a∈P'.map (·.1)) (he:e=(F z).fin A) (hL:L'=(F z).o8 A++P'):V4 F φ O P e L'
def Spec.oC{Z:Type}(F:Z→Spec)(φ:Z→(Nat→Nat)→Prop)(S:Spec)(w:World)(Sh:Pos→List Frame→Prop)(I O:Lp→Prop):Prop:=
 ∀ P,I P→Dn w Sh S.C (fun L=>L=S.oH++P) (V4 F φ O P)
inductive V6 {Z:Type} (F:Z→Spec) (O:Z→(Nat→Nat)→Lp→Prop) (P:Lp) (e:End) (L':Lp):Prop
 | mk (z:Z) (A:Nat→Nat) (P':Lp) (out:O z A P') (sub:∀ a∈P.map (·.1),a∈P'.map (·.1)) (he:e=(F z).fin A) (hL:L'=(F z).o8 A++P'):V6 F O P e L'
def Spec.nX{Z:Type}(F:Z→Spec)(O:Z→(Nat→Nat)→Lp→Prop)(S:Spec)(w:World)(Sh:Pos→List Frame→Prop)(I:Lp→Prop):Prop:=
 ∀ P,I P→Dn w Sh S.C (fun L=>L=S.oH++P) (V6 F O P)
def AA.qi(p:Program)(w:World)(kt:KT)(o:AA):Prop:=∃ nt,o.nt=some nt∧
 ∀ (x:SX) (s:Shared) (cd:Code) (ps:Pos) (nj:List Frame),(∀ q,nt.vp=some q→Lm cd nj=q.1 x∧ps=q.2)→(∀ u,o.ok u x=true)→o.tr.map (fun j=>eP (x.T.get j))=o.pre x→Bd kt s x→YQ p w kt o (nt.X x) (nt.Y x) x s cd ps nj
theorem AA.pP.mono{p:Program}{w:World}{kt:KT}{o:AA}{I I':Lp→Prop}{O O':U→SX→Lp→Prop}(h:o.pP p w kt I O)(hi:∀ P,I' P→I P)(ho:∀ u x P,o.good u x→O u x P→O' u x P):o.pP p w kt I' O':=by
 refine ⟨h.1,fun c x s k g l cd pc rest P hc hp hs pD D tk hI hP=>?_⟩
 obtain ⟨u,s',P',go,D',X,hO,hP',K,N,sub,G⟩:=h.2 c x s k g l cd pc rest P hc hp hs pD D tk (hi _ hI) hP
 exact ⟨u,s',P',go,D',X,ho _ _ _ G hO,hP',K,N,sub,G⟩
def I5(ss:SX→List Sh)(tr:List Nat)(fl fn:List Bool)(S:SX→Spec)(gd:U→SX→Prop):AA:={ B6 ss tr fl fn S with good:=gd }
def Nk{Z:Type}(ss:SX→List Sh)(tr:List Nat)(fl fn:List Bool)(S:SX→Spec)(F:SX→Z→Spec)(φ:Z→(Nat→Nat)→Prop):AA:=I5 ss tr fl fn S (fun u x=>(∃ z,φ z (fun k=>u.n 0 (3+k))∧J1 (fun j=>u.d (2*j)) fl 0 ((F x z).ch (fun k=>u.n 0 (3+k))))∧J1 (fun j=>u.d (2*j+1)) fn 0 ((S x).nw (fun k=>u.n 0 (3+k))))
def Jx{Z:Type}(ss:SX→List Sh)(tr:List Nat)(fl fn:List Bool)(S:SX→Spec)(F:SX→Z→Spec):AA:=I5 ss tr fl fn S (fun u x=>(∃ z,J1 (fun j=>u.d (2*j)) fl 0 ((F x z).ch (fun k=>u.n 0 (3+k))))∧J1 (fun j=>u.d (2*j+1)) fn 0 ((S x).nw (fun k=>u.n 0 (3+k))))
def Rj{Z:Type}(ss:SX→List Sh)(tr:List Nat)(fl fn:List Bool)(S:SX→Spec)(F:SX→Z→Spec):AA:=I5 ss tr fl fn S (fun u x=>∃ z,J1 (fun j=>u.d (2*j)) fl 0 ((F x z).ch (fun k=>u.n 0 (3+k)))∧J1 (fun j=>u.d (2*j+1)) fn 0 ((F x z).nw (fun k=>u.n 0 (3+k))))
theorem Fh{Z:Type}{w:World}{Sf:SX→Pos→List Frame→Prop}{I:Lp→Prop}{ss:SX→List Sh}{tr:List Nat}{fl fn:List Bool}{S:SX→Spec}{F0:SX→Z→Spec}{O:SX→Z→(Nat→Nat)→Lp→Prop}{gd:U→SX→Prop}(hG:∀ u x z P,J1 (fun j=>u.d (2*j)) fl 0 ((F0 x z).ch (fun k=>u.n 0 (3+k)))→J1 (fun j=>u.d (2*j+1)) fn 0 ((F0 x z).nw (fun k=>u.n 0 (3+k)))→O x z (fun k=>u.n 0 (3+k)) P→gd u x)(T:∀ x,Spec.nX (F0 x) (O x) (S x) w (Sf x) I)(hF:∀ x z,(F0 x z).fin=(S x).fin∧(F0 x z).ad=(S x).ad)(sC:∀ x z A q d,Ib q d fn 0 ((F0 x z).nw A)=Ib q d fn 0 ((S x).nw A))(sA:∀ x z A,((F0 x z).nw A).length=((S x).nw A).length)(qz:∀ x z A q d,Ib q d fl 0 ((F0 x z).ch A)=Ib q d fl 0 ((S x).ch A))(q9:∀ x k g l cd pc rest,(ss x=[]∨BB (ss x) (Frame.ret k none g l cd pc []::rest)=(ss x).map some)→Sf x pc (Frame.ret k none g l cd pc []::rest))(nd:tr.Nodup)(hl:∀ x,(S x).ad.length=tr.length∧(S x).pre.length=tr.length∧∀ z A,((F0 x z).ch A).length=tr.length)(hd:∀ x A,E6 ((S x).fin A)=true):(I5 ss tr fl fn S gd).pP pw w (A4 w.2) I (fun u x P'=>∃ z,J1 (fun j=>u.d (2*j)) fl 0 ((F0 x z).ch (fun k=>u.n 0 (3+k)))∧J1 (fun j=>u.d (2*j+1)) fn 0 ((F0 x z).nw (fun k=>u.n 0 (3+k)))∧O x z (fun k=>u.n 0 (3+k)) P'):=by
 refine ⟨rfl,?_⟩
 intro c x s k g l cd pc rest P hc hp hs pD D _ hI hP
 have hp:tr.map (fun j=>eP (x.T.get j))=((S x).ad.zip (S x).pre).map some:=hp
 obtain ⟨l1,l2,l3⟩:=hl x
 obtain ⟨e,s',L',oI,pos',go,⟨z,A,P',hO,sub,he,eL⟩,H',F⟩:=T x P hI c s pc _ _ rfl hc (PG hp D hP nd) (q9 _ _ _ _ _ _ _ hs)
 subst eL
 obtain ⟨hF1,hF2⟩:=hF x z
 rw [hF1] at he
 unfold Spec.o8 at H' F
 rw [hF2] at H' F
 have ea:tr.map (A2 x)=(S x).ad:=(Jg hp).trans (List.map_fst_zip (by rw [l1,l2]; exact Nat.le_refl _))
 obtain ⟨pY,qw,n1⟩:=IM (h:=s'.heap) (l1.trans (l3 z A).symm) fun q m=>H'.own q (List.mem_append_left _ (List.mem_append_left _ m))
 obtain ⟨os'',hnw,n2⟩:=IM (h:=s'.heap) ((List.length_map _).trans List.length_range) fun q m=>H'.own q (List.mem_append_left _ (List.mem_append_right _ m))
 obtain ⟨q1,d1,hq1,ok1⟩:=KO pY fl
 obtain ⟨q2,d2,hq2,ok2⟩:=KO os'' fn
 rw [qw] at hq1 ok1
 rw [hnw] at hq2 ok2
 obtain ⟨t,gop⟩:=Vs (w:=w) (s:=s') (e:=e) (cd:=cd) (oI:=oI) (pos:=pos') (pc:=pc) (k:=k) (g:=g) (l:=l) (rest:=rest) (he ▸ hd x A)
 obtain ⟨u,⟨u0,ut,ur⟩,uA,u1,u2,v1,v2⟩:=nE s'.heap.objs.size s'.toks t A q1 q2 d1 d2
 have ln:((S x).nw A).length=os''.length:=by rw [← sA x z,← hnw,List.length_map]
 have ch1:dA u fl ((S x).ch A)=pY:=by unfold dA; rw [u1,v1,← qz x z A,hq1]
 have nw1:cb u fn ((S x).nw A)=((List.range os''.length).map A).zip os'':=by unfold cb; rw [u2,v2,← sC x z A,hq2,uA,ln]
 have hou:=pD u
 have up:(I5 ss tr fl fn S gd).upd u x=⟨Co (Bs x.T (tr.zip pY)) x.m (((List.range os''.length).map A).zip os''),x.m+(((List.range os''.length).map A).zip os'').length,s'.heap.objs.size,0,x.gens,x.drawn,s'.toks,0,x.os⟩:=by
  simp only [I5,B6]
  rw [uA,ch1,nw1,ln,u0,ut,List.length_zip,List.length_map,List.length_range,Nat.min_self]
 simp only [I5,B6] at hou
 rw [uA,ch1,nw1] at hou
 have lz:os''.length=((F0 x z).nw A).length:=by rw [← hnw,List.length_map]
 rw [← lz] at n2
 obtain ⟨D2,X2,HP2,K2,N2⟩:=RD D hP hp (by rw [← l3 z A,← qw,List.length_map]) H' ((List.map_fst_zip (by rw [l1,l3]; exact Nat.le_refl _)).trans ea.symm) (by rw [ea]; exact n1) (by rw [lz,List.map_fst_zip (by rw [List.length_map,List.length_range]; exact Nat.le_refl _),List.map_fst_zip (by rw [List.length_map,List.length_range,lz]; exact Nat.le_refl _)]) n2 F sub hou go.size
 refine ⟨u,s',P',?_,?_,?_,⟨z,by rw [uA,v1]; exact ok1,by rw [uA,v2]; exact ok2,by rw [uA]; exact hO⟩,?_,?_,N2,sub,hG _ _ z P' (by rw [uA,v1]; exact ok1) (by rw [uA,v2]; exact ok2) (by rw [uA]; exact hO)⟩
 ·rw [show (I5 ss tr fl fn S gd).res u x=Kh t (eE e) by simp only [I5,B6]; rw [uA,ur,he]]; exact go.trans gop
 ·rw [up]; exact D2
 ·rw [up]; exact X2
 ·rw [up]; exact HP2
 ·rw [up]; exact K2
theorem Spec.nP.dd{S:Spec}{w:World}{Sh:Pos→List Frame→Prop}{I O:Lp→Prop}(h:S.nP w Sh I O):Spec.nX (fun _:Unit=>S) (fun q q P'=>O P') S w Sh I:=
 fun P hI=>(h P hI).nV (fun q e=>e) fun e L ⟨A,P',a,b,c,d⟩=>⟨(),A,P',a,b,c,d⟩
theorem AF{w:World}{Sf:SX→Pos→List Frame→Prop}{I O:Lp→Prop}{ss:SX→List Sh}{tr:List Nat}{fl fn:List Bool}{S:SX→Spec}(T:∀ x,(S x).nP w (Sf x) I O)(q9:∀ x k g l cd pc rest,(ss x=[]∨BB (ss x) (Frame.ret k none g l cd pc []::rest)=(ss x).map some)→Sf x pc (Frame.ret k none g l cd pc []::rest))(nd:tr.Nodup)(hl:∀ x,(S x).ad.length=tr.length∧(S x).pre.length=tr.length∧∀ A,((S x).ch A).length=tr.length)(hd:∀ x A,E6 ((S x).fin A)=true):(B6 ss tr fl fn S).oB pw w (A4 w.2) I O:=
 Fh (Z:=Unit) (F0:=fun x q=>S x) (O:=fun q q q P=>O P) (fun q q q q a b q=>⟨a,b⟩) (fun x=>(T x).dd) (fun q q=>⟨rfl,rfl⟩) (fun q q q q q=>rfl) (fun q q q=>rfl) (fun q q q q q=>rfl) q9 nd (fun x=>⟨(hl x).1,(hl x).2.1,fun q=>(hl x).2.2⟩) hd |>.mono (fun q h=>h) fun _ _ _ _ ⟨_,_,_,h⟩=>h
theorem I6{Z:Type}{w:World}{Sf:SX→Pos→List Frame→Prop}{I:Lp→Prop}{ss:SX→List Sh}{tr:List Nat}{fl fn:List Bool}{S:SX→Spec}{F0:SX→Z→Spec}{O:SX→Z→(Nat→Nat)→Lp→Prop}(T:∀ x,Spec.nX (F0 x) (O x) (S x) w (Sf x) I)(hF:∀ x z,(F0 x z).fin=(S x).fin∧(F0 x z).ad=(S x).ad)(sC:∀ x z A q d,Ib q d fn 0 ((F0 x z).nw A)=Ib q d fn 0 ((S x).nw A))(sA:∀ x z A,((F0 x z).nw A).length=((S x).nw A).length)(qz:∀ x z A q d,Ib q d fl 0 ((F0 x z).ch A)=Ib q d fl 0 ((S x).ch A))(q9:∀ x k g l cd pc rest,(ss x=[]∨BB (ss x) (Frame.ret k none g l cd pc []::rest)=(ss x).map some)→Sf x pc (Frame.ret k none g l cd pc []::rest))(nd:tr.Nodup)(hl:∀ x,(S x).ad.length=tr.length∧(S x).pre.length=tr.length∧∀ z A,((F0 x z).ch A).length=tr.length)(hd:∀ x A,E6 ((S x).fin A)=true):(Rj ss tr fl fn S F0).pP pw w (A4 w.2) I (fun u x P'=>∃ z,J1 (fun j=>u.d (2*j)) fl 0 ((F0 x z).ch (fun k=>u.n 0 (3+k)))∧J1 (fun j=>u.d (2*j+1)) fn 0 ((F0 x z).nw (fun k=>u.n 0 (3+k)))∧O x z (fun k=>u.n 0 (3+k)) P'):=
 (Fh (fun y y z y a b y=>⟨z,a,b⟩) T hF sC sA qz q9 nd hl hd)
theorem Fg{Z:Type}{w:World}{Sf:SX→Pos→List Frame→Prop}{I O:Lp→Prop}{ss:SX→List Sh}{tr:List Nat}{fl fn:List Bool}{S:SX→Spec}{F0:SX→Z→Spec}{φ:Z→(Nat→Nat)→Prop}(T:∀ x,Spec.oC (F0 x) φ (S x) w (Sf x) I O)(hF:∀ x z,(F0 x z).fin=(S x).fin∧(F0 x z).ad=(S x).ad∧(F0 x z).nw=(S x).nw)(qz:∀ x z A q d,Ib q d fl 0 ((F0 x z).ch A)=Ib q d fl 0 ((S x).ch A))(q9:∀ x k g l cd pc rest,(ss x=[]∨BB (ss x) (Frame.ret k none g l cd pc []::rest)=(ss x).map some)→Sf x pc (Frame.ret k none g l cd pc []::rest))(nd:tr.Nodup)(hl:∀ x,(S x).ad.length=tr.length∧(S x).pre.length=tr.length∧∀ z A,((F0 x z).ch A).length=tr.length)(hd:∀ x A,E6 ((S x).fin A)=true):(Nk ss tr fl fn S F0 φ).oB pw w (A4 w.2) I O:=
 (Fh (O:=fun y z A P=>φ z A∧O P) (fun y x z y a b h=>⟨⟨z,h.1,a⟩,by rw [(hF x z).2.2] at b; exact b⟩) (fun x P hI=>(T x P hI).nV (fun y e=>e) fun e L ⟨z,A,P',a,b,c,d,g⟩=>⟨z,A,P',⟨a,b⟩,c,d,g⟩) (fun x z=>⟨(hF x z).1,(hF x z).2.1⟩) (fun x z y y y=>by rw [(hF x z).2.2]) (fun x z y=>by rw [(hF x z).2.2]) qz q9 nd hl hd).mono (fun y h=>h) fun _ _ _ _ ⟨_,_,_,h⟩=>h.2
theorem Dh{Z:Type}{w:World}{Sf:SX→Pos→List Frame→Prop}{I:Lp→Prop}{ss:SX→List Sh}{tr:List Nat}{fl fn:List Bool}{S:SX→Spec}{F0:SX→Z→Spec}{O:SX→Z→(Nat→Nat)→Lp→Prop}(T:∀ x,Spec.nX (F0 x) (O x) (S x) w (Sf x) I)(hF:∀ x z,(F0 x z).fin=(S x).fin∧(F0 x z).ad=(S x).ad∧(F0 x z).nw=(S x).nw)(qz:∀ x z A q d,Ib q d fl 0 ((F0 x z).ch A)=Ib q d fl 0 ((S x).ch A))(q9:∀ x k g l cd pc rest,(ss x=[]∨BB (ss x) (Frame.ret k none g l cd pc []::rest)=(ss x).map some)→Sf x pc (Frame.ret k none g l cd pc []::rest))(nd:tr.Nodup)(hl:∀ x,(S x).ad.length=tr.length∧(S x).pre.length=tr.length∧∀ z A,((F0 x z).ch A).length=tr.length)(hd:∀ x A,E6 ((S x).fin A)=true):(Jx ss tr fl fn S F0).pP pw w (A4 w.2) I (fun u x P'=>∃ z,J1 (fun j=>u.d (2*j)) fl 0 ((F0 x z).ch (fun k=>u.n 0 (3+k)))∧O x z (fun k=>u.n 0 (3+k)) P'):=
 (Fh (fun y x z y a b y=>⟨⟨z,a⟩,by rw [(hF x z).2.2] at b; exact b⟩) T (fun x z=>⟨(hF x z).1,(hF x z).2.1⟩) (fun x z y y y=>by rw [(hF x z).2.2]) (fun x z y=>by rw [(hF x z).2.2]) qz q9 nd hl hd).mono (fun y h=>h) fun _ _ _ _ ⟨z,a,_,h⟩=>⟨z,a,h⟩
theorem An{w:World}{Sf:Pos→List Frame→Prop}{I O:Lp→Prop}{ss:List Sh}{tr:List Nat}{fl fn:List Bool}{S:SX→Spec}(T:∀ x,(S x).nP w Sf I O)(q9:∀ k g l cd pc rest,(ss=[]∨BB ss (Frame.ret k none g l cd pc []::rest)=ss.map some)→Sf pc (Frame.ret k none g l cd pc []::rest))(nd:tr.Nodup)(hl:∀ x,(S x).ad.length=tr.length∧(S x).pre.length=tr.length∧∀ A,((S x).ch A).length=tr.length)(hd:∀ x A,E6 ((S x).fin A)=true):(Ck ss tr fl fn S).oB pw w (A4 w.2) I O:=
 AF (Sf:=fun q=>Sf) T (fun q=>q9) nd hl hd
def BL:List U→Nat→U
 | [],_=>U0
 | u::_,0=>u
 | _::l,n+1=>BL l n
def ud(l:List U)(i j:Nat):Data:=eD ((BL l i).d j)
def un(l:List U)(i j k:Nat):Nat:=(BL l i).n j k
noncomputable def gD(D:List Data)(i:Nat):Data:=D.getD i .plain
noncomputable def F8:List (List U→AA)→List U→List U→List AA
 | f::fs,l,u::us=>f l::F8 fs (u::l) us
 | _,_,_=>[]
inductive Bv (E:List U→Lp→Prop) (p:Program) (w:World) (kt:KT):(Lp→Prop)→List (List U→AA)→List U→Prop
 | nil {I l}:(∀ P,I P→E l P)→Bv E p w kt I [] l
 | oG {I l} {f:List U→AA} {fs} {J:U→SX→Lp→Prop}:(f l).pP p w kt I J→(∀ u x,(f l).good u x→Bv E p w kt (J u x) fs (u::l))→Bv E p w kt I (f::fs) l
 | ph {I l} {f:List U→AA} {fs}:(f l).qi p w kt→(∀ u x,(f l).good u x→Bv E p w kt I fs (u::l))→Bv E p w kt I (f::fs) l
def JW(F:List U→R→Prop):List (List U→AA)→List U→R→Prop
 | [],l,r=>F l r
 | f::fs,l,r=>(∀ u,Sn (f l) u r=Sk (f l) r)∧∀ u,(f l).good u r.x→JW F fs (u::l) (next (f l) u r)
theorem G7{F:List U→R→Prop}:∀ (fs:List (List U→AA)) (l:List U) (r:R),(∀ us:List U,us.length=fs.length→Sm (F8 fs l us) us r=Sl (F8 fs l us) us r∧F (us.reverse++l) (Ge (F8 fs l us) us r))→JW F fs l r
 | [],l,r,h=>(h [] rfl).2
 | f::fs,l,r,h=>by
  refine ⟨fun u=>?_,fun u g=>G7 fs (u::l) (next (f l) u r) fun us hu=>?_⟩
  ·exact (List.cons.inj (h (u::List.replicate fs.length U0) (by simp)).1).1
  ·obtain ⟨h1,h2⟩:=h (u::us) (by simp [hu])
   refine ⟨(List.cons.inj h1).2,?_⟩
   rw [List.reverse_cons,List.append_assoc] at h2
   exact h2
theorem Ub(us:List U){n:Nat}(h:us.length=n):us=(List.range n).map fun i=>us.getD i U0:=by
 subst h
 apply List.ext_getElem
 ·simp
 ·intro i h1 h2
  simp [List.getD,List.getElem?_eq_getElem h1]
section
variable{p:Program}{w:World}{kt:KT}
theorem Bv.cons{E:List U→Lp→Prop}{I J l}{f:List U→AA}{fs}(h:(f l).oB p w kt I J)(k:∀ u x,(f l).good u x→Bv E p w kt J fs (u::l)):Bv E p w kt I (f::fs) l:=
 .oG (J:=fun q q=>J) h k
theorem Bv.note{E:List U→Lp→Prop}{I l}{f:List U→AA}{fs}(h:(f l).qQ p w kt)(k:∀ u x,(f l).good u x→Bv E p w kt I fs (u::l)):Bv E p w kt I (f::fs) l:=
 .ph (let ⟨nt,e,O⟩:=h; ⟨nt,e,fun x s cd ps nj a b q d=>O x s cd ps nj a b d⟩) k
inductive VB (p:Program) (w:World) (kt:KT) (E:List U→Lp→Prop) (F:List U→R→Prop) (x:SX) (s:Shared) (t:Thread) (P:Lp):Prop
 | mk (z:List U) (r':R) (s':Shared) (t':Thread) (x':SX) (P':Lp) (fin:F z r') (go:Go p w s t s' t') (sim:Dm p w kt x' r' s' t') (ext:Bz x x') (out:E z P') (pL:Gu kt s' x' P') (keep:Ad x' P s s') (new:∀ q∈P',q.1∈P.map (·.1)∨s.heap.objs.size≤q.1) (sub:∀ a∈P.map (·.1),a∈P'.map (·.1)):VB p w kt E F x s t P
set_option tactic.hygienic true in
theorem FJ{E:List U→Lp→Prop}{F:List U→R→Prop}:∀ {I:Lp→Prop} {fs:List (List U→AA)} {l:List U},Bv E p w kt I fs l→∀ {x:SX} {r:R} {s:Shared} {t:Thread} {P:Lp},Dm p w kt x r s t→JW F fs l r→I P→Gu kt s x P→
  VB p w kt E F x s t P:=by
 intro I fs l ch
 induction ch with
 | @nil I l he=>
  intro x r s t P S H hI hP
  exact ⟨l,r,s,t,x,P,H,.refl,S,Bz.refl x,he P hI,hP,⟨rfl,fun y y h y y=>h⟩,fun q m=>.inl (List.mem_map_of_mem m),fun y m=>m⟩
 | @oG I l0 f fs J O ch2 ih=>
  intro x r s t P S H hI hP
  obtain ⟨H1,H2⟩:=H
  generalize f l0=o at *
  have e0:=H1
  unfold Sn Sk j2 j4 j3 at e0
  rw [O.1] at e0
  simp only [Prod.mk.injEq] at e0
  have eu:∀ u,o.ok u r.x=true:=fun u=>(e0 u).2.2.2.2.2.2.1
  obtain ⟨e2,e1,eh,ec,ep,es,_,_,etk⟩:=e0 U0
  obtain ⟨X,s₁,pos,g,l,kk,go,D,K,cont⟩:=S.qr e1 e2
  rw [eh] at go
  have hP1:=hP.keep X K
  obtain ⟨u,s₂,P₂,go2,D2,X2,hJ,hP2,K2,N2,Q2,G2⟩:=O.2 r.c r.x s₁ kk g l r.cd pos r.nj P ec ep (Qw es kk g l pos) eu D (fun f hf=>by unfold kc kZ at etk; rw [hf] at etk; exact Option.some.inj etk) hI hP1
  have en:next o u r=r.k (o.res u r.x) (o.upd u r.x):=by unfold next; rw [O.1]
  have S2:Dm p w kt (o.upd u r.x) (next o u r) s₂ ⟨kk (o.res u r.x),r.cd,pos,r.nj⟩:=by rw [en]; exact cont _ _ _ D2
  obtain ⟨zz,r',s',t',x',P',hF,go3,S3,X3,hK,hP3,K3,N3,Q3⟩:=ih u r.x G2 S2 (H2 u G2) hJ hP2
  have z1:=go.size
  have z2:s₁.heap.objs.size≤s₂.heap.objs.size:=Go.size (.head Cn go2)
  have N2':∀ q∈P₂,q.1∈P.map (·.1)∨s.heap.objs.size≤q.1:=fun q m=>(N2 q m).imp id (fun h=>Nat.le_trans z1 h)
  refine ⟨zz,r',s',t',x',P',hF,go.trans (.head Cn (go2.trans go3)),S3,(X.trans X2).trans X3,hK,hP3,?_,?_,fun a m=>Q3 a (Q2 a m)⟩
  ·refine Ad.trans (P₁:=P₂) ?_ N2' K3
   refine Ad.ext ?_ X3
   refine Ad.trans (P₁:=P) (Ad.of (K.ext X2)) (fun q m=>.inl (List.mem_map_of_mem m)) K2
  ·intro q m
   rcases N3 q m with a | a
   ·obtain ⟨z,hz,e⟩:=List.mem_map.mp a
    rw [← e]; exact N2' z hz
   ·exact .inr (by lia)
 | @ph I l0 f fs O ch2 ih=>
  intro x r s t P S H hI hP
  obtain ⟨H1,H2⟩:=H
  generalize f l0=o at *
  obtain ⟨nt,hn,O⟩:=O
  have e0:=H1
  unfold Sn Sk j2 j4 j3 at e0
  rw [hn] at e0
  simp only [Prod.mk.injEq,Option.some.injEq] at e0
  have eu:∀ u,o.ok u r.x=true:=fun u=>(e0 u).2.2.2.2.2.2.1
  obtain ⟨e2,e1,eh,ec,ep,es,_,⟨ecur,evp⟩,_⟩:=e0 U0
  obtain ⟨X,s₁,go,D,K,cont⟩:=S.qq e1 e2
  have hP1:=hP.keep X K
  rw [ecur] at go
  obtain ⟨u,s₂,go2,D2,X2,K2,G2⟩:=O r.x s₁ r.cd r.pos r.nj (fun q hq=>by
   rw [hq] at evp
   simp only [Option.some.injEq,Prod.mk.injEq] at evp
   exact evp) eu ep D
  have hP2:=hP1.keep X2 K2
  have en:next o u r=r.kS (nt.Y r.x) (o.upd u r.x):=by unfold next; rw [hn]
  have S2:Dm p w kt (o.upd u r.x) (next o u r) s₂ ⟨nt.Y r.x,r.cd,r.pos,r.nj⟩:=by rw [en]; exact cont _ _ _ D2
  obtain ⟨zz,r',s',t',x',P',hF,go3,S3,X3,hK,hP3,K3,N3,Q3⟩:=ih u r.x G2 S2 (H2 u G2) hI hP2
  have z1:=go.size
  have z2:=go2.size
  refine ⟨zz,r',s',t',x',P',hF,go.trans (go2.trans go3),S3,(X.trans X2).trans X3,hK,hP3,?_,?_,Q3⟩
  ·refine Ad.trans (P₁:=P) ?_ (fun q m=>.inl (List.mem_map_of_mem m)) K3
   refine Ad.ext ?_ X3
   refine Ad.trans (P₁:=P) (Ad.of (K.ext X2)) (fun q m=>.inl (List.mem_map_of_mem m)) (Ad.of K2)
  ·intro q m
   exact (N3 q m).imp id (fun h=>by lia)
end
def Dv:(Nat→Data)→List Bool→List Data
 | _,[]=>[]
 | dt,true::fl=>eD (dt 0)::Dv (fun k=>dt (k+1)) fl
 | dt,false::fl=>Dv (fun k=>dt (k+1)) fl
noncomputable def FZ:List Bool→List Obj→List Data
 | true::fl,o::os=>o.data::FZ fl os
 | false::fl,_::os=>FZ fl os
 | _,_=>[]
theorem Gi:∀ {dt:Nat→Data} (fl:List Bool) (os:List Obj),fl.length.ble os.length=true→Za dt os fl→Dv dt fl=FZ fl os
 | _,[],[],_,_=>rfl
 | _,[],_::_,_,_=>rfl
 | _,true::fl,o::os,h,k=>Hl k.1 (Gi fl os h k.2)
 | _,false::fl,o::os,h,k=>Gi fl os h k
 | _,_::_,[],h,_=>by cases h
noncomputable def hD(B:Nat):Nat→Nat→List Nat
 | 0,_=>[]
 | k+1,n=>(bif Nat.beq (n % B) (B-1) then 1000000 else n % B)::hD B k (n / B)
noncomputable def Af(os:List AA):List (List U→AA):=os.map fun o q=>o
abbrev dU:=YR×(List Nat×Option End×List (Option (Nat×Obj))×List (Option Obj)×List Frame×Array GenState×Drawn×OsState)×List Nat
variable (w:World)(b b2:Bool)
noncomputable def ab(S:Spec)(fs:List (List U→AA))(us:List U)(as:List (Nat×Nat))(o5:List Nat)(fl:List Bool)(hs:List Nat)(c:Nat)(cs:List Nat)(ag n:Nat)(gens:Array GenState)(drawn:Drawn)(t:Nat)(os:OsState)(pos:Pos)(d:Nat→FD)(q0 q5:Nat→Nat)(q:Nat→Nat→Nat)(dt:Nat→Data):dU:=(fun pY r=>(Sm pY us r,LB (List.range S.pre.length) o5 (Ge pY us r),as.map fun p=>II o5 (Ge pY us r) p.1)) (F8 fs [] us) (run pw (wf w b b2) (A4 w.2) S.ss.length 100000 hs c cs ag ⟨Np S.pre.length (S.ad.zip (Ib q dt fl 0 S.pre)),S.pre.length,n,0,gens,drawn,t,0,os⟩ ⟨oS (dC q0 q5 S.C),dC q0 q5 S.C,pos,BH S.ss 0 d⟩)
noncomputable def aa(S:Spec)(Z:Spec)(fs:List (List U→AA))(us:List U)(as:List (Nat×Nat))(o5:List Nat)(fl:List Bool)(hs:List Nat)(c:Nat)(cs:List Nat)(ag n:Nat)(gens:Array GenState)(drawn:Drawn)(t:Nat)(os:OsState)(pos:Pos)(d:Nat→FD)(q0 q5:Nat→Nat)(q:Nat→Nat→Nat)(dt:Nat→Data):dU:=(fun pY r=>(Sl pY us r,KZ Z o5 (BH S.ss 0 d) gens drawn os (Ge pY us r),as.map (·.2))) (F8 fs [] us) (run pw (wf w b b2) (A4 w.2) S.ss.length 100000 hs c cs ag ⟨Np S.pre.length (S.ad.zip (Ib q dt fl 0 S.pre)),S.pre.length,n,0,gens,drawn,t,0,os⟩ ⟨oS (dC q0 q5 S.C),dC q0 q5 S.C,pos,BH S.ss 0 d⟩)
noncomputable def YZ(m:Nat)(u:Nat→U):List U:=(List.range m).map u
noncomputable def Mq(Sf:List Data→Spec)(fs:List Data→List (List U→AA))(m:Nat)(as:List Data→List U→List (Nat×Nat))(o5:List Nat)(fl:List Bool)(hs:List Nat)(c0:Nat)(cs:List Nat)(ag:Nat):Nat→Array GenState→Drawn→Nat→OsState→Pos→(Nat→FD)→(Nat→Nat)→(Nat→Nat)→(Nat→Nat→Nat)→(Nat→Data)→(Nat→U)→dU:=fun n gens drawn t os pos d q0 q5 q dt u=>ab w b b2 (Sf (Dv dt fl)) (fs (Dv dt fl)) (YZ m u) (as (Dv dt fl) (YZ m u).reverse) o5 fl hs c0 cs ag n gens drawn t os pos d q0 q5 q dt
noncomputable def Mp(Sf:List Data→Spec)(E:List Data→List U→Spec)(fs:List Data→List (List U→AA))(m:Nat)(as:List Data→List U→List (Nat×Nat))(o5:List Nat)(fl:List Bool)(hs:List Nat)(c0:Nat)(cs:List Nat)(ag:Nat):Nat→Array GenState→Drawn→Nat→OsState→Pos→(Nat→FD)→(Nat→Nat)→(Nat→Nat)→(Nat→Nat→Nat)→(Nat→Data)→(Nat→U)→dU:=fun n gens drawn t os pos d q0 q5 q dt u=>aa w b b2 (Sf (Dv dt fl)) (E (Dv dt fl) (YZ m u).reverse) (fs (Dv dt fl)) (YZ m u) (as (Dv dt fl) (YZ m u).reverse) o5 fl hs c0 cs ag n gens drawn t os pos d q0 q5 q dt
noncomputable def V8(w:World)(b2:Bool)(Sf:List Data→Spec)(fs:List Data→List (List U→AA))(m:Nat)(as:List Data→List U→List (Nat×Nat))(o5:List Nat)(fl:List Bool)(hs:List Nat)(c0:Nat)(cs:List Nat)(ag:Nat):=(Mq w false b2 Sf fs m as o5 fl hs c0 cs ag,Mq w true b2 Sf fs m as o5 fl hs c0 cs ag)
noncomputable def V7(w:World)(b2:Bool)(Sf:List Data→Spec)(E:List Data→List U→Spec)(fs:List Data→List (List U→AA))(m:Nat)(as:List Data→List U→List (Nat×Nat))(o5:List Nat)(fl:List Bool)(hs:List Nat)(c0:Nat)(cs:List Nat)(ag:Nat):=(Mp w false b2 Sf E fs m as o5 fl hs c0 cs ag,Mp w true b2 Sf E fs m as o5 fl hs c0 cs ag)
noncomputable def lj(w:World)(Sf:List Data→Spec)(fs:List Data→List (List U→AA))(m:Nat)(as:List Data→List U→List (Nat×Nat))(o5:List Nat)(fl:List Bool)(hs:Bool→List Nat)(c0:Bool→Nat)(cs:Bool→List Nat)(ag:Nat):=(V8 w false Sf fs m as o5 fl (hs false) (c0 false) (cs false) ag,V8 w true Sf fs m as o5 fl (hs true) (c0 true) (cs true) ag)
noncomputable def lb(w:World)(Sf:List Data→Spec)(E:List Data→List U→Spec)(fs:List Data→List (List U→AA))(m:Nat)(as:List Data→List U→List (Nat×Nat))(o5:List Nat)(fl:List Bool)(hs:Bool→List Nat)(c0:Bool→Nat)(cs:Bool→List Nat)(ag:Nat):=(V7 w false Sf E fs m as o5 fl (hs false) (c0 false) (cs false) ag,V7 w true Sf E fs m as o5 fl (hs true) (c0 true) (cs true) ag)
structure Cs(κ:Type) where
 c:κ
 l:List κ
 h:c∈l
@[reducible] def Cs.bb (b:Bool):Cs Bool:=⟨b,[false,true],by cases b<;>simp⟩
@[reducible] def Cs.oo {α:Type} (o:Option α) (d:α):Cs (Option α):=⟨o,[none,some (o.getD d)],by cases o<;>simp⟩
@[reducible] def Cs.pp {α β:Type} (x:Cs α) (y:Cs β):Cs (α×β):=⟨(x.c,y.c),x.l.flatMap fun a=>y.l.map (Prod.mk a),List.mem_flatMap.mpr ⟨_,x.h,List.mem_map_of_mem y.h⟩⟩
theorem Js{α:Type}[Inhabited α](l:List α):(List.range l.length).map (fun i=>l.getD i default)=l:=List.ext_getElem (by simp) fun i h1 h2=>by simp [h2]
theorem IW{α β κ:Type}[Inhabited α](ns:List Nat)(x:Cs κ){F G:List α→κ→β}(k:∀ f:Nat→α,(ns.flatMap fun n=>x.l.map (Prod.mk n)).map (fun z=>F ((List.range z.1).map f) z.2)=(ns.flatMap fun n=>x.l.map (Prod.mk n)).map fun z=>G ((List.range z.1).map f) z.2){l:List α}(h:l.length∈ns):F l x.c=G l x.c:=by
 have k:=List.map_inj_left.mp (k fun i=>l.getD i default) (l.length,x.c) (List.mem_flatMap.mpr ⟨_,h,List.mem_map_of_mem x.h⟩)
 rwa [show (List.range (l.length,x.c).1).map (fun i=>l.getD i default)=l from Js l] at k
noncomputable def lq{κ:Type}(L:List κ)(w:World)(b2:Bool)(Sf:κ→List Data→Spec)(fs:κ→List Data→List (List U→AA))(m:Nat)(as:κ→List Data→List U→List (Nat×Nat))(o5:κ→List Nat)(fl:List Bool)(hs:List Nat)(c0:Nat)(cs:List Nat)(ag:Nat):=L.map fun c=>V8 w b2 (Sf c) (fs c) m (as c) (o5 c) fl hs c0 cs ag
noncomputable def lh{κ:Type}(L:List κ)(w:World)(b2:Bool)(Sf:κ→List Data→Spec)(E:κ→List Data→List U→Spec)(fs:κ→List Data→List (List U→AA))(m:Nat)(as:κ→List Data→List U→List (Nat×Nat))(o5:κ→List Nat)(fl:List Bool)(hs:List Nat)(c0:Nat)(cs:List Nat)(ag:Nat):=L.map fun c=>V7 w b2 (Sf c) (E c) (fs c) m (as c) (o5 c) fl hs c0 cs ag
def H9{Z:Type}(F:Z→Spec)(φ:Z→(Nat→Nat)→Prop)(K:Z→Lp→Prop)(E:List U→Spec)(as:List U→List (Nat×Nat))(l:List U)(P:Lp):Prop:=∃ z,E l=F z∧K z P∧∀ A:Nat→Nat,(∀ p∈as l,A p.1=p.2)→φ z A
theorem NN{w:World}{b1 b2:Bool}{Sf:List Data→Spec}{E:List Data→List U→Spec}{fs:List Data→List (List U→AA)}{m:Nat}{as:List Data→List U→List (Nat×Nat)}{o5:List Nat}{fl:List Bool}{hs:List Nat}{c0:Nat}{cs:List Nat}{ag:Nat}{D:List Data}
  (look:Mq w b1 b2 Sf fs m as o5 fl hs c0 cs ag=Mp w b1 b2 Sf E fs m as o5 fl hs c0 cs ag) (hD:FZ fl (Sf D).pre=D) (hf:fl.length.ble (Sf D).pre.length=true) (hm:(fs D).length=m) (n:Nat) (gens:Array GenState) (drawn:Drawn) (t:Nat) (rx:OsState) (pc:Pos) (d:Nat→FD) {q:Nat→Nat→Nat} {dt:Nat→Data} {q0 q5:Nat→Nat} {os:List Obj} {c:Code} (rf:J1 dt fl 0 (Sf D).pre) (e0:dC q0 q5 (Sf D).C=c) (eq:Ib q dt fl 0 (Sf D).pre=os) :
  JW (fun l r=>LB (List.range (Sf D).pre.length) o5 r=KZ (E D l) o5 (BH (Sf D).ss 0 d) gens drawn rx r∧∀ p∈as D l,II o5 r p.1=p.2) (fs D) [] (run pw (wf w b1 b2) (A4 w.2) (Sf D).ss.length 100000 hs c0 cs ag ⟨Np (Sf D).pre.length ((Sf D).ad.zip os),(Sf D).pre.length,n,0,gens,drawn,t,0,rx⟩ ⟨oS c,c,pc,BH (Sf D).ss 0 d⟩):=by
 subst e0 eq
 refine G7 _ _ _ fun us hu=>?_
 have h:=congrFun (congrFun (congrFun (congrFun (congrFun (congrFun (congrFun (congrFun (congrFun (congrFun (congrFun (congrFun look n) gens) drawn) t) rx) pc) d) q0) q5) q) dt) (fun i=>us.getD i U0)
 unfold Mq Mp at h
 rw [(Gi (dt:=dt) fl (Sf D).pre hf rf).trans hD,show YZ m (fun i=>us.getD i U0)=us from (Ub us (hu.trans hm)).symm] at h
 rw [List.append_nil]
 exact ⟨congrArg Prod.fst h,congrArg (fun x=>x.2.1) h,List.map_inj_left.mp (congrArg (fun x=>x.2.2) h)⟩
theorem NP{Z:Type}{w:World}{b1 b2:Bool}(F:Z→Spec)(φ:Z→(Nat→Nat)→Prop)(Sf:List Data→Spec)(E:List Data→List U→Spec)(fs:List Data→List (List U→AA))(m:Nat)(as:List Data→List U→List (Nat×Nat))(o5:List Nat)(fl:List Bool)(hs:List Nat)(c0:Nat)(cs:List Nat)(ag:Nat)(D:List Data){I:Lp→Prop}{K0:Z→Lp→Prop}(ho:∀ E0:List U→Lp→Prop,(∀ l P,H9 F φ K0 (E D) (as D) l P→E0 l P)→Bv E0 pw (wf w b1 b2) (A4 w.2) I (fs D) [])
  (look:Mq w b1 b2 Sf fs m as o5 fl hs c0 cs ag=Mp w b1 b2 Sf E fs m as o5 fl hs c0 cs ag) (hD:FZ fl (Sf D).pre=D:=by rfl) (hf:fl.length.ble (Sf D).pre.length=true:=by rfl) (hm:(fs D).length=m:=by rfl)
  (hF:∀ z,(F z).ad=(Sf D).ad:=by exact fun y=>rfl) (hl:(Sf D).ad.length=(Sf D).pre.length:=by rfl) (hc:∀ z A,((F z).ch A).length=(Sf D).ad.length:=by exact fun y y=>rfl) (h2:(o5.all fun j=>Nat.ble (Sf D).pre.length j)=true:=by rfl) (h3:o5.Nodup:=by decide):Spec.nX F (fun z A P'=>φ z A∧K0 z P') (Sf D) (wf w b1 b2) (A3 (Sf D).ss) I:=by
 intro P hI c s pc nj L eL hC HL oq
 subst eL
 obtain ⟨os,pZ,own⟩:=IM (h:=s.heap) hl fun q m=>HL.own q (List.mem_append_left _ m)
 obtain ⟨D0,P0,sub0⟩:=Ki HL hl pZ own
 obtain ⟨q0,q5,e0⟩:=bV c
 rw [hC] at e0
 obtain ⟨q,dt,eq,rf⟩:=KO os fl
 rw [pZ] at eq rf
 obtain ⟨d,ed⟩:=G1 (ss:=(Sf D).ss) 0 oq
 obtain ⟨l1,r,s1,t1,x1,P1,⟨E1,EA⟩,go1,S1,X1,⟨z,ez,hO,hφ⟩,HP1,K1,N1,Q1⟩:=FJ (ho _ fun y y h=>h) (HG D0) (NN look hD hf hm s.heap.objs.size s.gens s.drawn s.toks s.os pc d rf e0 eq) hI P0
 rw [ez] at E1
 obtain ⟨e,s2,pM,go2,e2,D2,K2,X2,et,e6,e7,e8⟩:=Xl S1 E1
 have X:=X1.trans X2
 have KK:Ad r.x P s s2:=(K1.ext X2).trans N1 (Ad.of K2)
 rw [← C4] at go1
 refine ⟨e,s2,_,r.cd,pM,ed ▸ go1.trans go2,⟨z,II o5 r,P1,⟨hφ _ EA,hO⟩,Q1,e2,rfl⟩,PG et D2 (HP1.keep X2 K2) (List.nodup_append.mpr ⟨List.nodup_range,h3,fun a ha b hb e=>absurd (List.mem_range.mp ha) (Nat.not_lt.mpr (e ▸ Nat.le_of_ble_eq_true (List.all_eq_true.mp h2 b hb)))⟩),KK.1,e6,e7,e8,fun b o hb hn=>?_,fun q m=>?_⟩
 ·rw [List.map_append] at hn
  exact KK.2 b o hb (fun j o' g=>(X.bwd j b o' g).elim (fun ⟨_,g⟩=>hn (List.mem_append_left _ (sub0 _ _ _ g))) fun z=>absurd (Heap.lt_size hb) (Nat.not_lt.mpr z)) fun m=>hn (List.mem_append_right _ m)
 ·rw [List.map_append]
  rcases List.mem_append.mp m with m | m
  ·obtain ⟨j,_,o,g,_⟩:=Ht et m
   exact (X.bwd j _ o g).imp (fun ⟨_,g⟩=>List.mem_append_left _ (sub0 _ _ _ g)) id
  ·exact (N1 q m).imp (List.mem_append_right _) id
theorem Yb{Z:Type}{w:World}{b1 b2:Bool}(F:Z→Spec)(φ:Z→(Nat→Nat)→Prop)(Sf:List Data→Spec)(E:List Data→List U→Spec)(fs:List Data→List (List U→AA))(m:Nat)(as:List Data→List U→List (Nat×Nat))(o5:List Nat)(fl:List Bool)(hs:List Nat)(c0:Nat)(cs:List Nat)(ag:Nat)(D:List Data){I:Lp→Prop}{K0:Z→Lp→Prop}(ho:∀ E0:List U→Lp→Prop,(∀ l P,H9 F φ K0 (E D) (as D) l P→E0 l P)→Bv E0 pw (wf w b1 b2) (A4 w.2) I (fs D) [])
  (k:V8 w b2 Sf fs m as o5 fl hs c0 cs ag=V7 w b2 Sf E fs m as o5 fl hs c0 cs ag:=by kernel_rfl) (hD:FZ fl (Sf D).pre=D:=by rfl) (hf:fl.length.ble (Sf D).pre.length=true:=by rfl) (hm:(fs D).length=m:=by rfl)
  (hF:∀ z,(F z).ad=(Sf D).ad:=by exact fun q=>rfl) (hl:(Sf D).ad.length=(Sf D).pre.length:=by rfl) (hc:∀ z A,((F z).ch A).length=(Sf D).ad.length:=by exact fun q q=>rfl) (h2:(o5.all fun j=>Nat.ble (Sf D).pre.length j)=true:=by rfl) (h3:o5.Nodup:=by decide):Spec.nX F (fun z A P'=>φ z A∧K0 z P') (Sf D) (wf w b1 b2) (A3 (Sf D).ss) I:=
 NP F φ Sf E fs m as o5 fl hs c0 cs ag D ho (by cases b1; exact congrArg (·.1) k; exact congrArg (·.2) k) hD hf hm hF hl hc h2 h3
theorem eJ{Z:Type}{w:World}{b1 b2:Bool}(F:Z→Spec)(φ:Z→(Nat→Nat)→Prop)(Sf:List Data→Spec)(E:List Data→List U→Spec)(fs:List Data→List (List U→AA))(m:Nat)(as:List Data→List U→List (Nat×Nat))(o5:List Nat)(fl:List Bool)(hs:Bool→List Nat)(c0:Bool→Nat)(cs:Bool→List Nat)(ag:Nat)(D:List Data){I:Lp→Prop}{K0:Z→Lp→Prop}(ho:∀ E0:List U→Lp→Prop,(∀ l P,H9 F φ K0 (E D) (as D) l P→E0 l P)→Bv E0 pw (wf w b1 b2) (A4 w.2) I (fs D) [])
  (k:lj w Sf fs m as o5 fl hs c0 cs ag=lb w Sf E fs m as o5 fl hs c0 cs ag:=by kernel_rfl) (hD:FZ fl (Sf D).pre=D:=by rfl) (hf:fl.length.ble (Sf D).pre.length=true:=by rfl) (hm:(fs D).length=m:=by rfl)
  (hF:∀ z,(F z).ad=(Sf D).ad:=by exact fun q=>rfl) (hl:(Sf D).ad.length=(Sf D).pre.length:=by rfl) (hc:∀ z A,((F z).ch A).length=(Sf D).ad.length:=by exact fun q q=>rfl) (h2:(o5.all fun j=>Nat.ble (Sf D).pre.length j)=true:=by rfl) (h3:o5.Nodup:=by decide):Spec.nX F (fun z A P'=>φ z A∧K0 z P') (Sf D) (wf w b1 b2) (A3 (Sf D).ss) I:=
 NP F φ Sf E fs m as o5 fl (hs b2) (c0 b2) (cs b2) ag D ho (by cases b1<;>cases b2; exact congrArg (·.1.1) k; exact congrArg (·.2.1) k; exact congrArg (·.1.2) k; exact congrArg (·.2.2) k) hD hf hm hF hl hc h2 h3
theorem Spec.nX.zz{Z:Type}{F:Z→Spec}{φ:Z→(Nat→Nat)→Prop}{S:Spec}{w:World}{Sh:Pos→List Frame→Prop}{I O:Lp→Prop}(h:Spec.nX F (fun z A P'=>φ z A∧O P') S w Sh I):Spec.oC F φ S w Sh I O:=
 fun P hI=>(h P hI).nV (fun q e=>e) fun e L ⟨z,A,P',⟨a,b⟩,c,d,g⟩=>⟨z,A,P',a,b,c,d,g⟩
theorem Spec.nX.pp{S:Spec}{w:World}{Sh:Pos→List Frame→Prop}{I O:Lp→Prop}(h:Spec.nX (fun _:Unit=>S) (fun q q P'=>True∧O P') S w Sh I):S.nP w Sh I O:=
 fun P hI=>(h P hI).nV (fun q e=>e) fun e L ⟨z,A,P',⟨a,b⟩,c,d,g⟩=>⟨A,P',b,c,d,g⟩
theorem Bv.nh{E0:List U→Lp→Prop}{E:List U→Spec}{F:Spec}{O:Lp→Prop}{p:Program}{w:World}{kt:KT}{l:List U}(he:∀ l P,H9 (fun _:Unit=>F) (fun q q=>True) (fun q=>O) E (fun q=>[]) l P→E0 l P)(h:E l=F):Bv E0 p w kt O [] l:=.nil fun P hP=>he l P ⟨(),h,hP,fun q q=>trivial⟩
theorem Bv.all{E:List U→Lp→Prop}{p:Program}{w:World}{kt:KT}{I:Lp→Prop}:∀ {os:List AA},(∀ o∈os,o.Ok p w kt)→(∀ l,Bv E p w kt I [] l)→∀ l,Bv E p w kt I (Af os) l
 | [],_,he,l=>he l
 | o::os,h,he,l=>.cons ((h o (.head _)).pL I) fun u q q=>Bv.all (fun o m=>h o (.tail _ m)) he (u::l)
theorem Bv.q{E:List U→Lp→Prop}{p:Program}{w:World}{kt:KT}{I l}{f:List U→AA}{fs}(h:(f l).Ok p w kt)(k:∀ u x,(f l).good u x→Bv E p w kt I fs (u::l)):Bv E p w kt I (f::fs) l:=.cons (h.pL I) k
theorem Hz{Z:Type}{w:World}{b1 b2:Bool}{F:Z→Spec}{φ:Z→(Nat→Nat)→Prop}(Sf:List Data→Spec)(E:List Data→List U→Spec)(fs:List Data→List (List U→AA))(m:Nat)(as:List Data→List U→List (Nat×Nat))(o5:List Nat)(fl:List Bool)(hs:List Nat)(c0:Nat)(cs:List Nat)(ag:Nat)(D:List Data){I O:Lp→Prop}(ho:∀ E0:List U→Lp→Prop,(∀ l P,H9 F φ (fun q=>O) (E D) (as D) l P→E0 l P)→Bv E0 pw (wf w b1 b2) (A4 w.2) I (fs D) [])
  (k:V8 w b2 Sf fs m as o5 fl hs c0 cs ag=V7 w b2 Sf E fs m as o5 fl hs c0 cs ag:=by kernel_rfl) (hD:FZ fl (Sf D).pre=D:=by rfl) (hf:fl.length.ble (Sf D).pre.length=true:=by rfl) (hm:(fs D).length=m:=by rfl)
  (hF:∀ z,(F z).ad=(Sf D).ad:=by exact fun q=>rfl) (hl:(Sf D).ad.length=(Sf D).pre.length:=by rfl) (hc:∀ z A,((F z).ch A).length=(Sf D).ad.length:=by exact fun q q=>rfl) (h2:(o5.all fun j=>Nat.ble (Sf D).pre.length j)=true:=by rfl) (h3:o5.Nodup:=by decide):Spec.oC F φ (Sf D) (wf w b1 b2) (A3 (Sf D).ss) I O:=
 (Yb F φ Sf E fs m as o5 fl hs c0 cs ag D ho k hD hf hm hF hl hc h2 h3).zz
theorem B8{w:World}{b1 b2:Bool}(Sf:List Data→Spec)(E:List Data→List U→Spec)(fs:List Data→List (List U→AA))(m:Nat)(o5:List Nat)(fl:List Bool)(hs:List Nat)(c0:Nat)(cs:List Nat)(ag:Nat)(D:List Data){I O:Lp→Prop}(ho:∀ E0:List U→Lp→Prop,(∀ l P,H9 (fun _:Unit=>Sf D) (fun q q=>True) (fun q=>O) (E D) (fun q=>[]) l P→E0 l P)→Bv E0 pw (wf w b1 b2) (A4 w.2) I (fs D) [])
  (k:V8 w b2 Sf fs m (fun q q=>[]) o5 fl hs c0 cs ag=V7 w b2 Sf E fs m (fun q q=>[]) o5 fl hs c0 cs ag:=by kernel_rfl) (hD:FZ fl (Sf D).pre=D:=by rfl) (hf:fl.length.ble (Sf D).pre.length=true:=by rfl) (hm:(fs D).length=m:=by rfl)
  (hl:(Sf D).ad.length=(Sf D).pre.length:=by rfl) (hc:∀ A,((Sf D).ch A).length=(Sf D).ad.length:=by exact fun q=>rfl) (h2:(o5.all fun j=>Nat.ble (Sf D).pre.length j)=true:=by rfl) (h3:o5.Nodup:=by decide):(Sf D).nP (wf w b1 b2) (A3 (Sf D).ss) I O:=
 (Yb (fun _:Unit=>Sf D) (fun q q=>True) Sf E fs m (fun q q=>[]) o5 fl hs c0 cs ag D ho k hD hf hm (fun q=>rfl) hl (fun q=>hc) h2 h3).pp
theorem Cz{w:World}{b1 b2:Bool}(Sf:List Data→Spec)(E:List Data→List U→Spec)(fs:List Data→List (List U→AA))(m:Nat)(o5:List Nat)(fl:List Bool)(hs:Bool→List Nat)(c0:Bool→Nat)(cs:Bool→List Nat)(ag:Nat)(D:List Data){I O:Lp→Prop}(ho:∀ E0:List U→Lp→Prop,(∀ l P,H9 (fun _:Unit=>Sf D) (fun q q=>True) (fun q=>O) (E D) (fun q=>[]) l P→E0 l P)→Bv E0 pw (wf w b1 b2) (A4 w.2) I (fs D) [])
  (k:lj w Sf fs m (fun q q=>[]) o5 fl hs c0 cs ag=lb w Sf E fs m (fun q q=>[]) o5 fl hs c0 cs ag:=by kernel_rfl) (hD:FZ fl (Sf D).pre=D:=by rfl) (hf:fl.length.ble (Sf D).pre.length=true:=by rfl) (hm:(fs D).length=m:=by rfl)
  (hl:(Sf D).ad.length=(Sf D).pre.length:=by rfl) (hc:∀ A,((Sf D).ch A).length=(Sf D).ad.length:=by exact fun q=>rfl) (h2:(o5.all fun j=>Nat.ble (Sf D).pre.length j)=true:=by rfl) (h3:o5.Nodup:=by decide):(Sf D).nP (wf w b1 b2) (A3 (Sf D).ss) I O:=
 (eJ (fun _:Unit=>Sf D) (fun q q=>True) Sf E fs m (fun q q=>[]) o5 fl hs c0 cs ag D ho k hD hf hm (fun q=>rfl) hl (fun q=>hc) h2 h3).pp
theorem NO{κ:Type}{Z:Type}{w:World}{b1 b2:Bool}{F:Z→Spec}{φ:Z→(Nat→Nat)→Prop}(x:Cs κ)(Sf:κ→List Data→Spec)(E:κ→List Data→List U→Spec)(fs:κ→List Data→List (List U→AA))(m:Nat)(as:κ→List Data→List U→List (Nat×Nat))(o5:κ→List Nat)(fl:List Bool)(hs:List Nat)(c0:Nat)(cs:List Nat)(ag:Nat)(D:List Data){I O:Lp→Prop}(ho:∀ E0:List U→Lp→Prop,(∀ l P,H9 F φ (fun q=>O) (E x.c D) (as x.c D) l P→E0 l P)→Bv E0 pw (wf w b1 b2) (A4 w.2) I (fs x.c D) [])
  (k:lq x.l w b2 Sf fs m as o5 fl hs c0 cs ag=lh x.l w b2 Sf E fs m as o5 fl hs c0 cs ag:=by kernel_rfl) (hD:FZ fl (Sf x.c D).pre=D:=by rfl) (hf:fl.length.ble (Sf x.c D).pre.length=true:=by rfl) (hm:(fs x.c D).length=m:=by rfl)
  (hF:∀ z,(F z).ad=(Sf x.c D).ad:=by exact fun q=>rfl) (hl:(Sf x.c D).ad.length=(Sf x.c D).pre.length:=by rfl) (hc:∀ z A,((F z).ch A).length=(Sf x.c D).ad.length:=by exact fun q q=>rfl) (h2:((o5 x.c).all fun j=>Nat.ble (Sf x.c D).pre.length j)=true:=by rfl) (h3:(o5 x.c).Nodup:=by decide):Spec.oC F φ (Sf x.c D) (wf w b1 b2) (A3 (Sf x.c D).ss) I O:=
 Hz (Sf x.c) (E x.c) (fs x.c) m (as x.c) (o5 x.c) fl hs c0 cs ag D ho (List.map_inj_left.mp k _ x.h) hD hf hm hF hl hc h2 h3
theorem BZ{κ:Type}{w:World}{b1 b2:Bool}(x:Cs κ)(Sf:κ→List Data→Spec)(E:κ→List Data→List U→Spec)(fs:κ→List Data→List (List U→AA))(m:Nat)(o5:κ→List Nat)(fl:List Bool)(hs:List Nat)(c0:Nat)(cs:List Nat)(ag:Nat)(D:List Data){I O:Lp→Prop}(ho:∀ E0:List U→Lp→Prop,(∀ l P,H9 (fun _:Unit=>Sf x.c D) (fun q q=>True) (fun q=>O) (E x.c D) (fun q=>[]) l P→E0 l P)→Bv E0 pw (wf w b1 b2) (A4 w.2) I (fs x.c D) [])
  (k:lq x.l w b2 Sf fs m (fun q q q=>[]) o5 fl hs c0 cs ag=lh x.l w b2 Sf E fs m (fun q q q=>[]) o5 fl hs c0 cs ag:=by kernel_rfl) (hD:FZ fl (Sf x.c D).pre=D:=by rfl) (hf:fl.length.ble (Sf x.c D).pre.length=true:=by rfl) (hm:(fs x.c D).length=m:=by rfl)
  (hl:(Sf x.c D).ad.length=(Sf x.c D).pre.length:=by rfl) (hc:∀ A,((Sf x.c D).ch A).length=(Sf x.c D).ad.length:=by exact fun q=>rfl) (h2:((o5 x.c).all fun j=>Nat.ble (Sf x.c D).pre.length j)=true:=by rfl) (h3:(o5 x.c).Nodup:=by decide):(Sf x.c D).nP (wf w b1 b2) (A3 (Sf x.c D).ss) I O:=
 B8 (Sf x.c) (E x.c) (fs x.c) m (o5 x.c) fl hs c0 cs ag D ho (List.map_inj_left.mp k _ x.h) hD hf hm hl hc h2 h3
theorem BQ{w:World}{b1 b2:Bool}{S:Spec}(fs:List (List U→AA))(m:Nat)(o5:List Nat)(hs:List Nat)(c0:Nat)(cs:List Nat)(ag:Nat){I O:Lp→Prop}(ho:∀ E0:List U→Lp→Prop,(∀ l P,H9 (fun _:Unit=>S) (fun q q=>True) (fun q=>O) (fun q=>S) (fun q=>[]) l P→E0 l P)→Bv E0 pw (wf w b1 b2) (A4 w.2) I fs [])
  (k:V8 w b2 (fun q=>S) (fun q=>fs) m (fun q q=>[]) o5 [] hs c0 cs ag=V7 w b2 (fun q=>S) (fun q=>(fun q=>S)) (fun q=>fs) m (fun q q=>[]) o5 [] hs c0 cs ag:=by kernel_rfl) (hm:fs.length=m:=by rfl)
  (hl:S.ad.length=S.pre.length:=by rfl) (hc:∀ A,(S.ch A).length=S.ad.length:=by exact fun q=>rfl) (h2:(o5.all fun j=>Nat.ble S.pre.length j)=true:=by rfl) (h3:o5.Nodup:=by decide):S.nP (wf w b1 b2) (A3 S.ss) I O:=
 B8 (fun q=>S) (fun q=>(fun q=>S)) (fun q=>fs) m o5 [] hs c0 cs ag [] ho k (by cases S.pre<;>rfl) rfl hm hl hc h2 h3
end
theorem AI{ss:List Sh}:∀ p p' nj,A3 ss p nj→A3 ss p' nj:=fun q q q h=>h
theorem Spec.nP.seq{S1 S2:Spec}{w:World}{ss:List Sh}{I J O:Lp→Prop}{c:Code}(h1:S1.nP w (A3 ss) I J)(hf:∀ A,S1.fin A=.fin (.again c))(hq:B5 c=true)(hc:eC c=S2.C)(ha:S2.ad=S1.ad)(hp:∀ A,S1.ch A=S2.pre)(hn:∀ A,S1.nw A=[])
  (h2:S2.nP w (A3 ss) J O):(Spec.mk S1.C S1.ad S1.pre S1.ss S2.fin S2.ch S2.nw).nP w (A3 ss) I O:=by
 intro P hI
 refine Dn.again (p9:=fun c' L=>c'=c∧∃ P',J P'∧(∀ a∈P.map (·.1),a∈P'.map (·.1))∧L=S2.oH++P') AI ((h1 P hI).nV (fun L h=>h) ?_) ?_
 ·rintro e L ⟨A,P',hJ,sub,he,hL⟩
  refine .inl ⟨c,by rw [he,hf],hq,rfl,P',hJ,sub,?_⟩
  rw [hL]
  unfold Spec.o8 Spec.oH
  rw [hn,hp,ha]; simp
 ·intro c' cc s pc nj L ⟨ec,P',hJ,sub,hL⟩ hcc H hs
  subst ec
  obtain ⟨e,s',L',oI,pos',go,⟨A,P2,hO,sub2,he,qy⟩,H',F⟩:=h2 P' hJ cc s pc nj L hL (hcc.trans hc) H hs
  refine ⟨e,s',L',oI,pos',go,⟨A,P2,hO,fun a m=>sub2 a (sub a m),he,?_⟩,H',F⟩
  rw [qy]
  unfold Spec.o8
  rw [ha]
structure NF where
 j:Nat
 env:Nat→Env
def JS(x:SX):List NF→List Env→Value
 | q::_,_=>.ref (A2 x q.j)
 | [],env::_=>env.frame.elim .notImplemented .ref
 | [],[]=>.notImplemented
def Ly(x:SX):TT→List NF→List Env→TT
 | T,[],_=>T
 | T,q::fs,tl=>Ly x (T.set q.j (fun o=>{ o with slots:=Dd (q.env (A2 x q.j)) o (JS x fs tl) })) fs tl
noncomputable def isNone:Value→Bool
 | .none=>true
 | _=>false
def b9:Data→Bool
 | .fields vs=>isNone (vs.toList.getD 1 (.bool true))
 | _=>false
def Y7(x:SX)(j:Nat):Bool:=match x.T.get j with
 | some (_,o)=>b9 o.data
 | none=>false
noncomputable def Pm(b:Bool)(x:SX)(j:Nat):Bool:=match x.T.get j with
 | some (_,o)=>(o.slots.getD 3 none).isSome==b
 | none=>false
noncomputable def Iw(C:SX→Sem Unit→Sem Fin)(je:Nat)(env:SX→Env)(f:SX→Nat)(fs:List NF)(tl:SX→List Env)(jt:List Nat)(V:SX→List Vw)(ps:Pos)(ids:List String):AA where
 C:=fun z=>.builtin "" {}
 tr:=[]
 pre:=fun z=>[]
 ss:=fun z=>[]
 ok:=fun z x=>(Y7 x je&&(fs.all (fun q=>Pm false x q.j)&&jt.all (fun j=>Pm true x j)))&&(((Ly x x.T fs (tl x)).ins x.m (x.n+x.i) (CY .none (f x) (rawInt (f x)) ps ids false)).get x.m).isSome
 res:=fun z z=>.ok .next
 upd:=fun z x=>⟨((Ly x x.T fs (tl x)).ins x.m (x.n+x.i) (CY .none (f x) (rawInt (f x)) ps ids false)).set je (Obj.mapFields (·.setIfInBounds 1 (.ref (x.n+x.i)))),x.m+1,x.n,x.i+1,x.gens,x.drawn,x.t,x.ti,x.os⟩
 nt:=some ⟨fun x=>C x (Wj (.ref (A2 x je)) (env x)),fun x=>C x (.pure ()),some (V,ps)⟩
def Gy(x:SX)(fs:List NF):List Fm:=fs.map fun q=>(q.env (A2 x q.j),A2 x q.j,match x.T.get q.j with | some (_,o)=>o | none=>{ cls:=.none })
theorem UG(x:SX)(fs:List NF)(tl:List Env):Gp (Gy x fs) tl=JS x fs tl:=by
 cases fs with
 | nil=>cases tl<;>rfl
 | cons q fs=>rfl
theorem EZ{h:Heap}{a:Nat}{o:Obj}(e:h.get? a=some o):o.isFreed=false:=(Heap.get?_some_iff.mp e).2
theorem IX{kt:KT}{s:Shared}{x:SX}(D:Bd kt s x){i j:Nat}(hi:(x.T.get i).isSome=true)(hj:(x.T.get j).isSome=true)(h:i≠j):A2 x i≠A2 x j:=by
 obtain ⟨⟨a,o⟩,e⟩:=Option.isSome_iff_exists.mp hi
 obtain ⟨⟨a',o'⟩,e'⟩:=Option.isSome_iff_exists.mp hj
 rw [F3 e,F3 e']
 exact fun q=>h (D.apart _ _ _ _ _ e (q ▸ e'))
theorem YG{kt:KT}{s:Shared}{x:SX}(D:Bd kt s x){l:List Nat}(h:∀ j∈l,(x.T.get j).isSome=true)(nd:l.Nodup):(l.map (A2 x)).Nodup:=List.pairwise_map.mpr (nd.imp_of_mem fun {a b} ha hb n=>IX D (h _ ha) (h _ hb) n)
theorem L8{g:Array Value→Array Value}(o:Obj):(Obj.mapFields g o).isFreed=o.isFreed:=by
 obtain ⟨c,d,dt,sl⟩:=o; cases dt<;>rfl
inductive c6 (kt:KT) (s s':Shared) (x y:SX):Prop
 | mk (D:Bd kt s' y) (K:AP y s s') (X:Bz x y)
theorem Iu{kt:KT}{s:Shared}{T:TT}{m n i:Nat}{gens:Array GenState}{drawn:Drawn}{t ti:Nat}{os:OsState}(D:Bd kt s ⟨T,m,n,i,gens,drawn,t,ti,os⟩){o:Obj}(hf:o.isFreed=false)(ok:((T.ins m (n+i) o).get m).isSome=true){je ae:Nat}{oe:Obj}(he:T.get je=some (ae,oe)){g:Array Value→Array Value} :
  c6 kt s { s with heap:=(s.heap.push o).update ae (Obj.mapFields g) } ⟨T,m,n,i,gens,drawn,t,ti,os⟩ ⟨(T.ins m (n+i) o).set je (Obj.mapFields g),m+1,n,i+1,gens,drawn,t,ti,os⟩:=by
 obtain ⟨D2,K2,X2⟩:=HH D hf ok
 obtain ⟨o2,g2⟩:=X2.fwd je _ _ he
 obtain ⟨D3,K3,X3⟩:=CC (f:=Obj.mapFields g) D2 g2 (by rw [L8]; exact EZ (D2.own _ _ _ g2))
 exact ⟨D3,(K2.ext X3).trans K3,X2.trans X3⟩
theorem Uo{cd:Code}{ps:Pos}{nj:List Frame}{s:Shared}{env:Env}{f:Nat}{rd:List Fm}{tl:List Env}{ids:List String}{V:List Vw}(hv:Lm cd nj=V)(hf:env.frame=some f)(own:V.head?.bind (fun v=>v.2.1.bind (·.frame))=some f)(hl:ps.line≠0)(envs:(Gf V).dropWhile (·.frame != env.frame)=rd.map (·.1)++tl)(top:(rd.map (·.1)++tl).head?.bind (·.frame)=some f)(caller:V.any (fun v=>v.2.2==some "claim.caller")=true)(qo:Am f V=some ids)(size:¬ (EntryCells.make ids).length > sizeLine)(sE:∀ q∈rd,YW s.heap q)(nd:(rd.map (·.2.1)).Nodup)(tail:YP s.heap rd tl):F5 cd ps nj s env f rd tl ids:=by
 subst hv
 exact ⟨hf,own,hl,envs,top,caller,qo,size,sE,nd,tail⟩
theorem G8{kt:KT}(x:SX)(tl:List Env):∀ (fs:List NF) (s:Shared) (T:TT),Bd kt s ⟨T,x.m,x.n,x.i,x.gens,x.drawn,x.t,x.ti,x.os⟩→(∀ q∈fs,∃ o,T.get q.j=some (A2 x q.j,o))→(fs.map (·.j)).Nodup→
  Bd kt { s with heap:=Al s.heap (Gy x fs) tl } ⟨Ly x T fs tl,x.m,x.n,x.i,x.gens,x.drawn,x.t,x.ti,x.os⟩∧AP ⟨Ly x T fs tl,x.m,x.n,x.i,x.gens,x.drawn,x.t,x.ti,x.os⟩ s { s with heap:=Al s.heap (Gy x fs) tl }∧Bz ⟨T,x.m,x.n,x.i,x.gens,x.drawn,x.t,x.ti,x.os⟩ ⟨Ly x T fs tl,x.m,x.n,x.i,x.gens,x.drawn,x.t,x.ti,x.os⟩
 | [],s,T,D,_,_=>⟨D,AP.refl _ _,Bz.refl _⟩
 | q::fs,s,T,D,H,nd=>by
  obtain ⟨o,ho⟩:=H q (.head _)
  have nd':=List.nodup_cons.mp nd
  have hf:({ o with slots:=Dd (q.env (A2 x q.j)) o (JS x fs tl) }:Obj).isFreed=false:=by
   rw [Jo]
   exact EZ (D.own _ _ _ ho)
  obtain ⟨D',K',X'⟩:=CC (f:=fun o=>{ o with slots:=Dd (q.env (A2 x q.j)) o (JS x fs tl) }) D ho hf
  obtain ⟨D2,K2,X2⟩:=G8 x tl fs _ _ D' (fun q' sP=>by
   obtain ⟨o',qt⟩:=H q' (.tail _ sP)
   refine ⟨o',?_⟩
   rw [TT.get_set,if_neg (fun e=>nd'.1 (List.mem_map.mpr ⟨q',sP,e⟩))]
   exact qt) nd'.2
  have e:Al s.heap (Gy x (q::fs)) tl=Al (s.heap.update (A2 x q.j) (fun o=>{ o with slots:=Dd (q.env (A2 x q.j)) o (JS x fs tl) })) (Gy x fs) tl:=by
   show Al _ (Gy x fs) tl=_
   rw [← UG]; rfl
  rw [e]
  exact ⟨D2,(K'.ext X2).trans K2,X'.trans X2⟩
theorem GW{v:Value}(h:isNone v=true):v=.none:=by cases v<;>first | rfl | cases h
theorem PQ{d:Data}(h:b9 d=true):∃ vs,d=.fields vs∧vs[1]?=some .none:=by
 cases d with
 | fields vs=>
  have h:=GW h
  rw [List.getD_eq_getElem?_getD,Array.getElem?_toList] at h
  cases q:vs[1]? with
  | none=>rw [q] at h; cases h
  | some v=>rw [q] at h; exact ⟨_,rfl,q.trans (congrArg some h)⟩
 | _=>cases h
theorem Pn{x:SX}{j:Nat}(h:Y7 x j=true):∃ o vs,x.T.get j=some (A2 x j,o)∧o.data=.fields vs∧vs[1]?=some .none:=by
 unfold Y7 at h
 cases q:x.T.get j with
 | none=>rw [q] at h; cases h
 | some z=>
  rw [q] at h
  have ⟨vs,h1,h2⟩:=PQ h
  exact ⟨z.2,vs,by rw [F3 q],h1,h2⟩
theorem Ee{b:Bool}{x:SX}{j:Nat}(h:Pm b x j=true):∃ o,x.T.get j=some (A2 x j,o)∧(o.slots.getD 3 none).isSome=b:=by
 unfold Pm at h
 cases q:x.T.get j with
 | none=>rw [q] at h; cases h
 | some z=>
  rw [q] at h
  obtain ⟨a,o⟩:=z
  exact ⟨o,by simp [A2,q],by simpa using h⟩
theorem Dg{p:Program}{w:World}{kt:KT}{C:SX→Sem Unit→Sem Fin}{je:Nat}{env:SX→Env}{f:SX→Nat}{fs:List NF}{tl:SX→List Env}{jt:List Nat}{V:SX→List Vw}{ps:Pos}{ids:List String}
  (hC:∀ x,Hq (C x)) (hf:∀ x,(env x).frame=some (f x)) (hl:ps.line≠0) (own:∀ x,(V x).head?.bind (fun v=>v.2.1.bind (·.frame))=some (f x))
  (envs:∀ x,(Gf (V x)).dropWhile (·.frame != (env x).frame)=fs.map (fun q=>q.env (A2 x q.j))++tl x) (top:∀ x,(fs.map (fun q=>q.env (A2 x q.j))++tl x).head?.bind (·.frame)=some (f x))
  (caller:∀ x,(V x).any (fun v=>v.2.2==some "claim.caller")=true) (qo:∀ x,Am (f x) (V x)=some ids) (size:¬ (EntryCells.make ids).length > sizeLine)
  (fr:∀ x,∀ q∈fs,(q.env (A2 x q.j)).frame=some (A2 x q.j)∧(q.env (A2 x q.j)).scope.kind≠.module∧((q.env (A2 x q.j)).scope.isGenerator || (q.env (A2 x q.j)).scope.isCoroutine)=false)
  (nd:(je::fs.map (·.j)++jt).Nodup) (ht:∀ x,(tl x=[]∧jt=[])∨∃ j e l,jt=[j]∧tl x=e::l∧e.frame=some (A2 x j)) :
  (Iw C je env f fs tl jt V ps ids).qQ p w kt:=by
 refine ⟨_,rfl,?_⟩
 intro x s cd ps' nj hvp pD D
 obtain ⟨hv,hps⟩:=hvp _ rfl
 rw [show ps'=ps from hps]
 have ok:=pD U0
 simp only [Iw,Bool.and_eq_true,List.all_eq_true] at ok
 obtain ⟨⟨ok1,ok2,ok3⟩,ok4⟩:=ok
 obtain ⟨oe,vs,he,hd,h1⟩:=Pn ok1
 have hfs:∀ q∈fs,∃ o,x.T.get q.j=some (A2 x q.j,o)∧(o.slots.getD 3 none).isSome=false:=fun q hq=>Ee (ok2 q hq)
 have e1:(Gy x fs).map (·.1)=fs.map (fun q=>q.env (A2 x q.j)):=List.map_map
 have e2:(Gy x fs).map (·.2.1)=(fs.map (·.j)).map (A2 x):=by unfold Gy; rw [List.map_map,List.map_map]; rfl
 have ndj:=(List.nodup_append.mp (List.nodup_cons.mp nd).2).1
 have nd:=YG D (fun j m=>by
  rcases List.mem_cons.mp m with rfl | m
  ·rw [he]; rfl
  ·rcases List.mem_append.mp m with m | m
   ·obtain ⟨q,hq,rfl⟩:=List.mem_map.mp m
    obtain ⟨o,g,_⟩:=hfs q hq
    rw [g]; rfl
   ·obtain ⟨o,g,_⟩:=Ee (ok3 j m)
    rw [g]; rfl) nd
 rw [List.cons_append,List.map_cons,List.map_append,← e2] at nd
 have ⟨n1,nd⟩:=List.nodup_cons.mp nd
 have ⟨n2,_,n3⟩:=List.nodup_append.mp nd
 have N:F5 cd ps nj s (env x) (f x) (Gy x fs) (tl x) ids:=Uo hv (hf x) (own x) hl (e1 ▸ envs x) (e1 ▸ top x) (caller x) (qo x) size (fun q hq=>by
  obtain ⟨q0,hq0,rfl⟩:=List.mem_map.mp hq
  obtain ⟨o1,g1,g2⟩:=hfs q0 hq0
  obtain ⟨a,b,c⟩:=fr x q0 hq0
  have g:=D.own _ _ _ g1
  refine ⟨a,b,c,?_,?_,?_⟩<;>dsimp only<;>rw [g1]
  ·exact g
  ·exact g2
  ·exact EZ g) n2 (by
  rcases ht x with ⟨e,_⟩ | ⟨j,e,l,ej,et,ef⟩
  ·rw [e]; trivial
  ·rw [et]
   have mj:j∈jt:=by rw [ej]; exact .head _
   obtain ⟨o1,g1,g2⟩:=Ee (ok3 j mj)
   exact ⟨A2 x j,o1,ef,D.own _ _ _ g1,g2,fun m=>n3 _ m _ (List.mem_map_of_mem mj) rfl⟩)
 have go:=(OL N (D.own _ _ _ he) hd h1 fun m=>n1 (List.mem_append_left _ m)).go (p:=p) (w:=w) (hC x)
 obtain ⟨D1,K1,X1⟩:=G8 x (tl x) fs s x.T D (fun q hq=>let ⟨o,a,_⟩:=hfs q hq; ⟨o,a⟩) ndj
 obtain ⟨o2,g2⟩:=X1.fwd je _ _ he
 obtain ⟨D2,K2,X2⟩:=Iu (o:=CY .none (f x) (rawInt (f x)) ps ids false) (g:=(·.setIfInBounds 1 (.ref (x.n+x.i)))) D1 rfl ok4 g2
 rw [show s.heap.objs.size=x.n+x.i from D.size] at go
 refine ⟨U0,_,?_,D2,X1.trans X2,(K1.ext X2).trans K2,trivial⟩
 show Go p w s ⟨C x (Wj (.ref (A2 x je)) (env x)),cd,_,nj⟩ _ ⟨C x (.pure ()),cd,_,nj⟩
 rw [OP]
 exact go
noncomputable def Vv(k:List Nat)(X Y:SX→Sem Fin):AA where
 C:=fun q=>.builtin "" {}
 tr:=[]
 pre:=fun q=>[]
 ss:=fun q=>[]
 ok:=fun q x=>k.all (fun j=>(x.T.get j).isSome)
 res:=fun q q=>.ok .next
 upd:=fun q x=>x
 nt:=some ⟨X,Y,none⟩
theorem Kn{p:Program}{w:World}{kt:KT}{k:List Nat}{X Y:SX→Sem Fin}(h:∀ x s,Bd kt s x→(∀ j∈k,(x.T.get j).isSome=true)→X x=Y x):(Vv k X Y).qQ p w kt:=by
 refine ⟨_,rfl,?_⟩
 intro x s cd ps nj _ pD D
 have hk:∀ j∈k,(x.T.get j).isSome=true:=List.all_eq_true.mp (pD U0)
 refine ⟨U0,s,?_,D,Bz.refl _,AP.refl _ _,trivial⟩
 show Go p w s ⟨X x,cd,ps,nj⟩ s ⟨Y x,cd,ps,nj⟩
 rw [h x s D hk]
 exact .refl
section
variable{p:Program}{w:World}{kt:KT}
theorem VS{t:Nat}{items:Array Value}{ys:List Str}(x:Str)(u:Nat)(hi:PyProof.Rows.StrsAre items.toList ys) :
  Gs p w (fun s=>PyProof.Rows.IsTup s.heap t items) (.call (.builtin "tuple.__contains__") ⟨[.ref t,.str x u],[]⟩) (fun r=>r=.ok (.ret (.bool (ys.any (· == x))))):=
 D6 fun A s hs Q E hq=>wpAny_call_entry PyProof.Rows.slot_tuple_contains hs.typeIs PyProof.Rows.entry_tuple_contains (PyProof.Rows.tuple_contains_strs hs hi ⟨_,rfl,hq _ _ rfl (BK.refl _)⟩) (PyProof.Rows.args_tuple_contains _ _)
noncomputable def Iz(C:SX→Code)(tr:List Nat)(pre:SX→List (Option (Nat×Obj)))(res:Nat→SX→Result):AA:=⟨C,tr,pre,fun q=>[],fun q q=>true,fun u x=>res (u.n 0 2) x,fun u x=>x.grown (u.n 0 0) (u.n 0 1),fun q q=>True,none,none⟩
theorem Cm{C:SX→Code}{tr:List Nat}{pre:SX→List (Option (Nat×Obj))}{res:Nat→SX→Result}
  (h:∀ c x,eC c=C x→tr.map (fun j=>eP (x.T.get j))=pre x→Gs p w (fun s=>Bd kt s x) c (fun r=>∃ u,r=res u x)):(Iz C tr pre res).Ok p w kt:=by
 refine ⟨rfl,?_⟩
 intro c x s k g l cd pc rest hc hp _ _ D _
 obtain ⟨s',r,⟨u,rfl⟩,G,go⟩:=h c x hc hp s k g l cd pc rest D
 refine ⟨⟨fun q i=>if i=0 then s'.heap.objs.size else if i=1 then s'.toks else u,fun q=>.plain⟩,s',go,?_,?_,?_,trivial⟩
 ·exact D.grown G
 ·refine ⟨fun q q o h=>⟨o,h⟩,fun q q o h=>.inl ⟨o,h⟩,?_⟩
  show x.n+x.i≤s'.heap.objs.size+0
  rw [← D.size]; exact go.size
 ·exact ⟨G.life,fun b o hb q=>G.old b o hb⟩
theorem B0{X:SX}{m a:Nat}{O:Obj}(h:eP (X.T.get m)=some (a,O)):∃ o,X.T.get m=some (a,o)∧eO o=O:=by
 cases q:X.T.get m with
 | none=>rw [q] at h; cases h
 | some z=>
  rw [q] at h
  simp only [eP,Option.some.injEq,Prod.mk.injEq] at h
  exact ⟨z.2,by rw [← h.1],h.2⟩
noncomputable def du(ys:List Str)(n:Nat):Obj:={ cls:=.type "tuple",data:=.seq ⟨ys.map (fun y=>.str y 0)⟩ n }
theorem Fy:∀ {l:List Value} {ys:List Str},l.map eV=ys.map (fun y=>.str y 0)→PyProof.Rows.StrsAre l ys
 | [],[],_=>.nil
 | [],_::_,h=>by cases h
 | _::_,[],h=>by cases h
 | v::l,y::ys,h=>by
  simp only [List.map_cons,List.cons.injEq] at h
  obtain ⟨t,rfl⟩:=AM h.1
  exact .cons y t (Fy h.2)
theorem Xq{o:Obj}{c:Value}{vs:List Value}{n:Nat}(h:eO o = { cls:=c,data:=.seq ⟨vs⟩ n }):∃ xs,o.cls=c∧o.data=.seq xs n∧xs.toList.map eV=vs:=by
 obtain ⟨q,e⟩:=Bj o
 rw [h] at e
 subst e
 exact ⟨_,rfl,rfl,congrArg Va h⟩
def cV(m n:Nat)(ys:List Str)(x:Str)(v:Bool):AA:=Iz (fun X=>.call (.builtin "tuple.__contains__") ⟨[.ref (A2 X m),.str x 0],[]⟩) [m] (fun X=>[some (A2 X m,du ys n)]) (fun q q=>.ok (.ret (.bool v)))
theorem K6{m n:Nat}{ys:List Str}{x:Str}{v:Bool}(hv:ys.any (· == x)=v):(cV m n ys x v).Ok p w kt:=Cm fun c X hc hp=>by
 obtain ⟨ps,rfl,e⟩:=AZ hc
 obtain ⟨v1,v2,rfl,e1,e2⟩:=Bb e
 obtain rfl:=AD e1
 obtain ⟨t,rfl⟩:=AM e2
 obtain ⟨o,ho,ho2⟩:=B0 (List.cons.inj hp).1
 obtain ⟨xs,hc,hd,hx⟩:=Xq ho2
 intro s k g l cd pc rest D
 obtain ⟨s',r,hr,G,go⟩:=VS (p:=p) (w:=w) (t:=A2 X m) (items:=xs) x t (Fy hx) s k g l cd pc rest ⟨o,D.own _ _ _ ho,hc,n,hd⟩
 exact ⟨s',r,⟨0,by rw [hr,hv]⟩,G,go⟩
theorem LX{c:Code}{id:String}{vs:List Value}(h:eC c=.builtin id ⟨vs,[]⟩):∃ ps,c=.builtin id ⟨ps,[]⟩∧ps.map eV=vs:=by
 cases c with
 | builtin f' ar=>
  obtain ⟨ps,kw⟩:=ar
  obtain ⟨rfl,hh⟩:=Code.builtin.inj h
  obtain ⟨h1,h2⟩:=Args.mk.inj hh
  obtain rfl:=List.map_eq_nil_iff.mp h2
  exact ⟨ps,rfl,h1⟩
 | _=>cases h
theorem MI(x:Str)(t:Nat)(h:x.length < 2 ^ 62):Gs p w (fun q=>True) (.builtin "len" ⟨[.str x t],[]⟩) (JZ x.length):=
 Ej fun A s q Q E hq=>by
  refine wpAny_runValue (codeAny_builtin entry_len ?_)
  rw [Around.under_plainId plain_len _]
  exact wpAny_mono (wpAny_len_body (Q:=Q) (typeIs_str s x t) F.slot_str_len F.entry_str_len (F.args_str_len_1 _) (gives_str_len x t) (by lia) (by lia) (hq _ _ ⟨_,rfl⟩ B4))
   (fun fin s' h'=>by obtain ⟨r,rfl,hq⟩:=h'; exact hq) fun q q e=>e
def O6(x:Nat)(xs:List Nat):AA:=Iz (fun q=>.builtin "len" ⟨[.str ⟨⟨x::xs⟩⟩ 0],[]⟩) [] (fun q=>[]) (fun u q=>.ok (.ret (.int (Int.ofNat (Nat.succ xs.length)) u)))
theorem J3{x:Nat}{xs:List Nat}(h:xs.length+1 < 2 ^ 62):(O6 x xs).Ok p w kt:=Cm fun c X hc hp=>by
 obtain ⟨ps,rfl,e⟩:=LX hc
 obtain ⟨v,rfl,e1⟩:=E5 e
 obtain ⟨t,rfl⟩:=AM e1
 intro s k g l cd pc rest D
 obtain ⟨s',r,⟨u,hr⟩,G,go⟩:=MI (p:=p) (w:=w) ⟨⟨x::xs⟩⟩ t (by simpa [Str.length] using h) s k g l cd pc rest trivial
 exact ⟨s',r,⟨u,by rw [hr]; rfl⟩,G,go⟩
end
section
variable{p:Program}{w:World}{kt:KT}
theorem Bq{T:String}{name:Str}{id:String}{B:Builtin}{x:Str}{t:Nat}{rest:List Value}{m:Made}{R:Result→Prop}(slot:Slot T name id)(hT:∀ s:Shared,s.TypeIs (.str x t) T)(entry:entryFor table id=some B)(args:argsOk id ⟨.str x t::rest,[]⟩)(g:Gives (B ⟨.str x t::rest,[]⟩) m)
  (h:∀ (s:Shared) (Q:Value→Shared→Prop),(∀ v s',R (.ok (.ret v))→BK s s'→Q v s')→m.post Q s):CT p w (.call (.builtin id) ⟨.str x t::rest,[]⟩) R:=
 Iv fun A s Q E hq=>PySem.call_givesAt slot (hT s) entry args (Gives.at (P:=fun q=>True) g) trivial (h s Q hq)
theorem Qm(x y:Str)(t u:Nat):CT p w (.call (.builtin "str.__eq__") ⟨[.str x t,.str y u],[]⟩) (BU (x.cps.toList==y.cps.toList)):=
 Bq F.slot_str_eq (fun s=>typeIs_str s x t) F.entry_str_eq (F.args_str_eq_2 _ _) (gives_str_eq x y t u) (fun s Q hq=>hq _ _ rfl (BK.refl s))
theorem Ql(x y:Str)(t u:Nat):CT p w (.call (.builtin "str.__ne__") ⟨[.str x t,.str y u],[]⟩) (BU (x.cps.toList != y.cps.toList)):=
 Bq F.slot_str_ne (fun s=>typeIs_str s x t) F.entry_str_ne (F.args_str_ne_2 _ _) (gives_str_ne x y t u) (fun s Q hq=>hq _ _ rfl (BK.refl s))
theorem NG(a b:List Nat)(t u:Nat)(h:a.length+b.length≤sizeLine):CT p w (.call (.builtin "str.__add__") ⟨[.str ⟨⟨a⟩⟩ t,.str ⟨⟨b⟩⟩ u],[]⟩) (Cf ⟨⟨a++b⟩⟩):=by
 refine Bq F.slot_str_add (fun s=>typeIs_str s _ t) F.entry_str_add (F.args_str_add_2 _ _) (gives_str_add ⟨⟨a⟩⟩ ⟨⟨b⟩⟩ t u) (fun s Q hq=>?_)
 have e:(⟨⟨a⟩⟩++⟨⟨b⟩⟩:Str)=⟨⟨a++b⟩⟩:=by
  show Str.mk (_++_)=_
  simp
 cases a with
 | nil=>exact hq _ _ ⟨u,rfl⟩ (BK.refl s)
 | cons x a=>
  cases b with
  | nil=>exact hq _ _ ⟨t,by rw [List.append_nil]⟩ (BK.refl s)
  | cons y b=>
   rw [e]
   exact ⟨by show (x::a++y::b).length≤sizeLine; rw [List.length_append]; exact h,hq _ _ ⟨_,rfl⟩ B4⟩
theorem Qn(a:List Nat)(i c:Nat)(t u:Nat)(h:a[i]?=some c)(hs:a.length≤sizeLine):CT p w (.call (.builtin "str.__getitem__") ⟨[.str ⟨⟨a⟩⟩ t,.int i u],[]⟩) (Cf ⟨⟨[c]⟩⟩):=by
 have hi:i < a.length:=(List.getElem?_eq_some_iff.mp h).1
 have big:sizeLine < 2 ^ 62:=by decide
 refine Bq F.slot_str_getitem (fun s=>typeIs_str s _ t) F.entry_str_getitem (F.args_str_getitem_2 _ _) (gives_str_getitem ⟨⟨a⟩⟩ i t u c ?_ ?_) (fun s Q hq=>⟨(by show 1≤sizeLine; decide),hq _ _ ⟨_,rfl⟩ B4⟩)
 ·simp only [Bool.or_eq_false_iff,decide_eq_false_iff_not]
  lia
 ·have:seqIndex? (i:Int) (Str.length ⟨⟨a⟩⟩)=some i:=by
   unfold seqIndex?
   have hl:(Str.length ⟨⟨a⟩⟩)=a.length:=rfl
   rw [hl]
   simp only [show ¬ ((i:Int) < 0) from by lia,if_false]
   first
    | (rw [if_pos (by lia)]; simp; done)
    | (rw [if_neg (by lia)]; simp; done)
    | (simp; lia)
  rw [this]
  simpa using h
def ID(x y:Str)(v:Bool):AA:=Gz (.call (.builtin "str.__eq__") ⟨[.str x 0,.str y 0],[]⟩) fun q=>.ok (.ret (.bool v))
theorem Pc{c:Code}{id:String}{x y:Str}(h:eC c=.call (.builtin id) ⟨[.str x 0,.str y 0],[]⟩):∃ t u,c=.call (.builtin id) ⟨[.str x t,.str y u],[]⟩:=by
 obtain ⟨ps,rfl,e⟩:=AZ h
 obtain ⟨v,v2,rfl,e1,e2⟩:=Bb e
 obtain ⟨t,rfl⟩:=AM e1
 obtain ⟨u,rfl⟩:=AM e2
 exact ⟨t,u,rfl⟩
theorem CP{x y:Str}{v:Bool}(h:(x.cps.toList==y.cps.toList)=v):(ID x y v).Ok p w kt:=C0 fun c hc=>by
 obtain ⟨t,u,rfl⟩:=Pc hc
 intro s k g l cd pc rest
 obtain ⟨s',res,e,G,go⟩:=Qm (p:=p) (w:=w) x y t u s k g l cd pc rest
 exact ⟨s',res,⟨0,by rw [e,h]⟩,G,go⟩
def O0(x y:Str)(v:Bool):AA:=Gz (.call (.builtin "str.__ne__") ⟨[.str x 0,.str y 0],[]⟩) fun q=>.ok (.ret (.bool v))
theorem Fj{x y:Str}{v:Bool}(h:(x.cps.toList != y.cps.toList)=v):(O0 x y v).Ok p w kt:=C0 fun c hc=>by
 obtain ⟨t,u,rfl⟩:=Pc hc
 intro s k g l cd pc rest
 obtain ⟨s',res,e,G,go⟩:=Ql (p:=p) (w:=w) x y t u s k g l cd pc rest
 exact ⟨s',res,⟨0,by rw [e,h]⟩,G,go⟩
def HU(a b r:List Nat):AA:=Gz (.call (.builtin "str.__add__") ⟨[.str ⟨⟨a⟩⟩ 0,.str ⟨⟨b⟩⟩ 0],[]⟩) fun u=>.ok (.ret (.str ⟨⟨r⟩⟩ u))
theorem DC{a b r:List Nat}(h:a.length+b.length≤sizeLine)(hr:a++b=r):(HU a b r).Ok p w kt:=C0 fun c hc=>by
 obtain ⟨t,u,rfl⟩:=Pc hc
 rw [← hr]
 exact NG a b t u h
def ET(a:List Nat)(i c:Nat):AA:=Gz (.call (.builtin "str.__getitem__") ⟨[.str ⟨⟨a⟩⟩ 0,.int i 0],[]⟩) fun u=>.ok (.ret (.str ⟨⟨[c]⟩⟩ u))
theorem BG{a:List Nat}{i c:Nat}(h:a[i]?=some c)(hs:a.length≤sizeLine):(ET a i c).Ok p w kt:=C0 fun cc hc=>by
 obtain ⟨ps,rfl,e⟩:=AZ hc
 obtain ⟨v,v2,rfl,e1,e2⟩:=Bb e
 obtain ⟨t,rfl⟩:=AM e1
 obtain ⟨u,rfl⟩:=E8 e2
 exact Qn a i c t u h hs
theorem Ji(x:Str)(t a:Nat)(j:Nat)(tj:Nat)(h2:j < x.length)(h3:x.length≤sizeLine) :
  Gs p w (fun s=>s.heap.IsSlice a none (some ((j:Int),tj)) none) (.call (.builtin "str.__getitem__") ⟨[.str x t,.ref a],[]⟩) (Cf ⟨⟨x.cps.toList.take j⟩⟩):=by
 refine D6 fun A s hs Q E hq=>?_
 refine call_meets (T:="str") PySem.F.slot_str_getitem (typeIs_str s x t) PySem.F.entry_str_getitem (PySem.F.args_str_getitem_2 _ _) (meets_str_getitem_slice x t a none (some ((j:Int),tj)) none rfl) ⟨hs,?_⟩
 have pk:slicePicked x none (some ((j:Int),tj)) none=List.range j:=by
  unfold slicePicked Builtin.Str.strSliceIndices
  simp only [Option.map_some,Option.map_none,Option.getD_none]
  have e2:¬ ((j:Int) < 0):=by lia
  simp only [e2,if_false,show ((1:Int) > 0) from by decide,if_true]
  have m2:max 0 (min (j:Int) (x.length:Int))=(j:Int):=by lia
  rw [m2]
  unfold sliceRange
  simp only [show ((1:Int) > 0) from by decide,if_true]
  have c:(if (0:Int) < (j:Int) then ((j:Int)-0+1-1) / 1 else 0).toNat=j:=by
   split<;>lia
  rw [c]
  conv=>rhs; rw [← List.map_id (List.range j)]
  apply List.map_congr_left
  intro k _
  simp
 have ln:(slicePicked x none (some ((j:Int),tj)) none).length=j:=by rw [pk]; simp
 have fm:(slicePicked x none (some ((j:Int),tj)) none).filterMap (x.cps[·]?)=x.cps.toList.take j:=by
  rw [pk]
  obtain ⟨⟨l⟩⟩:=x
  have h2':j < l.length:=h2
  simp only [List.getElem?_toArray]
  clear pk ln h3 hs hq h2
  induction j with
  | zero=>simp
  | succ d ih=>
   rw [List.range_succ,List.filterMap_append,ih (by lia)]
   have lt:d < l.length:=by lia
   simp only [List.filterMap_cons,List.filterMap_nil,List.getElem?_eq_getElem lt]
   rw [List.take_add_one,List.getElem?_eq_getElem lt]; rfl
 unfold sliceMade
 rw [ln,fm]
 have ne:((j==x.length)=false):=by simp; lia
 rw [ne,Bool.and_false]
 refine ⟨?_,hq _ _ ⟨_,rfl⟩ B4⟩
 show (x.cps.toList.take j).length≤sizeLine
 rw [List.length_take]
 lia
theorem MU{o:Obj}{j:Int}(h:eO o = { cls:=.type "slice",data:=.fields #[.none,.int j 0,.none] }):∃ tj,o.cls=.type "slice"∧o.data=.fields #[.none,.int j tj,.none]:=by
 obtain ⟨q,e⟩:=Bj o
 rw [h] at e
 subst e
 exact ⟨_,rfl,rfl⟩
def Um(x:Str)(m j:Nat)(r:List Nat):AA:=Iz (fun X=>.call (.builtin "str.__getitem__") ⟨[.str x 0,.ref (A2 X m)],[]⟩) [m] (fun X=>[some (A2 X m,{ cls:=.type "slice",data:=.fields #[.none,.int j 0,.none] })]) (fun u q=>.ok (.ret (.str ⟨⟨r⟩⟩ u)))
theorem OH{x:Str}{m j:Nat}{r:List Nat}(h2:j < x.length)(h3:x.length≤sizeLine)(hr:x.cps.toList.take j=r):(Um x m j r).Ok p w kt:=Cm fun c X hc hp=>by
 obtain ⟨ps,rfl,e⟩:=AZ hc
 obtain ⟨v,v2,rfl,e1,e2⟩:=Bb e
 obtain ⟨t,rfl⟩:=AM e1
 obtain rfl:=AD e2
 obtain ⟨o,ho,ho2⟩:=B0 (List.cons.inj hp).1
 obtain ⟨tj,oO,hdt⟩:=MU ho2
 intro s k g l cd pc rest D
 rw [← hr]
 exact Ji (p:=p) (w:=w) x t (A2 X m) j tj h2 h3 s k g l cd pc rest ⟨o,D.own _ _ _ ho,oO,hdt⟩
def Un(x:Str)(m i j:Nat)(r:List Nat):AA:=Iz (fun X=>.call (.builtin "str.__getitem__") ⟨[.str x 0,.ref (A2 X m)],[]⟩) [m] (fun X=>[some (A2 X m,{ cls:=.type "slice",data:=.fields #[.int i 0,.int j 0,.none] })]) (fun u q=>.ok (.ret (.str ⟨⟨r⟩⟩ u)))
theorem OI{x:Str}{m i j:Nat}{r:List Nat}(h1:i≤j)(h2:j≤x.length)(h3:x.length≤sizeLine)(h4:j-i < x.length)(hr:(x.cps.toList.drop i).take (j-i)=r):(Un x m i j r).Ok p w kt:=Cm fun c X hc hp=>by
 obtain ⟨ps,rfl,e⟩:=AZ hc
 obtain ⟨v,v2,rfl,e1,e2⟩:=Bb e
 obtain ⟨t,rfl⟩:=AM e1
 obtain rfl:=AD e2
 obtain ⟨o,ho,ho2⟩:=B0 (List.cons.inj hp).1
 obtain ⟨ti,tj,oO,hdt⟩:=JJ ho2
 intro s k g l cd pc rest D
 rw [← hr]
 exact HC (p:=p) (w:=w) x t (A2 X m) i j ti tj h1 h2 h3 h4 s k g l cd pc rest ⟨o,D.own _ _ _ ho,oO,hdt⟩
end
end
section
open PySem PySem.W PySem.W.X PySem.Builtin.Str
theorem KQ{w:World}{f:Value}{as:List Value}{Pre:Lp→Prop}{ni:End→Lp→Prop}
  (h:∀ (vs:List Value) (A:Around) (s:Shared) (L:Lp),Pre L→vs.map eV=as→BX (A4 w.2) s L→∀ (Q E:Value→Shared→Prop),(∀ v s' L',ni (.fin (.done (.ret (eV v)))) L'→BX (A4 w.2) s' L'→Fr s s' L L'→Q v s')→wpAny (model pw w) A (call f vs) Q E s):Dn w Il (.call f ⟨as,[]⟩) Pre ni:=by
 intro c s pc nj L hp hc H hs
 obtain ⟨vs,rfl,e⟩:=AZ hc
 obtain ⟨k,g,l,cd,rest,rfl⟩:=hs
 exact C' (c:=.call f ⟨vs,[]⟩) (h vs (UI cd rest) s L hp e H (fun v s'=>∃ L',ni (.fin (.done (.ret (eV v)))) L'∧BX (A4 w.2) s' L'∧Fr s s' L L') (fun q q=>False) fun v s' L' a b c=>⟨L',a,b,c⟩) (fun v s' _ _ ⟨L',a,b,c⟩ go=>⟨.fin (.done (.ret v)),s',L',_,_,go,a,b,c⟩) (fun q q q q h=>h.elim)
theorem Bm{kt:KT}{s:Shared}{a:Nat}{o o':Obj}{F:Lp}{f:Obj→Obj}{tk:Nat}(H:BX kt s ((a,eO o)::F))(ho:s.heap.get? a=some o)(hf:f o=o')(hl:o'.isFreed=false) :
  BX kt { s with heap:=s.heap.update a f,toks:=tk } ((a,eO o')::F)∧Fr s { s with heap:=s.heap.update a f,toks:=tk } ((a,eO o)::F) ((a,eO o')::F):=by
 have hs:Heap.SameBut a s.heap (s.heap.update a f):=Heap.SameBut.update ..
 have hself:(s.heap.update a f).get? a=some o':=by
  rw [← hf] at hl ⊢
  exact Heap.get?_update_self f ho hl
 have nd:=H.nd
 rw [List.map_cons,List.nodup_cons] at nd
 have ne:∀ q∈F,q.1≠a:=fun q m e=>nd.1 (List.mem_map.mpr ⟨q,m,e⟩)
 refine ⟨⟨fun b ob h=>?_,fun q m=>?_,H.nd,fun q m=>?_⟩,?_,rfl,rfl,rfl,fun b ob h n=>?_,fun q m=>?_⟩
 ·have:b≠a:=fun e=>by
   have:=H.off (a,eO o) (.head _)
   dsimp only at this
   rw [← e,h] at this; cases this
  exact (hs.2 b this).trans (H.top b ob h)
 ·rcases List.mem_cons.mp m with rfl | m
  ·exact ⟨o',hself,rfl⟩
  ·obtain ⟨ob,h1,h2⟩:=H.own q (.tail _ m)
   exact ⟨ob,(hs.2 _ (ne q m)).trans h1,h2⟩
 ·rcases List.mem_cons.mp m with rfl | m
  ·exact H.off (a,eO o) (.head _)
  ·exact H.off q (.tail _ m)
 ·cases s with | mk h=>cases h; rfl
 ·exact (hs.2 b (fun e=>n (by rw [e]; exact .head _))).trans h
 ·rcases List.mem_cons.mp m with rfl | m
  ·exact .inl (.head _)
  ·exact .inl (.tail _ (List.mem_map_of_mem m))
theorem BX.find{kt:KT}{s:Shared}{a:Nat}{O:Obj}{F:Lp}(H:BX kt s ((a,O)::F)):∃ o,s.heap.get? a=some o∧eO o=O:=H.own (a,O) (.head _)
def MF(vs:List Value)(n:Nat):Obj:={ cls:=.type "list",data:=.seq ⟨vs⟩ n }
theorem IQ{o:Obj}{vs:List Value}{n:Nat}(h:eO o=MF vs n):∃ xs:Array Value,o = { cls:=.type "list",dict:=none,data:=.seq xs n,slots:=#[] }∧xs.toList.map eV=vs:=by
 obtain ⟨q,e⟩:=Bj o
 rw [h] at e
 subst e
 exact ⟨_,rfl,congrArg Va h⟩
def k8(a:Nat)(vs:List Value)(n:Nat)(v:Value):Spec:=⟨.call (.builtin "list.append") ⟨[.ref a,v],[]⟩,[a],[MF vs n],[],fun q=>.fin (.done (.ret .none)),fun q=>[MF (vs++[v]) (n+1)],fun q=>[]⟩
theorem Pt(w:World)(a:Nat)(vs:List Value)(n:Nat)(v:Value)(hs:vs.length≤sizeLine)(I:Lp→Prop):(k8 a vs n v).nP w Il I I:=by
 intro P hI
 refine KQ fun as A s L hL ha H Q E hq=>?_
 subst hL
 obtain ⟨x,y,rfl,e1,e2⟩:=Bb ha
 obtain rfl:=AD e1
 have H':BX (A4 w.2) s ((a,MF vs n)::P):=H
 obtain ⟨o,ho,hO⟩:=H'.find
 obtain ⟨xs,rfl,hx⟩:=IQ hO
 have hsz:xs.size≤sizeLine:=by
  have:=congrArg List.length hx
  simp only [List.length_map,Array.length_toList] at this
  lia
 refine call_meets F.slot_list_append ⟨_,ho,rfl⟩ F.entry_list_append (F.args_list_append_2 _ _) (PySem.list_append a xs n y hsz) ⟨ho,?_⟩
 rw [← hO] at H'
 have U:=Bm (f:=Obj.mapSeq (·.push y)) (tk:=s.toks) H' ho rfl rfl
 refine hq _ _ _ ⟨fun q=>0,P,hI,fun q m=>m,rfl,?_⟩ U.1 ?_
 ·show _=(a,MF (vs++[v]) (n+1))::P
  congr 2
  simp [eO,eD,MF,Obj.mapSeq,← hx,e2]
 ·rw [hO] at U; exact U.2
noncomputable def A0(D:Data):Obj:={ cls:=.type "list",data:=D }
def br(a:Nat)(D D':Data)(v:Value):Spec:=⟨.call (.builtin "list.append") ⟨[.ref a,v],[]⟩,[a],[A0 D],[],fun q=>.fin (.done (.ret .none)),fun q=>[A0 D'],fun q=>[]⟩
theorem Pu(w:World)(a:Nat)(D D':Data)(v:Value)(vs:List Value)(n:Nat)(hD:D=.seq ⟨vs⟩ n)(pF:D'=.seq ⟨vs++[v]⟩ (n+1))(hs:vs.length≤sizeLine)(I:Lp→Prop):(br a D D' v).nP w Il I I:=by
 subst hD pF
 exact Pt w a vs n v hs I
theorem Hy{k:Result→Sem Fin}{g:Bool}{l:List Value}{cd:Code}{pc:Pos}{rest:List Frame}:Il pc (Frame.ret k none g l cd pc []::rest):=⟨k,g,l,cd,rest,rfl⟩
def CV(m:Nat)(D D':Data)(v:Value):AA:=B6 (fun q=>[]) [m] [true] [] (fun x=>br (A2 x m) D D' v)
theorem Ab{w:World}{m:Nat}{D D':Data}{v:Value}{vs:List Value}{n:Nat}{I:Lp→Prop}(hD:D=.seq ⟨vs⟩ n)(pF:D'=.seq ⟨vs++[v]⟩ (n+1))(hs:vs.length≤sizeLine):(CV m D D' v).oB pw w (A4 w.2) I I:=
 AF (w:=w) (Sf:=fun q=>Il) (fun x=>Pu w (A2 x m) D D' v vs n hD pF hs I) (fun q q q q q q q q=>Hy) (by simp) (fun q=>⟨rfl,rfl,fun q=>rfl⟩) (fun q q=>rfl)
def Ul(sep:Str)(m:Nat)(D:Data)(r:List Nat):AA:=Iz (fun X=>.call (.builtin "str.join") ⟨[.str sep 0,.ref (A2 X m)],[]⟩) [m] (fun X=>[some (A2 X m,A0 D)]) (fun u q=>.ok (.ret (.str ⟨⟨r⟩⟩ u)))
theorem Ka:∀ {l:List Value} {ys:List Str},l.map eV=ys.map (fun y=>.str y 0)→∃ z:List (Str×Tok),l=strValues z∧z.map (·.1)=ys
 | [],[],_=>⟨[],rfl,rfl⟩
 | [],_::_,h=>by cases h
 | _::_,[],h=>by cases h
 | v::l,y::ys,h=>by
  simp only [List.map_cons,List.cons.injEq] at h
  obtain ⟨t,rfl⟩:=AM h.1
  obtain ⟨z,rfl,hz⟩:=Ka h.2
  exact ⟨(y,t)::z,rfl,by simp [hz]⟩
theorem OA{p:Program}{w:World}{kt:KT}{sep:Str}{m:Nat}{D:Data}{r:List Nat}{ys:List Str}{n:Nat}(hD:D=.seq ⟨ys.map (fun y=>.str y 0)⟩ n)(hr:glued sep ys=⟨⟨r⟩⟩)(hl:tooLong (ys.toArray.foldl (· + ·.length+sep.length) 0)=false)(hs:r.length≤sizeLine):(Ul sep m D r).Ok p w kt:=Cm fun c X hc hp=>by
 subst hD
 obtain ⟨ps,rfl,e⟩:=AZ hc
 obtain ⟨v1,v2,rfl,e1,e2⟩:=Bb e
 obtain ⟨t,rfl⟩:=AM e1
 obtain rfl:=AD e2
 obtain ⟨o,ho,ho2⟩:=B0 (List.cons.inj hp).1
 obtain ⟨xs,rfl,hx⟩:=IQ ho2
 obtain ⟨z,hz,hz2⟩:=Ka hx
 refine D6 (Pre:=fun s=>Bd kt s X) fun A s D Q E hq=>?_
 have il:s.heap.IsList (A2 X m) (strValues z).toArray:=⟨_,D.own _ _ _ ho,rfl,n,by rw [← hz]⟩
 refine call_meets F.slot_str_join (typeIs_str s sep t) F.entry_str_join (F.args_str_join_2 _ _) (meets_str_join_list sep t (A2 X m) z (by rw [hz2]; exact hl)) ⟨il,?_⟩
 have key:∀ w:List (Str×Tok),w.map (·.1)=ys→(joinMade sep w).post (fun v s'=>wants Q E (.ok (.ret v)) s') s:=by
  intro w hw
  subst hw
  cases w with
  | nil=>exact ⟨by show (glued sep []).length≤sizeLine; have hr':glued sep []=⟨⟨r⟩⟩:=hr; rw [hr']; exact hs,hq _ _ ⟨s.toks,by have hr':glued sep []=⟨⟨r⟩⟩:=hr; rw [← hr']; rfl⟩ B4⟩
  | cons a w=>
   cases w with
   | nil=>
    have e1:glued sep ([a].map (·.1))=a.1:=by simp [glued]
    refine hq _ _ ⟨a.2,?_⟩ (BK.refl s)
    rw [← hr,e1]
   | cons b w=>exact ⟨by show (glued sep ((a::b::w).map (·.1))).length≤sizeLine; rw [hr]; exact hs,hq _ _ ⟨s.toks,by rw [← hr]⟩ B4⟩
 exact key z hz2
end
section
open PySem PySem.W PySem.W.X
noncomputable def Ag(aE:Nat):Obj:={ cls:=.ref 749,dict:=some aE }
noncomputable def kE(P:Params)(k:String)(v:Value):DictEntry:=⟨PyData.keyHash P (Str.ofString k),.str (Str.ofString k) 0,v⟩
def Ah(P:Params)(buf:Str)(pos:Int):Obj:={ cls:=.type "dict",data:=.dict #[kE P "_StringIO__newline" (.str (Str.ofString "\n") 0),kE P "_StringIO__buf" (.str buf 0),kE P "_StringIO__pos" (.int pos 0)] 3 }
noncomputable def Bk:List Sh:=[.whil,.func,.func,.func,.bi "list.extend.loop" 1,.bi "type.__call__" 2,.func,.func,.func,.bi "claim.caller" 0]
theorem Gn:sizeLine < 2 ^ 62:=by decide
def f5(P:Params)(aS aE:Nat)(buf:Str)(p:Nat):Spec:=⟨.call (.ref 695) ⟨[.ref aS,.int 1 0],[]⟩,[aS,aE],[Ag aE,Ah P buf p],Bk,fun A=>.fin (.done (.ret (.str ⟨⟨(buf.cps.toList.drop p).take (p+1-p)⟩⟩ 0))),fun A=>[Ag aE,Ah P buf ((p+1:Nat):Int)],fun A=>[]⟩
variable (w:World)(b b2:Bool)
theorem RH(aS aE:Nat)(buf:Str)(p:Nat)(h1:p+1 < buf.length)(h2:buf.length≤sizeLine)(I:Lp→Prop):(f5 w.2 aS aE buf p).nP (wf w b b2) (A3 (Bk)) (I) (I):=by
 refine BQ (Af [K5 1 (-1099511627776) false,MA buf,Mn p buf.length false,Mn 1 0 true,K5 ((p+1:Nat):Int) buf.length true,Wa buf 5 p (p+1)]) 6 [] (hD 7 193 6297034956924342951471495979227528174898693975249835483473885889199957999505161978983689949068552519105084736046500462163979651893265915565622931785412277764986706) 7 [4,0,0,1,3] 1 (fun E0 ke=>?_)
 exact .q (Ba rfl) fun z z z=>.q (EP (by have:=Gn; lia)) fun z z z=>.q (CE (decide_eq_false (by lia))) fun z z z=>.q (CE rfl) fun z z z=>.q (Ba (decide_eq_true (by lia))) fun z z z=>.q (L4 (by lia) (by lia) h2 (by lia)) fun z z z=>.nh ke rfl
def f6(P:Params)(aS aE:Nat)(buf:Str)(p:Nat):Spec:=⟨.call (.ref 695) ⟨[.ref aS,.int 1 0],[]⟩,[aS,aE],[Ag aE,Ah P buf p],Bk,fun A=>.fin (.done (.ret (.str ⟨⟨(buf.cps.toList.drop p).take (buf.length-p)⟩⟩ 0))),fun A=>[Ag aE,Ah P buf buf.length],fun A=>[]⟩
theorem RI(aS aE:Nat)(buf:Str)(p:Nat)(h0:0 < p)(h1:p+1=buf.length)(h2:buf.length≤sizeLine)(I:Lp→Prop):(f6 w.2 aS aE buf p).nP (wf w b b2) (A3 (Bk)) (I) (I):=by
 refine BQ (Af [K5 1 (-1099511627776) false,MA buf,Mn p buf.length false,Mn 1 0 true,K5 ((p+1:Nat):Int) buf.length false,Wa buf 5 p buf.length]) 6 [] (hD 7 189 2622671785474528509567470212089766003706244887650802629595828358105681081875881028861248073182369259916621086147565989159867878514876430538341824519407892866306) 7 [4,0,0,1,2] 1 (fun E0 ke=>?_)
 exact .q (Ba rfl) fun z z z=>.q (EP (by have:=Gn; lia)) fun z z z=>.q (CE (decide_eq_false (by lia))) fun z z z=>.q (CE rfl) fun z z z=>.q (Ba (decide_eq_false (by lia))) fun z z z=>.q (L4 (by lia) (by lia) h2 (by lia)) fun z z z=>.nh ke rfl
def km(P:Params)(aS aE:Nat)(buf:Str)(p:Nat):Spec:=⟨.call (.ref 695) ⟨[.ref aS,.int 1 0],[]⟩,[aS,aE],[Ag aE,Ah P buf p],Bk,fun A=>.fin (.done (.ret (.str ⟨⟨[]⟩⟩ 0))),fun A=>[Ag aE,Ah P buf p],fun A=>[]⟩
theorem RJ(aS aE:Nat)(buf:Str)(p:Nat)(h1:buf.length≤p)(h2:buf.length≤sizeLine)(I:Lp→Prop):(km w.2 aS aE buf p).nP (wf w b b2) (A3 (Bk)) (I) (I):=by
 refine BQ (Af [K5 1 (-1099511627776) false,MA buf,Mn p buf.length true]) 3 [] (hD 7 135 612532426680738863864109267629138651346179471725538993279263866413631616873185422754735834310419474688217552855894) 7 [4,0] 1 (fun E0 ke=>?_)
 exact .q (Ba rfl) fun z z z=>.q (EP (by have:=Gn; lia)) fun z z z=>.q (CE (decide_eq_true (by lia))) fun z z z=>.nh ke rfl
def rd(P:Params)(aS aE:Nat)(buf:Str)(p c:Nat):Spec:=⟨.call (.ref 695) ⟨[.ref aS,.int 1 0],[]⟩,[aS,aE],[Ag aE,Ah P buf p],Bk,fun q=>.fin (.done (.ret (.str ⟨⟨[c]⟩⟩ 0))),fun q=>[Ag aE,Ah P buf ((p+1:Nat):Int)],fun q=>[]⟩
theorem Vm(aS aE:Nat)(buf:Str)(p c:Nat)(h:buf.cps.toList[p]?=some c)(h1:2≤buf.length)(h2:buf.length≤sizeLine)(I:Lp→Prop):(rd w.2 aS aE buf p c).nP (wf w b b2) (A3 Bk) I I:=by
 obtain ⟨lt,e⟩:=List.getElem?_eq_some_iff.mp h
 have lt':p < buf.length:=by simpa [Str.length] using lt
 have cut:(buf.cps.toList.drop p).take 1=[c]:=by
  rw [List.drop_eq_getElem_cons lt,List.take_succ_cons,List.take_zero,e]
 by_cases q:p+1 < buf.length
 ·have t:=RH w b b2 aS aE buf p q h2 I
  have:f5 w.2 aS aE buf p=rd w.2 aS aE buf p c:=by
   unfold f5 rd
   rw [show p+1-p=1 by lia,cut]
  rw [this] at t; exact t
 ·have t:=RI w b b2 aS aE buf p (by lia) (by lia) h2 I
  have:f6 w.2 aS aE buf p=rd w.2 aS aE buf p c:=by
   unfold f6 rd
   rw [show buf.length=p+1 by lia,show p+1-p=1 by lia,cut]
  rw [this] at t; exact t
noncomputable def Cd(f:FuncData):List Stmt:=match f.body with
 | .stmts b=>b
 | _=>[]
noncomputable def bE(a:Nat)(f:FuncData)(qual:String)(fr:Nat):Env:={ scope:=f.scope,locals:=fr,globals:=f.globals,cells:=[],qual:=Str.ofString qual,func:=some a,code:=f.code,frame:=some fr,builtins:=f.builtins }
noncomputable def kU(st:Stmt)(env:Env):Code:=match st with
 | .While t b o _=>.whileLoop t b o env
 | _=>.builtin "" {}
def lU:FuncData:=fd (HY 32 6) "shlex.read_token" .none (vs "cpy313.shlex" 1318) (.ref 851)
def Bx(fr:Nat):Code:=kU ((Cd lU).getD 2 (.Pass default)) (bE 852 lU "shlex.read_token.<locals>." fr)
noncomputable def sv(s:String):Value:=.str (Str.ofString s) 0
noncomputable def Av(aD:Nat):Obj:={ cls:=.ref 884,dict:=some aD }
noncomputable def cu(es:List DictEntry)(n:Nat):Obj:={ cls:=.type "frame",data:=.dict ⟨es⟩ n }
def Ax(P:Params)(aS aP aQ:Nat)(st:Value)(tok:Str):Obj:={ cls:=.type "dict",data:=.dict #[kE P "instream" (.ref aS),kE P "infile" .none,kE P "posix" (.bool true),kE P "eof" .none,kE P "commenters" (sv ""),kE P "wordchars" (sv "abcdfeghijklmnopqrstuvwxyzABCDEFGHIJKLMNOPQRSTUVWXYZ0123456789_ßàáâãäåæçèéêëìíîïðñòóôõöøùúûüýþÿÀÁÂÃÄÅÆÇÈÉÊËÌÍÎÏÐÑÒÓÔÕÖØÙÚÛÜÝÞ"),kE P "whitespace" (sv " \t\r\n"),kE P "whitespace_split" (.bool true),kE P "quotes" (sv "'\""),kE P "escape" (sv "\\"),kE P "escapedquotes" (sv "\""),kE P "state" st,kE P "pushback" (.ref aP),kE P "lineno" (.int 1 0),kE P "debug" (.int 0 0),kE P "token" (.str tok 0),kE P "filestack" (.ref aQ),kE P "source" .none,kE P "_punctuation_chars" (sv "")] 19 }
def Xc(P:Params)(aL:Nat)(q:Bool):Obj:=cu [kE P "self" (.ref aL),kE P "quoted" (.bool q),kE P "escapedstate" (sv " ")] 3
def A6(P:Params)(aL:Nat)(q:Bool)(c:List Nat):Obj:=cu [kE P "self" (.ref aL),kE P "quoted" (.bool q),kE P "escapedstate" (sv " "),kE P "nextchar" (.str ⟨⟨c⟩⟩ 0)] 4
def FO:List Sh:=Bk.tail
noncomputable def cv(c:Nat):Value:=.str ⟨⟨[c]⟩⟩ 0
def W0(P:Params)(aS aE:Nat)(buf:Str)(p c:Nat):AA:=Ck Bk [3,4] [] [] (fun q=>rd P aS aE buf p c)
variable{w b b2}
theorem Eo{aS aE:Nat}{buf:Str}{p c:Nat}{I:Lp→Prop}(h:buf.cps.toList[p]?=some c)(h1:2≤buf.length)(h2:buf.length≤sizeLine):(W0 w.2 aS aE buf p c).oB pw (wf w b b2) (A4 w.2) I I:=
 An (w:=wf w b b2) (Sf:=A3 Bk) (fun q=>Vm w b b2 aS aE buf p c h h1 h2 I) (fun q q q q q q h=>h.resolve_left (by intro h; cases h)) (by decide) (fun q=>⟨rfl,rfl,fun q=>rfl⟩) (fun q q=>rfl)
def V'(P:Params)(aS aE:Nat)(buf:Str)(p:Nat):AA:=Ck Bk [3,4] [] [] (fun q=>km P aS aE buf p)
theorem Kt{aS aE:Nat}{buf:Str}{p:Nat}{I:Lp→Prop}(h:buf.length≤p)(h2:buf.length≤sizeLine):(V' w.2 aS aE buf p).oB pw (wf w b b2) (A4 w.2) I I:=
 An (w:=wf w b b2) (Sf:=A3 Bk) (fun q=>RJ w b b2 aS aE buf p h h2 I) (fun q q q q q q h=>h.resolve_left (by intro h; cases h)) (by decide) (fun q=>⟨rfl,rfl,fun q=>rfl⟩) (fun q q=>rfl)
def a7(x y:Nat)(a b:List Nat):AA:=Gz (.call (.builtin "str.__add__") ⟨[.str ⟨⟨x::a⟩⟩ 0,.str ⟨⟨y::b⟩⟩ 0],[]⟩) fun u=>.ok (.ret (.str ⟨⟨x::a++y::b⟩⟩ u))
theorem SN{p:Program}{w:World}{kt:KT}{x y:Nat}{a b:List Nat}(h:a.length+b.length+2≤sizeLine):(a7 x y a b).Ok p w kt:=C0 fun c hc=>by
 obtain ⟨ps,rfl,e⟩:=AZ hc
 obtain ⟨v,v2,rfl,e1,e2⟩:=Bb e
 obtain ⟨t,rfl⟩:=AM e1
 obtain ⟨u,rfl⟩:=AM e2
 exact Qo x y a b t u h
def mV(P:Params)(fr aL aD aS aE:Nat)(aP aQ:Nat)(buf:Str)(p:Nat)(x:Nat)(xs:List Nat)(k:Nat):Spec:=⟨Bx fr,[fr,aL,aD,aS,aE],[Xc P aL false,Av aD,Ax P aS aP aQ (cv 32) ⟨⟨[]⟩⟩,Ag aE,Ah P buf p],FO,fun A=>.fin (.again (Bx fr)),fun A=>[A6 P aL false [39],Av aD,Ax P aS aP aQ (cv 39) ⟨⟨[]⟩⟩,Ag aE,Ah P buf ((p+1:Nat):Int)],fun A=>[]⟩
variable(w b b2)
theorem R6(fr aL aD aS aE:Nat)(aP aQ:Nat)(buf:Str)(p:Nat)(x:Nat)(xs:List Nat)(k:Nat)(h:buf.cps.toList[p]?=some 39)(h1:2≤buf.length)(h2:buf.length≤sizeLine)(h3:xs.length+2≤sizeLine)(I:Lp→Prop):(mV w.2 fr aL aD aS aE aP aQ buf p x xs k).nP (wf w b b2) (A3 (FO)) (I) (I):=by
 refine BQ (Af [W0 w.2 aS aE buf p 39]) 1 [] (hD 9 264 311527861991185198977156209577930087405027702558958115545686799219119246435815695827892788321028413960430343921144873585911974336044687737410306019579995455932900031861758434823823194022030990198345885190870119194197714747592680699811726227325350975535) 6 [] 0 (fun E0 ke=>?_)
 exact .cons (Eo h h1 h2) fun q q q=>.nh ke rfl
def mU(P:Params)(fr aL aD aS aE:Nat)(aP aQ:Nat)(buf:Str)(p:Nat)(x:Nat)(xs:List Nat)(k:Nat):Spec:=⟨Bx fr,[fr,aL,aD,aS,aE],[A6 P aL false [k],Av aD,Ax P aS aP aQ (cv 39) ⟨⟨[]⟩⟩,Ag aE,Ah P buf p],FO,fun A=>.fin (.again (Bx fr)),fun A=>[A6 P aL true [34],Av aD,Ax P aS aP aQ (cv 39) ⟨⟨[34]⟩⟩,Ag aE,Ah P buf ((p+1:Nat):Int)],fun A=>[]⟩
theorem R5(fr aL aD aS aE:Nat)(aP aQ:Nat)(buf:Str)(p:Nat)(x:Nat)(xs:List Nat)(k:Nat)(h:buf.cps.toList[p]?=some 34)(h1:2≤buf.length)(h2:buf.length≤sizeLine)(h3:xs.length+2≤sizeLine)(I:Lp→Prop):(mU w.2 fr aL aD aS aE aP aQ buf p x xs k).nP (wf w b b2) (A3 (FO)) (I) (I):=by
 refine BQ (Af [W0 w.2 aS aE buf p 34]) 1 [] (hD 8 214 7807164897575052420931497880579379922296011520778726532805666362244131142582261678540632965304783703398071147267850044712185356635618940777599738752568624345752751716167444626835993891763716113) 6 [] 0 (fun E0 ke=>?_)
 exact .cons (Eo h h1 h2) fun q q q=>.nh ke rfl
def mT(P:Params)(fr aL aD aS aE:Nat)(aP aQ:Nat)(buf:Str)(p:Nat)(x:Nat)(xs:List Nat)(k:Nat)(s c:Nat):Spec:=⟨Bx fr,[fr,aL,aD,aS,aE],[A6 P aL true [k],Av aD,Ax P aS aP aQ (cv s) ⟨⟨x::xs⟩⟩,Ag aE,Ah P buf p],FO,fun A=>.fin (.again (Bx fr)),fun A=>[A6 P aL true [c],Av aD,Ax P aS aP aQ (cv s) ⟨⟨x::xs++[c]⟩⟩,Ag aE,Ah P buf ((p+1:Nat):Int)],fun A=>[]⟩
theorem Kf(fr aL aD aS aE:Nat)(aP aQ:Nat)(buf:Str)(p:Nat)(x:Nat)(xs:List Nat)(k:Nat)(s c:Nat)(rO:(s=39∧(c=97∨c=98∨c=99∨c=100∨c=101∨c=34∨c=32))∨(s=34∧c=39))(h:buf.cps.toList[p]?=some c)(h1:2≤buf.length)(h2:buf.length≤sizeLine)(h3:xs.length+2≤sizeLine)(I:Lp→Prop):(mT w.2 fr aL aD aS aE aP aQ buf p x xs k s c).nP (wf w b b2) (A3 (FO)) (I) (I):=by
 refine BQ (Af [W0 w.2 aS aE buf p c,a7 x c xs []]) 2 [] (hD 8 214 7807164897575052420931497880579379922296011520778726532805666362244131142582261678540632965304783703398071147267850044712185356635618940777599738752568624345752751716167444626835993891763716113) 6 [17] 0 (fun E0 ke=>?_) (by rcases rO with ⟨rfl,rfl | rfl | rfl | rfl | rfl | rfl | rfl⟩ | ⟨rfl,rfl⟩<;>kernel_rfl)
 exact .cons (Eo h h1 h2) fun z z z=>.q (SN (by simpa using h3)) fun z z z=>.nh ke rfl
def mS(P:Params)(fr aL aD aS aE:Nat)(aP aQ:Nat)(buf:Str)(p:Nat)(x:Nat)(xs:List Nat)(k:Nat)(c:Nat):Spec:=⟨Bx fr,[fr,aL,aD,aS,aE],[A6 P aL true [k],Av aD,Ax P aS aP aQ (cv c) ⟨⟨x::xs⟩⟩,Ag aE,Ah P buf p],FO,fun A=>.fin (.again (Bx fr)),fun A=>[A6 P aL true [c],Av aD,Ax P aS aP aQ (cv 97) ⟨⟨x::xs⟩⟩,Ag aE,Ah P buf ((p+1:Nat):Int)],fun A=>[]⟩
theorem Ke(fr aL aD aS aE:Nat)(aP aQ:Nat)(buf:Str)(p:Nat)(x:Nat)(xs:List Nat)(k:Nat)(c:Nat)(rO:c=39∨c=34)(h:buf.cps.toList[p]?=some c)(h1:2≤buf.length)(h2:buf.length≤sizeLine)(h3:xs.length+2≤sizeLine)(I:Lp→Prop):(mS w.2 fr aL aD aS aE aP aQ buf p x xs k c).nP (wf w b b2) (A3 (FO)) (I) (I):=by
 refine BQ (Af [W0 w.2 aS aE buf p c]) 1 [] (hD 8 187 3228967721139313714060904429940285760693265787666966498856412312346664069591084127426973829535298494167581994215675585159204215392714944881530178674836928397264788979729) 6 [] 0 (fun E0 ke=>?_) (by rcases rO with rfl | rfl<;>kernel_rfl)
 exact .cons (Eo h h1 h2) fun q q q=>.nh ke rfl
def mQ(P:Params)(fr aL aD aS aE:Nat)(aP aQ:Nat)(buf:Str)(p:Nat)(x:Nat)(xs:List Nat)(k:Nat)(c:Nat):Spec:=⟨Bx fr,[fr,aL,aD,aS,aE],[A6 P aL true [k],Av aD,Ax P aS aP aQ (cv 97) ⟨⟨x::xs⟩⟩,Ag aE,Ah P buf p],FO,fun A=>.fin (.again (Bx fr)),fun A=>[A6 P aL true [c],Av aD,Ax P aS aP aQ (cv c) ⟨⟨x::xs⟩⟩,Ag aE,Ah P buf ((p+1:Nat):Int)],fun A=>[]⟩
theorem Kd(fr aL aD aS aE:Nat)(aP aQ:Nat)(buf:Str)(p:Nat)(x:Nat)(xs:List Nat)(k:Nat)(c:Nat)(rO:c=39∨c=34)(h:buf.cps.toList[p]?=some c)(h1:2≤buf.length)(h2:buf.length≤sizeLine)(h3:xs.length+2≤sizeLine)(I:Lp→Prop):(mQ w.2 fr aL aD aS aE aP aQ buf p x xs k c).nP (wf w b b2) (A3 (FO)) (I) (I):=by
 refine BQ (Af [W0 w.2 aS aE buf p c,cV 6 0 [⟨⟨[97]⟩⟩,⟨⟨[99]⟩⟩] ⟨⟨[97]⟩⟩ true]) 2 [] (hD 9 268 2043934302524166090489121891040500664079410739804532658128937598447154834895446719738592534804062445619130887716562964016721294025316533868489991722507102536264622477025935246385385130032027427586842102225808260350532287448461492397746224619254867120615713) 6 [13] 0 (fun E0 ke=>?_) (by rcases rO with rfl | rfl<;>kernel_rfl)
 exact .cons (Eo h h1 h2) fun z z z=>.q (K6 rfl) fun z z z=>.nh ke rfl
def mM(P:Params)(fr aL aD aS aE:Nat)(aP aQ:Nat)(buf:Str)(p:Nat)(x:Nat)(xs:List Nat)(k:Nat):Spec:=⟨Bx fr,[fr,aL,aD,aS,aE],[A6 P aL true [k],Av aD,Ax P aS aP aQ (cv 97) ⟨⟨x::xs⟩⟩,Ag aE,Ah P buf p],FO,fun A=>.fin (.done .next),fun A=>[A6 P aL true [32],Av aD,Ax P aS aP aQ (cv 32) ⟨⟨x::xs⟩⟩,Ag aE,Ah P buf ((p+1:Nat):Int)],fun A=>[]⟩
theorem R4(fr aL aD aS aE:Nat)(aP aQ:Nat)(buf:Str)(p:Nat)(x:Nat)(xs:List Nat)(k:Nat)(h:buf.cps.toList[p]?=some 32)(h1:2≤buf.length)(h2:buf.length≤sizeLine)(h3:xs.length+2≤sizeLine)(I:Lp→Prop):(mM w.2 fr aL aD aS aE aP aQ buf p x xs k).nP (wf w b b2) (A3 (FO)) (I) (I):=by
 refine BQ (Af [W0 w.2 aS aE buf p 32,cV 6 0 [⟨⟨[97]⟩⟩,⟨⟨[99]⟩⟩] ⟨⟨[97]⟩⟩ true,O6 32 [],O6 x xs]) 4 [] (hD 9 239 389755373447451609197763645733473665538507226805545733390350541020556986880504894749920213254292126638632010977923974086017599010631579200599034576444101261589066652033624329523170488739128716176224847579225978297537258389703406) 6 [13,0,6] 0 (fun E0 ke=>?_)
 exact .cons (Eo h h1 h2) fun z z z=>.q (K6 rfl) fun z z z=>.q (J3 (by decide)) fun z z z=>.q (J3 (by have:=Gn; lia)) fun z z z=>.nh ke rfl
def mL(P:Params)(fr aL aD aS aE:Nat)(aP aQ:Nat)(buf:Str)(p:Nat)(x:Nat)(xs:List Nat)(k:Nat):Spec:=⟨Bx fr,[fr,aL,aD,aS,aE],[A6 P aL true [k],Av aD,Ax P aS aP aQ (cv 97) ⟨⟨x::xs⟩⟩,Ag aE,Ah P buf p],FO,fun A=>.fin (.done .next),fun A=>[A6 P aL true [],Av aD,Ax P aS aP aQ (.none) ⟨⟨x::xs⟩⟩,Ag aE,Ah P buf p],fun A=>[]⟩
theorem R3(fr aL aD aS aE:Nat)(aP aQ:Nat)(buf:Str)(p:Nat)(x:Nat)(xs:List Nat)(k:Nat)(h:buf.length≤p)(h2:buf.length≤sizeLine)(I:Lp→Prop):(mL w.2 fr aL aD aS aE aP aQ buf p x xs k).nP (wf w b b2) (A3 (FO)) (I) (I):=by
 refine BQ (Af [V' w.2 aS aE buf p,cV 6 0 [⟨⟨[97]⟩⟩,⟨⟨[99]⟩⟩] ⟨⟨[97]⟩⟩ true]) 2 [] (hD 9 199 2935849448300040603578118487743351145932180706406716032740845920711114108742318890545088606432324486513303250796672154021751652831920509889291452791204458072025781605973969917666472553053841) 6 [13] 0 (fun E0 ke=>?_)
 exact .cons (Kt h h2) fun z z z=>.q (K6 rfl) fun z z z=>.nh ke rfl
def kj(P:Params)(fr aL aD aS aE:Nat)(aP aQ:Nat)(buf:Str)(p:Nat)(x:Nat)(xs:List Nat)(k:Nat):Spec:=⟨Bx fr,[fr,aL,aD,aS,aE],[Xc P aL false,Av aD,Ax P aS aP aQ (.none) ⟨⟨[]⟩⟩,Ag aE,Ah P buf p],FO,fun A=>.fin (.done .next),fun A=>[A6 P aL false [],Av aD,Ax P aS aP aQ (.none) ⟨⟨[]⟩⟩,Ag aE,Ah P buf p],fun A=>[]⟩
theorem R2(fr aL aD aS aE:Nat)(aP aQ:Nat)(buf:Str)(p:Nat)(x:Nat)(xs:List Nat)(k:Nat)(h:buf.length≤p)(h2:buf.length≤sizeLine)(I:Lp→Prop):(kj w.2 fr aL aD aS aE aP aQ buf p x xs k).nP (wf w b b2) (A3 (FO)) (I) (I):=by
 refine BQ (Af [V' w.2 aS aE buf p]) 1 [] (hD 8 118 15698371453414393643430941212439680415572451925677557009687487102878831043766041334816982039677885294379025) 6 [] 0 (fun E0 ke=>?_)
 exact .cons (Kt h h2) fun q q q=>.nh ke rfl
noncomputable def CW:List Nat→Nat→List Nat→Nat→Option (List Nat×Nat×Bool)
 | [],st,tok,p=>if st=97 then some (tok,p,false) else none
 | c::r,st,tok,p=>
  if st=97 then (if c=32 then some (tok,p+1,true) else if c=39 then CW r 39 tok (p+1) else if c=34 then CW r 34 tok (p+1) else none)
  else if st=39 then (if c=39 then CW r 97 tok (p+1) else if c=97∨c=98∨c=99∨c=100∨c=101∨c=34∨c=32 then CW r 39 (tok++[c]) (p+1) else none)
  else if st=34 then (if c=34 then CW r 97 tok (p+1) else if c=39 then CW r 34 (tok++[39]) (p+1) else none)
  else none
theorem Oq(st:Nat)(tok:List Nat)(p:Nat):CW [] st tok p=if st=97 then some (tok,p,false) else none:=rfl
theorem Ot(c:Nat)(r:List Nat)(st:Nat)(tok:List Nat)(p:Nat):CW (c::r) st tok p=if st=97 then (if c=32 then some (tok,p+1,true) else if c=39 then CW r 39 tok (p+1) else if c=34 then CW r 34 tok (p+1) else none)
  else if st=39 then (if c=39 then CW r 97 tok (p+1) else if c=97∨c=98∨c=99∨c=100∨c=101∨c=34∨c=32 then CW r 39 (tok++[c]) (p+1) else none)
  else if st=34 then (if c=34 then CW r 97 tok (p+1) else if c=39 then CW r 34 (tok++[39]) (p+1) else none)
  else none:=rfl
def aZ(P:Params)(aL aD aS aE aP aQ:Nat)(buf:Str)(z:List Nat×Nat×Bool):List Obj:=
 [A6 P aL true (if z.2.2 then [32] else []),Av aD,Ax P aS aP aQ (if z.2.2 then cv 32 else .none) ⟨⟨z.1⟩⟩,Ag aE,Ah P buf (z.2.1:Nat)]
def lp(P:Params)(fr aL aD aS aE aP aQ:Nat)(buf:Str)(p st:Nat)(tok:List Nat)(k:Nat)(z:List Nat×Nat×Bool):Spec:=
 ⟨Bx fr,[fr,aL,aD,aS,aE],[A6 P aL true [k],Av aD,Ax P aS aP aQ (cv st) ⟨⟨tok⟩⟩,Ag aE,Ah P buf p],FO,fun q=>.fin (.done .next),fun q=>aZ P aL aD aS aE aP aQ buf z,fun q=>[]⟩
theorem Ay(fr:Nat):B5 (Bx fr)=true:=by unfold B5; rw [BD]; rfl
set_option tactic.hygienic true in
theorem Oc(w:World)(b b2:Bool)(fr aL aD aS aE aP aQ:Nat)(buf:Str)(h1:2≤buf.length)(h2:buf.length≤sizeLine)(I:Lp→Prop)(z:List Nat×Nat×Bool) :
  ∀ (rest:List Nat) (p st x:Nat) (xs:List Nat) (k:Nat),buf.cps.toList.drop p=rest→CW rest st (x::xs) p=some z→xs.length+rest.length+2≤sizeLine+1→
   (lp w.2 fr aL aD aS aE aP aQ buf p st (x::xs) k z).nP (wf w b b2) (A3 FO) I I
 | [],p,st,x,xs,k,hd,hz,hs=>by
  have hp:buf.length≤p:=by simpa [Str.length] using List.drop_eq_nil_iff.mp hd
  rw [Oq] at hz
  by_cases e:st=97
  ·subst e
   rw [if_pos rfl] at hz
   cases hz
   exact R3 w b b2 fr aL aD aS aE aP aQ buf p x xs k hp h2 I
  ·rw [if_neg e] at hz; cases hz
 | c::rest,p,st,x,xs,k,hd,hz,hs=>by
  have hc:buf.cps.toList[p]?=some c:=by
   have:=congrArg (·[0]?) hd
   simpa [List.getElem?_drop] using this
  have hd':buf.cps.toList.drop (p+1)=rest:=by
   rw [← List.drop_drop,hd]; rfl
  have h3:xs.length+2≤sizeLine:=by
   have:=congrArg List.length hd
   simp only [List.length_cons] at hs
   rw [List.length_drop,List.length_cons] at this
   have hl:buf.cps.toList.length=buf.length:=by simp [Str.length]
   lia
  have q7:∀ l:List Nat,l.length≤xs.length+1→l.length+rest.length+2≤sizeLine+1:=fun l hl=>by simp only [List.length_cons] at hs; lia
  have ih:=Oc w b b2 fr aL aD aS aE aP aQ buf h1 h2 I z rest (p+1)
  rw [Ot] at hz
  by_cases e:st=97
  ·subst e
   rw [if_pos rfl] at hz
   by_cases c1:c=32
   ·subst c1; rw [if_pos rfl] at hz; cases hz
    exact R4 w b b2 fr aL aD aS aE aP aQ buf p x xs k hc h1 h2 h3 I
   ·rw [if_neg c1] at hz
    by_cases c2:c=39
    ·subst c2; rw [if_pos rfl] at hz
     exact (Kd w b b2 fr aL aD aS aE aP aQ buf p x xs k 39 (.inl rfl) hc h1 h2 h3 I).seq (S2:=lp w.2 fr aL aD aS aE aP aQ buf (p+1) 39 (x::xs) 39 z) (fun q=>rfl) (Ay fr) rfl rfl (fun q=>rfl) (fun q=>rfl) (ih 39 x xs 39 hd' hz (q7 xs (by lia)))
    ·rw [if_neg c2] at hz
     by_cases c3:c=34
     ·subst c3; rw [if_pos rfl] at hz
      exact (Kd w b b2 fr aL aD aS aE aP aQ buf p x xs k 34 (.inr rfl) hc h1 h2 h3 I).seq (S2:=lp w.2 fr aL aD aS aE aP aQ buf (p+1) 34 (x::xs) 34 z) (fun q=>rfl) (Ay fr) rfl rfl (fun q=>rfl) (fun q=>rfl) (ih 34 x xs 34 hd' hz (q7 xs (by lia)))
     ·rw [if_neg c3] at hz; cases hz
  ·rw [if_neg e] at hz
   by_cases e:st=39
   ·subst e
    rw [if_pos rfl] at hz
    by_cases c1:c=39
    ·subst c1; rw [if_pos rfl] at hz
     exact (Ke w b b2 fr aL aD aS aE aP aQ buf p x xs k 39 (.inl rfl) hc h1 h2 h3 I).seq (S2:=lp w.2 fr aL aD aS aE aP aQ buf (p+1) 97 (x::xs) 39 z) (fun q=>rfl) (Ay fr) rfl rfl (fun q=>rfl) (fun q=>rfl) (ih 97 x xs 39 hd' hz (q7 xs (by lia)))
    ·rw [if_neg c1] at hz
     split at hz
     ·rename_i cc
      have go:=ih 39 x (xs++[c]) c hd' hz (q7 _ (by simp))
      exact (Kf w b b2 fr aL aD aS aE aP aQ buf p x xs k 39 c (.inl ⟨rfl,cc⟩) hc h1 h2 h3 I).seq (S2:=lp w.2 fr aL aD aS aE aP aQ buf (p+1) 39 (x::(xs++[c])) c z) (fun q=>rfl) (Ay fr) rfl rfl (fun q=>rfl) (fun q=>rfl) go
     ·cases hz
   ·rw [if_neg e] at hz
    by_cases e:st=34
    ·subst e
     rw [if_pos rfl] at hz
     by_cases c1:c=34
     ·subst c1; rw [if_pos rfl] at hz
      exact (Ke w b b2 fr aL aD aS aE aP aQ buf p x xs k 34 (.inr rfl) hc h1 h2 h3 I).seq (S2:=lp w.2 fr aL aD aS aE aP aQ buf (p+1) 97 (x::xs) 34 z) (fun q=>rfl) (Ay fr) rfl rfl (fun q=>rfl) (fun q=>rfl) (ih 97 x xs 34 hd' hz (q7 xs (by lia)))
     ·rw [if_neg c1] at hz
      by_cases c2:c=39
      ·subst c2; rw [if_pos rfl] at hz
       exact (Kf w b b2 fr aL aD aS aE aP aQ buf p x xs k 34 39 (.inr ⟨rfl,rfl⟩) hc h1 h2 h3 I).seq (S2:=lp w.2 fr aL aD aS aE aP aQ buf (p+1) 34 (x::(xs++[39])) 39 z) (fun q=>rfl) (Ay fr) rfl rfl (fun q=>rfl) (fun q=>rfl) (ih 34 x (xs++[39]) 39 hd' (show CW rest 34 (x::(xs++[39])) (p+1)=some z from hz) (q7 _ (by simp)))
      ·rw [if_neg c2] at hz; cases hz
    ·rw [if_neg e] at hz; cases hz
def CH(rest:List Nat)(p:Nat):Option (List Nat×Nat×Bool):=match rest with
 | a::b::r=>bif Nat.beq a 39&&Nat.beq b 34 then CW r 39 [34] (p+2) else none
 | _=>none
theorem J7{l:List Nat}{p:Nat}{z:List Nat×Nat×Bool}(h:CH l p=some z):∃ r,l=39::34::r∧CW r 39 [34] (p+2)=some z:=by
 rcases l with _ | ⟨a,_ | ⟨b,r⟩⟩
 ·cases h
 ·cases h
 ·have h:(bif Nat.beq a 39&&Nat.beq b 34 then CW r 39 [34] (p+2) else none)=some z:=h
  cases q:Nat.beq a 39&&Nat.beq b 34 with
  | false=>rw [q] at h; cases h
  | true=>
   rw [q] at h
   have ⟨q1,q2⟩:=Bool.and_eq_true_iff.mp q
   exact ⟨r,by rw [Nat.eq_of_beq_eq_true q1,Nat.eq_of_beq_eq_true q2],h⟩
def lL(P:Params)(fr aL aD aS aE aP aQ:Nat)(buf:Str)(p:Nat)(z:List Nat×Nat×Bool):Spec:=
 ⟨Bx fr,[fr,aL,aD,aS,aE],[Xc P aL false,Av aD,Ax P aS aP aQ (cv 32) ⟨⟨[]⟩⟩,Ag aE,Ah P buf p],FO,fun q=>.fin (.done .next),fun q=>aZ P aL aD aS aE aP aQ buf z,fun q=>[]⟩
theorem Sj(fr aL aD aS aE aP aQ:Nat)(buf:Str)(p:Nat)(z:List Nat×Nat×Bool)(h2:buf.length≤sizeLine)(hz:CH (buf.cps.toList.drop p) p=some z)(I:Lp→Prop) :
  (lL w.2 fr aL aD aS aE aP aQ buf p z).nP (wf w b b2) (A3 FO) I I:=by
 obtain ⟨r,hd,hz⟩:=J7 hz
 have l0:buf.cps.toList.length=buf.length:=by simp [Str.length]
 have ll:=congrArg List.length hd
 rw [List.length_drop] at ll
 simp only [List.length_cons] at ll
 have h3:r.length+2≤buf.length:=by rw [← l0]; exact ll ▸ Nat.sub_le _ _
 have h1:2≤buf.length:=Nat.le_trans (Nat.le_add_left 2 _) h3
 have c0:buf.cps.toList[p]?=some 39:=by
  have:=congrArg (·[0]?) hd
  simpa [List.getElem?_drop] using this
 have c1:buf.cps.toList[p+1]?=some 34:=by
  have:=congrArg (·[1]?) hd
  simpa [List.getElem?_drop] using this
 have hd':buf.cps.toList.drop (p+2)=r:=by rw [← List.drop_drop,hd]; rfl
 have s3:([]:List Nat).length+2≤sizeLine:=Nat.le_trans h1 h2
 have t3:=Oc w b b2 fr aL aD aS aE aP aQ buf h1 h2 I z r (p+2) 39 34 [] 34 hd' hz (by rw [List.length_nil,Nat.zero_add]; exact Nat.le_succ_of_le (Nat.le_trans h3 h2))
 have t2:=(R5 w b b2 fr aL aD aS aE aP aQ buf (p+1) 0 [] 39 c1 h1 h2 s3 I).seq (S2:=lp w.2 fr aL aD aS aE aP aQ buf (p+2) 39 [34] 34 z) (fun q=>rfl) (Ay fr) rfl rfl (fun q=>rfl) (fun q=>rfl) t3
 have t1:=R6 w b b2 fr aL aD aS aE aP aQ buf p 0 [] 0 c0 h1 h2 s3 I
 exact Spec.nP.seq t1 (fun q=>rfl) (Ay fr) (by rfl) (by rfl) (fun q=>by rfl) (fun q=>rfl) t2
def Lr:List Sh:=FO.tail
def Lu:List Sh:=Lr.tail
def Uc:List Sh:=Lu.tail
def gQ(P:Params)(aL aD aS aE aP aQ:Nat)(buf:Str)(p:Nat)(T:List Nat)(p':Nat)(e:Bool):AA:=Ck FO [4,0,1,2,3] [] [] (fun x=>lL P (A2 x 4) aL aD aS aE aP aQ buf p (T,p',e))
variable{w b b2}
theorem O4{aL aD aS aE aP aQ:Nat}{buf:Str}{p:Nat}{T:List Nat}{p':Nat}{e:Bool}{I:Lp→Prop}(h2:buf.length≤sizeLine)(hz:CH (buf.cps.toList.drop p) p=some (T,p',e)):(gQ w.2 aL aD aS aE aP aQ buf p T p' e).oB pw (wf w b b2) (A4 w.2) I I:=
 An (w:=wf w b b2) (Sf:=A3 FO) (fun x=>Sj w b b2 (A2 x 4) aL aD aS aE aP aQ buf p (T,p',e) h2 hz I) (fun q q q q q q h=>h.resolve_left (by intro h; cases h)) (by decide) (fun q=>⟨rfl,rfl,fun q=>rfl⟩) (fun q q=>rfl)
def Zt(P:Params)(aL aD aS aE aP aQ:Nat)(buf:Str)(p:Nat):AA:=Ck FO [4,0,1,2,3] [] [] (fun x=>kj P (A2 x 4) aL aD aS aE aP aQ buf p 0 [] 0)
theorem S8{aL aD aS aE aP aQ:Nat}{buf:Str}{p:Nat}{I:Lp→Prop}(h:buf.length≤p)(h2:buf.length≤sizeLine):(Zt w.2 aL aD aS aE aP aQ buf p).oB pw (wf w b b2) (A4 w.2) I I:=
 An (w:=wf w b b2) (Sf:=A3 FO) (fun x=>R2 w b b2 (A2 x 4) aL aD aS aE aP aQ buf p 0 [] 0 h h2 I) (fun q q q q q q h=>h.resolve_left (by intro h; cases h)) (by decide) (fun q=>⟨rfl,rfl,fun q=>rfl⟩) (fun q q=>rfl)
def kW(P:Params)(aL aD aS aE:Nat)(aP aQ:Nat)(buf:Str)(p:Nat)(T:List Nat)(p':Nat):Spec:=⟨.call (.ref 852) ⟨[.ref aL],[]⟩,[aL,aD,aS,aE],[Av aD,Ax P aS aP aQ (cv 32) ⟨⟨[]⟩⟩,Ag aE,Ah P buf p],Lr,fun A=>.fin (.done (.ret (.str ⟨⟨T⟩⟩ 0))),fun A=>[Av aD,Ax P aS aP aQ (cv 32) ⟨⟨[]⟩⟩,Ag aE,Ah P buf p'],fun A=>[]⟩
variable(w b b2)
theorem Qg(aL aD aS aE:Nat)(aP aQ:Nat)(buf:Str)(p:Nat)(T:List Nat)(p':Nat)(h2:buf.length≤sizeLine)(hz:CH (buf.cps.toList.drop p) p=some (T,p',true))(I:Lp→Prop):(kW w.2 aL aD aS aE aP aQ buf p T p').nP (wf w b b2) (A3 (Lr)) (I) (I):=by
 refine BQ (Af [gQ w.2 aL aD aS aE aP aQ buf p T p' true]) 1 [] (hD 7 70 108428172586264290393694150432823167409279523033619095087537) 0 [] 1 (fun E0 ke=>?_)
 exact .cons (O4 h2 hz) fun q q q=>.nh ke rfl
def kY(P:Params)(aL aD aS aE:Nat)(aP aQ:Nat)(buf:Str)(p:Nat)(T:List Nat)(p':Nat):Spec:=⟨.call (.ref 852) ⟨[.ref aL],[]⟩,[aL,aD,aS,aE],[Av aD,Ax P aS aP aQ (cv 32) ⟨⟨[]⟩⟩,Ag aE,Ah P buf p],Lr,fun A=>.fin (.done (.ret (.str ⟨⟨T⟩⟩ 0))),fun A=>[Av aD,Ax P aS aP aQ (.none) ⟨⟨[]⟩⟩,Ag aE,Ah P buf p'],fun A=>[]⟩
theorem Qi(aL aD aS aE:Nat)(aP aQ:Nat)(buf:Str)(p:Nat)(T:List Nat)(p':Nat)(h2:buf.length≤sizeLine)(hz:CH (buf.cps.toList.drop p) p=some (T,p',false))(I:Lp→Prop):(kY w.2 aL aD aS aE aP aQ buf p T p').nP (wf w b b2) (A3 (Lr)) (I) (I):=by
 refine BQ (Af [gQ w.2 aL aD aS aE aP aQ buf p T p' false]) 1 [] (hD 7 70 108428172586264290393694150432823167409279523033619095087537) 0 [] 1 (fun E0 ke=>?_)
 exact .cons (O4 h2 hz) fun q q q=>.nh ke rfl
def kX(P:Params)(aL aD aS aE:Nat)(aP aQ:Nat)(buf:Str)(p:Nat):Spec:=⟨.call (.ref 852) ⟨[.ref aL],[]⟩,[aL,aD,aS,aE],[Av aD,Ax P aS aP aQ (.none) ⟨⟨[]⟩⟩,Ag aE,Ah P buf p],Lr,fun A=>.fin (.done (.ret .none)),fun A=>[Av aD,Ax P aS aP aQ (.none) ⟨⟨[]⟩⟩,Ag aE,Ah P buf p],fun A=>[]⟩
theorem Qh(aL aD aS aE:Nat)(aP aQ:Nat)(buf:Str)(p:Nat)(h:buf.length≤p)(h2:buf.length≤sizeLine)(I:Lp→Prop):(kX w.2 aL aD aS aE aP aQ buf p).nP (wf w b b2) (A3 (Lr)) (I) (I):=by
 refine BQ (Af [Zt w.2 aL aD aS aE aP aQ buf p]) 1 [] (hD 7 73 37190863197094278207237916032414469405052393813172141653780526) 0 [] 1 (fun E0 ke=>?_)
 exact .cons (S8 h h2) fun q q q=>.nh ke rfl
noncomputable def BM:Obj:={ cls:=.type "collections.deque",data:=.fields #[.none,.int 0 0] }
theorem Ac{ss:List Sh}(ne:ss≠[]):∀ (k:Result→Sem Fin) (g:Bool) (l:List Value) (cd:Code) (pc:Pos) (rest:List Frame),(ss=[]∨BB ss (Frame.ret k none g l cd pc []::rest)=ss.map some)→A3 ss pc (Frame.ret k none g l cd pc []::rest):=fun q q q q q q h=>h.resolve_left ne
def Zc(P:Params)(aL aD aS aE aP aQ:Nat)(buf:Str)(p:Nat)(T:List Nat)(p':Nat):AA:=Ck Lr [0,1,2,3] [] [] (fun q=>kW P aL aD aS aE aP aQ buf p T p')
variable{w b b2}
theorem Rn{aL aD aS aE aP aQ:Nat}{buf:Str}{p:Nat}{T:List Nat}{p':Nat}{I:Lp→Prop}(h2:buf.length≤sizeLine)(hz:CH (buf.cps.toList.drop p) p=some (T,p',true)):(Zc w.2 aL aD aS aE aP aQ buf p T p').oB pw (wf w b b2) (A4 w.2) I I:=
 An (w:=wf w b b2) (Sf:=A3 Lr) (fun x=>Qg w b b2 aL aD aS aE aP aQ buf p T p' h2 hz I) (Ac (by intro h; cases h)) (by decide) (fun q=>⟨rfl,rfl,fun q=>rfl⟩) (fun q q=>rfl)
def Ze(P:Params)(aL aD aS aE aP aQ:Nat)(buf:Str)(p:Nat)(T:List Nat)(p':Nat):AA:=Ck Lr [0,1,2,3] [] [] (fun q=>kY P aL aD aS aE aP aQ buf p T p')
theorem Rp{aL aD aS aE aP aQ:Nat}{buf:Str}{p:Nat}{T:List Nat}{p':Nat}{I:Lp→Prop}(h2:buf.length≤sizeLine)(hz:CH (buf.cps.toList.drop p) p=some (T,p',false)):(Ze w.2 aL aD aS aE aP aQ buf p T p').oB pw (wf w b b2) (A4 w.2) I I:=
 An (w:=wf w b b2) (Sf:=A3 Lr) (fun x=>Qi w b b2 aL aD aS aE aP aQ buf p T p' h2 hz I) (Ac (by intro h; cases h)) (by decide) (fun q=>⟨rfl,rfl,fun q=>rfl⟩) (fun q q=>rfl)
def Zd(P:Params)(aL aD aS aE aP aQ:Nat)(buf:Str)(p:Nat):AA:=Ck Lr [0,1,2,3] [] [] (fun q=>kX P aL aD aS aE aP aQ buf p)
theorem Ro{aL aD aS aE aP aQ:Nat}{buf:Str}{p:Nat}{I:Lp→Prop}(h:buf.length≤p)(h2:buf.length≤sizeLine):(Zd w.2 aL aD aS aE aP aQ buf p).oB pw (wf w b b2) (A4 w.2) I I:=
 An (w:=wf w b b2) (Sf:=A3 Lr) (fun x=>Qh w b b2 aL aD aS aE aP aQ buf p h h2 I) (Ac (by intro h; cases h)) (by decide) (fun q=>⟨rfl,rfl,fun q=>rfl⟩) (fun q q=>rfl)
def lO(P:Params)(aL aD aS aE aP aQ:Nat)(buf:Str)(p:Nat)(T:List Nat)(p':Nat):Spec:=⟨.call (.ref 845) ⟨[.ref aL],[]⟩,[aL,aD,aS,aE,aP,aQ],[Av aD,Ax P aS aP aQ (cv 32) ⟨⟨[]⟩⟩,Ag aE,Ah P buf p,BM,BM],Lu,fun A=>.fin (.done (.ret (.str ⟨⟨T⟩⟩ 0))),fun A=>[Av aD,Ax P aS aP aQ (cv 32) ⟨⟨[]⟩⟩,Ag aE,Ah P buf p',BM,BM],fun A=>[]⟩
variable(w b b2)
theorem TG(aL aD aS aE aP aQ:Nat)(buf:Str)(p:Nat)(T:List Nat)(p':Nat)(h2:buf.length≤sizeLine)(hz:CH (buf.cps.toList.drop p) p=some (T,p',true))(I:Lp→Prop):(lO w.2 aL aD aS aE aP aQ buf p T p').nP (wf w b b2) (A3 (Lu)) (I) (I):=by
 refine BQ (Af [Zc w.2 aL aD aS aE aP aQ buf p T p']) 1 [] (hD 9 83 12783455538087972081058131727797440545490102451850319553515727047982857097228252) 3 [] 1 (fun E0 ke=>?_)
 exact .cons (Rn h2 hz) fun q q q=>.nh ke rfl
def lQ(P:Params)(aL aD aS aE aP aQ:Nat)(buf:Str)(p:Nat)(T:List Nat)(p':Nat):Spec:=⟨.call (.ref 845) ⟨[.ref aL],[]⟩,[aL,aD,aS,aE,aP,aQ],[Av aD,Ax P aS aP aQ (cv 32) ⟨⟨[]⟩⟩,Ag aE,Ah P buf p,BM,BM],Lu,fun A=>.fin (.done (.ret (.str ⟨⟨T⟩⟩ 0))),fun A=>[Av aD,Ax P aS aP aQ (.none) ⟨⟨[]⟩⟩,Ag aE,Ah P buf p',BM,BM],fun A=>[]⟩
theorem TJ(aL aD aS aE aP aQ:Nat)(buf:Str)(p:Nat)(T:List Nat)(p':Nat)(h2:buf.length≤sizeLine)(hz:CH (buf.cps.toList.drop p) p=some (T,p',false))(I:Lp→Prop):(lQ w.2 aL aD aS aE aP aQ buf p T p').nP (wf w b b2) (A3 (Lu)) (I) (I):=by
 refine BQ (Af [Ze w.2 aL aD aS aE aP aQ buf p T p']) 1 [] (hD 9 83 12783455538087972081058131727797440545490102451850319553515727047982857097228252) 3 [] 1 (fun E0 ke=>?_)
 exact .cons (Rp h2 hz) fun q q q=>.nh ke rfl
def lP(P:Params)(aL aD aS aE aP aQ:Nat)(buf:Str)(p:Nat):Spec:=⟨.call (.ref 845) ⟨[.ref aL],[]⟩,[aL,aD,aS,aE,aP,aQ],[Av aD,Ax P aS aP aQ (.none) ⟨⟨[]⟩⟩,Ag aE,Ah P buf p,BM,BM],Lu,fun A=>.fin (.done (.ret .none)),fun A=>[Av aD,Ax P aS aP aQ (.none) ⟨⟨[]⟩⟩,Ag aE,Ah P buf p,BM,BM],fun A=>[]⟩
theorem TH(aL aD aS aE aP aQ:Nat)(buf:Str)(p:Nat)(h:buf.length≤p)(h2:buf.length≤sizeLine)(I:Lp→Prop):(lP w.2 aL aD aS aE aP aQ buf p).nP (wf w b b2) (A3 (Lu)) (I) (I):=by
 refine BQ (Af [Zd w.2 aL aD aS aE aP aQ buf p]) 1 [] (hD 9 100 59430174693649430474072638867347730715071029190963864250174297941003805686022450516520352075824) 3 [] 1 (fun E0 ke=>?_)
 exact .cons (Ro h h2) fun q q q=>.nh ke rfl
noncomputable def Ea(o:Obj):FuncData:=match o.data with
 | .func f=>f
 | _=>{ name:=Str.empty,qualname:=Str.empty,params:=⟨[],[],none,[],[],none,[]⟩,body:=.stmts [],scope:=default,globals:=0,closure:=[],defaults:=.none,kwdefaults:=.none }
def AS(P:Params)(a:Nat)(o:Params→Obj)(fr:Nat):Env:=bE a (Ea (o P)) ((Ea (o P)).qualname.toString++".<locals>.") fr
def BO(P:Params)(fr:Nat):Env:={ AS P 945 Wc fr with cells:=[(Str.ofString "aft",fr+3),(Str.ofString "fore",fr+2),(Str.ofString "names",fr+1)] }
def Qq(P:Params)(fS fF fW:Nat):List Sh:=[.bi "list.extend.loop" 1,.bi "type.__call__" 2,.fun1 (AS P 896 IG fS),.fun1 (AS P 928 H3 fF),.fun1 (BO P fW),.bi "claim.caller" 0]
theorem Cr(P:Params)(a:Nat)(o:Params→Obj)(fr:Nat):(AS P a o fr).frame=some fr:=rfl
noncomputable def eI(e:Value)(f:Option Nat):Sem Unit:=PySem.W.Fast.tw5670386056902412789 e f
noncomputable def Pl(e:Value)(m:Sem Unit):Sem Fin:=PySem.W.R.bindR (PySem.W.R.bindR (PySem.W.R.bindR m (fun q=>eI e none)) (fun q=>.raise e)) (fun (fl:Flow)=>match fl with | .ret v=>PySem.W.Fast.tw6905046200447255374 v | _=>PySem.W.Fast.tw6905046200447255374 .none)
theorem Ct(e:Value):Hq (Pl e):=⟨fun q q q=>rfl,fun q q q q=>rfl,fun q q=>rfl,fun q=>rfl⟩
def JF(e:Env):Vw:=(true,some e,none)
def Yo(id:String):Vw:=(false,none,some id)
noncomputable def C3(D:Data):Obj:={ cls:=.type "frame",data:=D }
noncomputable def cw(D:Data)(code back fn:Value):Obj:={ cls:=.type "frame",data:=D,slots:=#[some code,some (.ref 3),none,some back,none,some fn,some (.ref 0)] }
def jJ(D:Data)(fF:Nat):Obj:=cw D (.ref 895) (.ref fF) (.ref 896)
def b8(D:Data)(fW:Nat):Obj:=cw D (.ref 927) (.ref fW) (.ref 928)
noncomputable def Dp(fW:Nat)(D:Data):Obj:={ cls:=.type "frame",data:=D,slots:=#[some (.ref 944),some (.ref 3),none,some .notImplemented,none,some (.ref 945),some (.ref 0),some (.ref (fW+3)),some (.ref (fW+2)),some (.ref (fW+1))] }
noncomputable def ZG:Pos:=⟨863,12,863,31⟩
noncomputable def XX:List String:=["list.extend.loop","type.__call__","claim.caller"]
def vN(P:Params)(x:SX):List Vw:=[JF (AS P 881 H4 (A2 x 9)),Yo "list.extend.loop",Yo "type.__call__",JF (AS P 896 IG (A2 x 6)),JF (AS P 928 H3 (A2 x 7)),JF (BO P (A2 x 8)),Yo "claim.caller"]
noncomputable def l5(P:Params):AA:=Iw (fun x=>Pl (.ref (A2 x 11))) 11 (fun x=>AS P 881 H4 (A2 x 9)) (fun x=>A2 x 9) [⟨9,AS P 881 H4⟩,⟨6,AS P 896 IG⟩,⟨7,AS P 928 H3⟩,⟨8,BO P⟩] (fun q=>[]) [] (vN P) ZG XX
noncomputable def ky(P:Params):AA:=Iw (fun x=>Pl (.ref (A2 x 11))) 11 (fun x=>AS P 881 H4 (A2 x 9)) (fun x=>A2 x 9) [⟨9,AS P 881 H4⟩,⟨6,AS P 896 IG⟩,⟨7,AS P 928 H3⟩] (fun x=>[BO P (A2 x 8)]) [8] (vN P) ZG XX
theorem kF(P:Params)(fr:Nat):((AS P 881 H4 fr).scope.kind≠.module∧((AS P 881 H4 fr).scope.isGenerator || (AS P 881 H4 fr).scope.isCoroutine)=false)∧((AS P 896 IG fr).scope.kind≠.module∧((AS P 896 IG fr).scope.isGenerator || (AS P 896 IG fr).scope.isCoroutine)=false)∧((AS P 928 H3 fr).scope.kind≠.module∧((AS P 928 H3 fr).scope.isGenerator || (AS P 928 H3 fr).scope.isCoroutine)=false)∧((BO P fr).scope.kind≠.module∧((BO P fr).scope.isGenerator || (BO P fr).scope.isCoroutine)=false):=by
 have h1:(AS P 881 H4 fr).scope.kind=.function:=by kernel_rfl
 have h2:(AS P 896 IG fr).scope.kind=.function:=by kernel_rfl
 have h3:(AS P 928 H3 fr).scope.kind=.function:=by kernel_rfl
 have h4:(BO P fr).scope.kind=.function:=by kernel_rfl
 refine ⟨⟨by rw [h1]; decide,by kernel_rfl⟩,⟨by rw [h2]; decide,by kernel_rfl⟩,⟨by rw [h3]; decide,by kernel_rfl⟩,⟨by rw [h4]; decide,by kernel_rfl⟩⟩
theorem bl(P:Params)(x:SX):Am (A2 x 9) (vN P x)=some XX:=by
 unfold Am vN
 rw [List.dropWhile_cons_of_neg (by simp [JF,Cr])]
 rfl
theorem WA{p:Program}{w:World}{kt:KT}{P:Params}:(l5 P).qQ p w kt:=
 Dg (fun x=>Ct _) (fun x=>rfl) (by decide) (fun x=>rfl) (fun x=>List.dropWhile_cons_of_neg (by simp)) (fun x=>rfl) (fun x=>rfl) (bl P) (by decide)
  (fun x q hq=>by
   simp only [List.mem_cons,List.not_mem_nil,or_false] at hq
   rcases hq with rfl | rfl | rfl | rfl
   ·exact ⟨rfl,(kF P _).1⟩
   ·exact ⟨rfl,(kF P _).2.1⟩
   ·exact ⟨rfl,(kF P _).2.2.1⟩
   ·exact ⟨rfl,(kF P _).2.2.2⟩) (by simp only [List.map_cons,List.map_nil,List.append_nil]; decide) (fun x=>.inl ⟨rfl,rfl⟩)
theorem W9{p:Program}{w:World}{kt:KT}{P:Params}:(ky P).qQ p w kt:=
 Dg (fun x=>Ct _) (fun x=>rfl) (by decide) (fun x=>rfl) (fun x=>List.dropWhile_cons_of_neg (by simp)) (fun x=>rfl) (fun x=>rfl) (bl P) (by decide)
  (fun x q hq=>by
   simp only [List.mem_cons,List.not_mem_nil,or_false] at hq
   rcases hq with rfl | rfl | rfl
   ·exact ⟨rfl,(kF P _).1⟩
   ·exact ⟨rfl,(kF P _).2.1⟩
   ·exact ⟨rfl,(kF P _).2.2.1⟩) (by simp only [List.map_cons,List.map_nil,List.cons_append,List.nil_append]; decide) (fun x=>.inr ⟨8,_,[],rfl,rfl,rfl⟩)
def Zw(P:Params)(aL aD aS aE aP aQ:Nat)(buf:Str)(p:Nat)(T:List Nat)(p':Nat):AA:=Ck Lu [0,1,2,3,4,5] [] [] (fun x=>lO P aL aD aS aE aP aQ buf p T p')
variable{w b b2}
theorem SE{aL aD aS aE aP aQ:Nat}{buf:Str}{p:Nat}{T:List Nat}{p':Nat}{I:Lp→Prop}(h2:buf.length≤sizeLine)(hz:CH (buf.cps.toList.drop p) p=some (T,p',true)):(Zw w.2 aL aD aS aE aP aQ buf p T p').oB pw (wf w b b2) (A4 w.2) (I) (I):=
 An (w:=wf w b b2) (Sf:=A3 Lu) (fun x=>TG w b b2 aL aD aS aE aP aQ buf p T p' h2 hz I) (Ac (by intro h; cases h)) (by decide) (fun q=>⟨rfl,rfl,fun q=>rfl⟩) (fun q q=>rfl)
def Zx(P:Params)(aL aD aS aE aP aQ:Nat)(buf:Str)(p:Nat)(T:List Nat)(p':Nat):AA:=Ck Lu [0,1,2,3,4,5] [] [] (fun x=>lQ P aL aD aS aE aP aQ buf p T p')
theorem SF{aL aD aS aE aP aQ:Nat}{buf:Str}{p:Nat}{T:List Nat}{p':Nat}{I:Lp→Prop}(h2:buf.length≤sizeLine)(hz:CH (buf.cps.toList.drop p) p=some (T,p',false)):(Zx w.2 aL aD aS aE aP aQ buf p T p').oB pw (wf w b b2) (A4 w.2) (I) (I):=
 An (w:=wf w b b2) (Sf:=A3 Lu) (fun x=>TJ w b b2 aL aD aS aE aP aQ buf p T p' h2 hz I) (Ac (by intro h; cases h)) (by decide) (fun q=>⟨rfl,rfl,fun q=>rfl⟩) (fun q q=>rfl)
def WK(P:Params)(aL aD aS aE aP aQ:Nat)(buf:Str)(p:Nat):AA:=Ck Lu [0,1,2,3,4,5] [] [] (fun x=>lP P aL aD aS aE aP aQ buf p)
theorem Ky{aL aD aS aE aP aQ:Nat}{buf:Str}{p:Nat}{I:Lp→Prop}(h:buf.length≤p)(h2:buf.length≤sizeLine):(WK w.2 aL aD aS aE aP aQ buf p).oB pw (wf w b b2) (A4 w.2) (I) (I):=
 An (w:=wf w b b2) (Sf:=A3 Lu) (fun x=>TH w b b2 aL aD aS aE aP aQ buf p h h2 I) (Ac (by intro h; cases h)) (by decide) (fun q=>⟨rfl,rfl,fun q=>rfl⟩) (fun q q=>rfl)
def lF(P:Params)(aL aD aS aE aP aQ:Nat)(buf:Str)(p:Nat)(T:List Nat)(p':Nat):Spec:=⟨.call (.ref 881) ⟨[.ref aL],[]⟩,[aL,aD,aS,aE,aP,aQ],[Av aD,Ax P aS aP aQ (cv 32) ⟨⟨[]⟩⟩,Ag aE,Ah P buf p,BM,BM],Uc,fun A=>.fin (.done (.ret (.str ⟨⟨T⟩⟩ 0))),fun A=>[Av aD,Ax P aS aP aQ (cv 32) ⟨⟨[]⟩⟩,Ag aE,Ah P buf p',BM,BM],fun A=>[]⟩
variable(w b b2)
theorem SP(aL aD aS aE aP aQ:Nat)(buf:Str)(p:Nat)(T:List Nat)(p':Nat)(h2:buf.length≤sizeLine)(hz:CH (buf.cps.toList.drop p) p=some (T,p',true))(I:Lp→Prop):(lF w.2 aL aD aS aE aP aQ buf p T p').nP (wf w b b2) (A3 (Uc)) (I) (I):=by
 refine BQ (Af [Zw w.2 aL aD aS aE aP aQ buf p T p']) 1 [] (hD 9 39 13181895060087125933789228996641454484) 0 [] 1 (fun E0 ke=>?_)
 exact .cons (SE h2 hz) fun q q q=>.nh ke rfl
def lG(P:Params)(aL aD aS aE aP aQ:Nat)(buf:Str)(p:Nat)(T:List Nat)(p':Nat):Spec:=⟨.call (.ref 881) ⟨[.ref aL],[]⟩,[aL,aD,aS,aE,aP,aQ],[Av aD,Ax P aS aP aQ (cv 32) ⟨⟨[]⟩⟩,Ag aE,Ah P buf p,BM,BM],Uc,fun A=>.fin (.done (.ret (.str ⟨⟨T⟩⟩ 0))),fun A=>[Av aD,Ax P aS aP aQ (.none) ⟨⟨[]⟩⟩,Ag aE,Ah P buf p',BM,BM],fun A=>[]⟩
theorem SU(aL aD aS aE aP aQ:Nat)(buf:Str)(p:Nat)(T:List Nat)(p':Nat)(h2:buf.length≤sizeLine)(hz:CH (buf.cps.toList.drop p) p=some (T,p',false))(I:Lp→Prop):(lG w.2 aL aD aS aE aP aQ buf p T p').nP (wf w b b2) (A3 (Uc)) (I) (I):=by
 refine BQ (Af [Zx w.2 aL aD aS aE aP aQ buf p T p']) 1 [] (hD 9 39 13181895060087125933789228996641454484) 0 [] 1 (fun E0 ke=>?_)
 exact .cons (SF h2 hz) fun q q q=>.nh ke rfl
def cY(P:Params)(aL aD aS aE aP aQ fS fF fW:Nat)(buf:Str)(p:Nat)(DS DF DW:Data):Spec:=⟨.call (.ref 881) ⟨[.ref aL],[]⟩,[aL,aD,aS,aE,aP,aQ,fS,fF,fW],[Av aD,Ax P aS aP aQ (.none) ⟨⟨[]⟩⟩,Ag aE,Ah P buf p,BM,BM,C3 DS,C3 DF,C3 DW],Qq P fS fF fW,fun A=>.err (.ref (A 0)),fun A=>[Av aD,Ax P aS aP aQ (.none) ⟨⟨[]⟩⟩,Ag aE,Ah P buf p,BM,BM,jJ DS fF,b8 DF fW,Dp fW DW],fun A=>[{ cls:=.type "StopIteration",data:=.fields #[.ref (A 1),.ref (A 2),.none,.none,.bool false,.none] },{ cls:=.type "tuple",data:=.seq #[] 0 },{ cls:=.type "traceback",data:=.fields #[.none,.ref (A 3),.none,.none,.none,.int 863 0,.int 863 0,.int 12 0,.int 31 0,sv "list.extend.loop
type.__call__
claim.caller",.bool false] },cw (.dict #[kE P "self" (.ref aL),kE P "token" .none] 2) (.ref 880) (.ref fS) (.ref 881)]⟩
theorem SS(aL aD aS aE aP aQ fS fF fW:Nat)(buf:Str)(p:Nat)(DS DF DW:Data)(h:buf.length≤p)(h2:buf.length≤sizeLine)(I:Lp→Prop):(cY w.2 aL aD aS aE aP aQ fS fF fW buf p DS DF DW).nP (wf w b b2) (A3 (Qq w.2 fS fF fW)) (I) (I):=by
 refine B8 (fun D=>cY w.2 aL aD aS aE aP aQ fS fF fW buf p (gD D 0) (gD D 1) (gD D 2)) (fun D l=>cY w.2 aL aD aS aE aP aQ fS fF fW buf p (gD D 0) (gD D 1) (gD D 2)) (fun D=>(Af [WK w.2 aL aD aS aE aP aQ buf p,l5 w.2])) 2 [11,12,13,9] [false,false,false,false,false,false,true,true,true] (hD 16 59 103013619215849255272424062823608312879331209745583692398313239134382592) 0 [] 1 [DS,DF,DW] (fun E0 ke=>?_)
 exact .cons (Ky h h2) fun q q q=>.note WA fun q q q=>.nh ke rfl
def cX(P:Params)(aL aD aS aE aP aQ fS fF fW:Nat)(buf:Str)(p:Nat)(DS DF DW:Data):Spec:=⟨.call (.ref 881) ⟨[.ref aL],[]⟩,[aL,aD,aS,aE,aP,aQ,fS,fF,fW],[Av aD,Ax P aS aP aQ (.none) ⟨⟨[]⟩⟩,Ag aE,Ah P buf p,BM,BM,C3 DS,C3 DF,Dp fW DW],Qq P fS fF fW,fun A=>.err (.ref (A 0)),fun A=>[Av aD,Ax P aS aP aQ (.none) ⟨⟨[]⟩⟩,Ag aE,Ah P buf p,BM,BM,jJ DS fF,b8 DF fW,Dp fW DW],fun A=>[{ cls:=.type "StopIteration",data:=.fields #[.ref (A 1),.ref (A 2),.none,.none,.bool false,.none] },{ cls:=.type "tuple",data:=.seq #[] 0 },{ cls:=.type "traceback",data:=.fields #[.none,.ref (A 3),.none,.none,.none,.int 863 0,.int 863 0,.int 12 0,.int 31 0,sv "list.extend.loop
type.__call__
claim.caller",.bool false] },cw (.dict #[kE P "self" (.ref aL),kE P "token" .none] 2) (.ref 880) (.ref fS) (.ref 881)]⟩
theorem SQ(aL aD aS aE aP aQ fS fF fW:Nat)(buf:Str)(p:Nat)(DS DF DW:Data)(h:buf.length≤p)(h2:buf.length≤sizeLine)(I:Lp→Prop):(cX w.2 aL aD aS aE aP aQ fS fF fW buf p DS DF DW).nP (wf w b b2) (A3 (Qq w.2 fS fF fW)) (I) (I):=by
 refine B8 (fun D=>cX w.2 aL aD aS aE aP aQ fS fF fW buf p (gD D 0) (gD D 1) (gD D 2)) (fun D l=>cX w.2 aL aD aS aE aP aQ fS fF fW buf p (gD D 0) (gD D 1) (gD D 2)) (fun D=>(Af [WK w.2 aL aD aS aE aP aQ buf p,ky w.2])) 2 [11,12,13,9] [false,false,false,false,false,false,true,true,true] (hD 16 59 103013619215849255272424062823608312879331209745583692398313239134382592) 0 [] 1 [DS,DF,DW] (fun E0 ke=>?_)
 exact .cons (Ky h h2) fun q q q=>.note W9 fun q q q=>.nh ke rfl
noncomputable def f3:Stmt→Expr
 | .Return (some e) _=>e
 | _=>default
noncomputable def bq:Expr→Expr
 | .Call _ (a::_) _ _=>a
 | e=>e
noncomputable def NR:Expr→Scope
 | .ListComp _ _ sc _=>sc
 | _=>default
noncomputable def G6(sc:Scope):Scope:={ sc with names:=sc.names.map fun q=>match q.2 with | .free=>(q.1,.cell) | k=>(q.1,k) }
def j7(P:Params):Expr:=bq (f3 ((Cd (Ea (a8 P))).getD 0 (.Pass default)))
def bJ(P:Params)(aK aC fr:Nat):Env:={ scope:=G6 (NR (j7 P)),locals:=aK,globals:=3,cells:=[(Str.ofString "text",aC)],qual:=Str.ofString "_law_turned.<locals>.",func:=none,code:=.ref 915,frame:=some fr,builtins:=0 }
def EW(P:Params)(aI aA aK aC fr:Nat):Code:=.compLoop (j7 P) 0 (.ref aI) (.ref aA) (bJ P aK aC fr)
def Jj(P:Params)(aI aA aK aC fr:Nat):Code:=.compStart (j7 P) 0 (.ref aI) (.ref aA) (bJ P aK aC fr)
noncomputable def Jk:List Sh:=[.func,.bi "claim.caller" 0]
noncomputable def eH:List Sh:=[.comp,.func,.bi "claim.caller" 0]
noncomputable def B2(v left step:Int):Obj:={ cls:=.type "range_iterator",data:=.fields #[.int v 0,.int left 0,.int step 0] }
noncomputable def E'(tx:List Nat)(tc:Nat):Obj:={ cls:=.type "cell",data:=.cell (some (.str ⟨⟨tx⟩⟩ tc)) }
noncomputable def AR(es:List DictEntry)(n:Nat):Obj:={ cls:=.type "dict",data:=.dict ⟨es⟩ n }
def Ei(v:Bool):List Sh:=bif v then Jk else eH
def kI(P:Params)(s:String):Option Int→Obj
 | none=>AR [] 0
 | some x=>AR [kE P s (.int x 0)] 1
noncomputable def IT(l:List Nat):List Value:=l.map (fun c=>.str ⟨⟨[c]⟩⟩ 0)
def dz(P:Params)(aI aA aK aC:Nat)(v:Bool)(fr:Nat)(tx:List Nat)(tc:Nat)(i j:Int)(DA:Data):Spec:=⟨Jj P aI aA aK aC fr,[aI,aA,aK,aC],[B2 i j (-1),A0 DA,AR [] 0,E' tx tc],(.func::Ei v),fun A=>.fin (.again (EW P aI aA aK aC fr)),fun A=>[B2 i j (-1),A0 DA,AR [] 0,E' tx tc],fun A=>[]⟩
theorem Qe(aI aA aK aC:Nat)(v:Bool)(fr:Nat)(tx:List Nat)(tc:Nat)(i j:Int)(DA:Data)(I:Lp→Prop):(dz w.2 aI aA aK aC v fr tx tc i j DA).nP (wf w b b2) (A3 ((.func::Ei v))) (I) (I):=by
 refine Cz (fun D=>dz w.2 aI aA aK aC v fr tx tc i j (gD D 0)) (fun D l=>dz w.2 aI aA aK aC v fr tx tc i j (gD D 0)) (fun D=>(Af [])) 0 [] [false,true,false,false] (fun q=>[1,1,1,1]) (fun q=>1000000) (fun q=>[]) 0 [DA] (fun E0 ke=>?_) (by cases v<;>kernel_rfl)
 exact .nh ke rfl
def dv(P:Params)(aI aA aK aC:Nat)(v:Bool)(o:Option Int)(fr:Nat)(tx:List Nat)(tc k c:Nat)(DA nz:Data):Spec:=⟨EW P aI aA aK aC fr,[aI,aA,aK,aC],[B2 k ((k+1:Nat):Int) (-1),A0 DA,kI P "k" o,E' tx tc],(.func::Ei v),fun A=>.fin (.again (EW P aI aA aK aC fr)),fun A=>[B2 ((k:Int)+(-1)) (((k+1:Nat):Int)-1) (-1),A0 nz,kI P "k" (some k),E' tx tc],fun A=>[]⟩
theorem Qb(aI aA aK aC:Nat)(v:Bool)(o:Option Int)(fr:Nat)(tx:List Nat)(tc k c:Nat)(DA nz:Data)(h:tx[k]?=some c)(hs:tx.length≤sizeLine)(acc:List Nat)(e:Nat)(hA:DA=.seq ⟨IT acc⟩ e)(qf:nz=.seq ⟨IT acc++[.str ⟨⟨[c]⟩⟩ 0]⟩ (e+1))(hl:acc.length≤sizeLine)(I:Lp→Prop):(dv w.2 aI aA aK aC v o fr tx tc k c DA nz).nP (wf w b b2) (A3 ((.func::Ei v))) (I) (I):=by
 refine BZ ((Cs.bb v).pp (Cs.oo o 0)) (fun z D=>dv w.2 aI aA aK aC z.1 z.2 fr tx tc k c (gD D 0) nz) (fun z D l=>dv w.2 aI aA aK aC z.1 z.2 fr tx tc k c (gD D 0) (ud l 0 0)) (fun z D=>(Af [ET tx k c,CV 1 (gD D 0) nz (.str ⟨⟨[c]⟩⟩ 0)])) 2 (fun z=>[]) [false,true,false,false] (hD 6 13 8195182387) 1 [0] 0 [DA] (fun E0 ke=>?_)
 exact .q (BG h hs) fun y y y=>.cons (Ab hA qf (by simpa [IT] using hl)) fun u1 y g1=>.nh ke (@id (eD (u1.d 0)=nz) (g1.1.1) ▸ rfl)
def dw(P:Params)(aI aA aK aC:Nat)(v:Bool)(fr:Nat)(tx:List Nat)(tc:Nat)(i k0:Int)(DA:Data):Spec:=⟨EW P aI aA aK aC fr,[aI,aA,aK,aC],[B2 i 0 (-1),A0 DA,kI P "k" (some k0),E' tx tc],(.func::Ei v),fun A=>.fin (.done .next),fun A=>[B2 i 0 (-1),A0 DA,kI P "k" (some k0),E' tx tc],fun A=>[]⟩
theorem Qd(aI aA aK aC:Nat)(v:Bool)(fr:Nat)(tx:List Nat)(tc:Nat)(i k0:Int)(DA:Data)(I:Lp→Prop):(dw w.2 aI aA aK aC v fr tx tc i k0 DA).nP (wf w b b2) (A3 ((.func::Ei v))) (I) (I):=by
 refine BZ (Cs.bb v) (fun z D=>dw w.2 aI aA aK aC z fr tx tc i k0 (gD D 0)) (fun z D l=>dw w.2 aI aA aK aC z fr tx tc i k0 (gD D 0)) (fun z D=>(Af [])) 0 (fun z=>[]) [false,true,false,false] [1,1,1,1,1,6] 1000000 [] 0 [DA] (fun E0 ke=>?_)
 exact .nh ke rfl
end
section
open PySem PySem.W PySem.W.X PySem.Builtin.Str
def Yg(v:Bool)(C:Code)(P:Params)(aI aA aK aC:Nat)(tx:List Nat)(tc:Nat)(pre:List Obj)(D:Data):Spec:=
 ⟨C,[aI,aA,aK,aC],pre,.func::Ei v,fun q=>.fin (.done .next),fun q=>[B2 (-1) 0 (-1),A0 D,kI P "k" (some 0),E' tx tc],fun q=>[]⟩
theorem D5(P:Params)(aI aA aK aC fr:Nat):B5 (EW P aI aA aK aC fr)=true:=by unfold B5; rw [BD]; rfl
theorem MH(v:Bool)(w:World)(b b2:Bool)(aI aA aK aC fr:Nat)(tx:List Nat)(tc:Nat)(hs:tx.length≤sizeLine)(I:Lp→Prop)(k:Nat):∀ (acc:List Nat) (e:Nat) (o:Option Int),k+1≤tx.length→acc.length+(k+1)≤sizeLine→
  (Yg v (EW w.2 aI aA aK aC fr) w.2 aI aA aK aC tx tc [B2 k ((k+1:Nat):Int) (-1),A0 (.seq ⟨IT acc⟩ e),kI w.2 "k" o,E' tx tc] (.seq ⟨IT (acc++(tx.take (k+1)).reverse)⟩ (e+k+1))).nP (wf w b b2) (A3 (.func::Ei v)) I I:=by
 have T:=fun k (hk:k+1≤tx.length) acc e o (hl:acc.length+(k+1)≤sizeLine)=>Qb w b b2 aI aA aK aC v o fr tx tc k tx[k] (.seq ⟨IT acc⟩ e) (.seq ⟨IT (acc++[tx[k]])⟩ (e+1)) (List.getElem?_eq_getElem hk) hs acc e rfl (by simp [IT]) (by lia) I
 have tk:∀ k (hk:k+1≤tx.length) (acc:List Nat),acc++(tx.take (k+1)).reverse=acc++[tx[k]]++(tx.take k).reverse:=fun k hk acc=>by
  rw [List.take_add_one,List.getElem?_eq_getElem hk]; simp
 induction k with
 | zero=>
  intro acc e o hk hl
  rw [tk 0 hk,List.take_zero,List.reverse_nil,List.append_nil]
  exact (T 0 hk acc e o hl).seq (S2:=Yg v (EW w.2 aI aA aK aC fr) w.2 aI aA aK aC tx tc [B2 (-1) 0 (-1),A0 (.seq ⟨IT (acc++[tx[0]])⟩ (e+1)),kI w.2 "k" (some 0),E' tx tc] (.seq ⟨IT (acc++[tx[0]])⟩ (e+0+1))) (fun q=>rfl) (D5 ..) rfl rfl (fun q=>rfl) (fun q=>rfl) (Qd w b b2 aI aA aK aC v fr tx tc (-1) 0 _ I)
 | succ j ih=>
  intro acc e o hk hl
  have ih:=ih (acc++[tx[j+1]]) (e+1) (some ((j+1:Nat):Int)) (by lia) (by rw [List.length_append,List.length_singleton]; lia)
  rw [tk (j+1) hk,show e+(j+1)+1=e+1+j+1 by lia]
  refine (T (j+1) hk acc e o hl).seq (S2:=Yg v (EW w.2 aI aA aK aC fr) w.2 aI aA aK aC tx tc [B2 j ((j+1:Nat):Int) (-1),A0 (.seq ⟨IT (acc++[tx[j+1]])⟩ (e+1)),kI w.2 "k" (some ((j+1:Nat):Int)),E' tx tc] _) (fun q=>rfl) (D5 ..) rfl rfl (fun q=>?_) (fun q=>rfl) ih
  show [B2 _ _ _,_,_,_]=[B2 _ _ _,_,_,_]
  rw [show ((j+1:Nat):Int)+(-1)=(j:Int) by lia,show ((j+1+1:Nat):Int)-1=((j+1:Nat):Int) by lia]
theorem Mb(v:Bool)(w:World)(b b2:Bool)(aI aA aK aC fr:Nat)(tx:List Nat)(tc:Nat)(hs:tx.length≤sizeLine)(h0:tx≠[])(I:Lp→Prop) :
  (Yg v (Jj w.2 aI aA aK aC fr) w.2 aI aA aK aC tx tc [B2 ((tx.length:Int)-1) tx.length (-1),A0 (.seq #[] 0),AR [] 0,E' tx tc] (.seq ⟨IT tx.reverse⟩ tx.length)).nP (wf w b b2) (A3 (.func::Ei v)) I I:=by
 obtain ⟨k,hk⟩:∃ k,tx.length=k+1:=⟨tx.length-1,by have:=List.length_pos_iff.mpr h0; lia⟩
 have L:=MH v w b b2 aI aA aK aC fr tx tc hs I k [] 0 none (by lia) (by rw [List.length_nil]; lia)
 rw [show []++(tx.take (k+1)).reverse=tx.reverse by rw [← hk,List.take_length]; rfl,show 0+k+1=tx.length by lia] at L
 rw [show ((tx.length:Int)-1)=(k:Int) by lia,show (tx.length:Int)=((k+1:Nat):Int) by lia]
 exact (Qe w b b2 aI aA aK aC v fr tx tc k ((k+1:Nat):Int) (.seq ⟨IT []⟩ 0) I).seq (S2:=Yg v (EW w.2 aI aA aK aC fr) w.2 aI aA aK aC tx tc [B2 k ((k+1:Nat):Int) (-1),A0 (.seq ⟨IT []⟩ 0),AR [] 0,E' tx tc] (.seq ⟨IT tx.reverse⟩ tx.length)) (fun q=>rfl) (D5 ..) rfl rfl (fun q=>rfl) (fun q=>rfl) L
end
section
open PySem PySem.W PySem.W.X
theorem Ga{kt:KT}{s:Shared}{L:Lp}{o:Obj}{tk:Nat}(H:BX kt s L)(hf:o.isFreed=false) :
  BX kt { s with heap:=s.heap.push o,toks:=tk } ((s.heap.objs.size,eO o)::L)∧Fr s { s with heap:=s.heap.push o,toks:=tk } L ((s.heap.objs.size,eO o)::L):=by
 refine ⟨⟨fun b ob h=>Heap.get?_push_of_some _ (H.top b ob h),fun q m=>?_,?_,fun q m=>?_⟩,?_,rfl,rfl,rfl,fun b ob h n=>Heap.get?_push_of_some _ h,fun q m=>?_⟩
 ·rcases List.mem_cons.mp m with rfl | m
  ·exact ⟨o,Heap.get?_push_size _ hf,rfl⟩
  ·obtain ⟨ob,h1,h2⟩:=H.own q m
   exact ⟨ob,Heap.get?_push_of_some _ h1,h2⟩
 ·rw [List.map_cons,List.nodup_cons]
  refine ⟨fun m=>?_,H.nd⟩
  obtain ⟨q,hq,e⟩:=List.mem_map.mp m
  have:=H.lt hq
  rw [e] at this
  exact absurd this (Nat.lt_irrefl _)
 ·rcases List.mem_cons.mp m with rfl | m
  ·cases hk:kt.get s.heap.objs.size with
   | none=>rfl
   | some z=>exact absurd (Heap.lt_size (H.top _ _ hk)) (Nat.lt_irrefl _)
  ·exact H.off q m
 ·cases s with | mk h=>cases h; rfl
 ·rcases List.mem_cons.mp m with rfl | m
  ·exact .inr (Nat.le_refl _)
  ·exact .inl (List.mem_map_of_mem m)
theorem Fr.perm{s s':Shared}{L L' M:Lp}(F:Fr s s' L L')(p:L'.Perm M):Fr s s' L M:=⟨F.life,F.gens,F.drawn,F.os,F.old,fun q m=>F.new q (p.mem_iff.mpr m)⟩
noncomputable def Z9(a b c:Int):Obj:={ cls:=.type "range",data:=.fields #[.int a 0,.int b 0,.int c 0] }
def ew(aR:Nat)(a b c n:Int):Spec:=⟨.call (.builtin "range.__iter__") ⟨[.ref aR],[]⟩,[aR],[Z9 a b c],[],fun A=>.fin (.done (.ret (.ref (A 0)))),fun q=>[Z9 a b c],fun q=>[B2 a n c]⟩
theorem Xr{o:Obj}{a b c:Int}(h:eO o=Z9 a b c):∃ t u v,o = { cls:=.type "range",dict:=none,data:=.fields #[.int a t,.int b u,.int c v],slots:=#[] }:=by
 obtain ⟨q,e⟩:=Bj o
 rw [h] at e
 subst e
 exact ⟨_,_,_,rfl⟩
theorem RB(w:World)(aR:Nat)(a b c n:Int)(hn:Builtin.Range.rangeSize a b c=n)(pD:(Builtin.Range.rangeFitsLong a&&Builtin.Range.rangeFitsLong b&&Builtin.Range.rangeFitsLong c&&Builtin.Range.rangeFitsLong n&&(n==0 || if c > 0 then Builtin.Range.rangeFitsLong (b+(c-1)) else Builtin.Range.rangeFitsLong (b+(c+1))))=true)(I:Lp→Prop):(ew aR a b c n).nP w Il I I:=by
 intro P hI
 refine KQ fun as A s L hL ha H Q E hq=>?_
 subst hL
 obtain ⟨x,rfl,e1⟩:=E5 ha
 obtain rfl:=AD e1
 have H':BX (A4 w.2) s ((aR,Z9 a b c)::P):=H
 obtain ⟨o,ho,hO⟩:=H'.find
 obtain ⟨t,u,v,rfl⟩:=Xr hO
 refine call_meets F.slot_range_iter ⟨_,ho,rfl⟩ F.entry_range_iter (F.args_range_iter_1 _) (AutoRange.range___iter___range_1 aR a b c t u v (by rw [hn,pD]; decide)) ⟨ho,?_⟩
 have U:=Ga (o:={ cls:=Value.type "range_iterator",data:=.fields #[rawInt a,rawInt n,rawInt c] }) (tk:=s.toks) H' rfl
 have pm:((s.heap.objs.size,eO { cls:=Value.type "range_iterator",data:=.fields #[rawInt a,rawInt n,rawInt c] })::(aR,Z9 a b c)::P).Perm ((ew aR a b c n).o8 (fun q=>s.heap.objs.size)++P):=List.Perm.swap _ _ _
 refine hq _ _ _ ⟨fun q=>s.heap.objs.size,P,hI,fun q m=>m,rfl,rfl⟩ (BX.perm ?_ pm) (Fr.perm ?_ pm)
 ·simp only [hn,pD,if_true]
  exact U.1
 ·simp only [hn,pD,if_true]
  exact U.2
def Rt(m:Nat)(a b c n:Int):AA:=B6 (fun q=>[]) [m] [] [] (fun x=>ew (A2 x m) a b c n)
theorem IB{w:World}{m:Nat}{a b c n:Int}{I:Lp→Prop}(hn:Builtin.Range.rangeSize a b c=n)(pD:(Builtin.Range.rangeFitsLong a&&Builtin.Range.rangeFitsLong b&&Builtin.Range.rangeFitsLong c&&Builtin.Range.rangeFitsLong n&&(n==0 || if c > 0 then Builtin.Range.rangeFitsLong (b+(c-1)) else Builtin.Range.rangeFitsLong (b+(c+1))))=true):(Rt m a b c n).oB pw w (A4 w.2) I I:=
 AF (w:=w) (Sf:=fun q=>Il) (fun x=>RB w (A2 x m) a b c n hn pD I) (fun q q q q q q q q=>Hy) (by simp) (fun q=>⟨rfl,rfl,fun q=>rfl⟩) (fun q q=>rfl)
end
section
open PySem PySem.W PySem.W.X PyProof.Rows
section
noncomputable def DV(P:Params)(q:Str×Value):DictEntry:=⟨PyData.keyHash P q.1,.str q.1 0,q.2⟩
def A8(P:Params)(N:List (Str×Value))(n:Nat):Data:=.dict ⟨N.map (DV P)⟩ n
noncomputable def A7(D:Data):Obj:={ cls:=.type "dict",data:=D }
noncomputable def BI(N:List (Str×Value))(x:Str):Option Value:=(N.find? (fun q=>q.1==x)).map (·.2)
def Cv(e:DictEntry):DictEntry:=⟨e.hash,eV e.key,eV e.val⟩
theorem Bo{o:Obj}{P:Params}{N:List (Str×Value)}{n:Nat}(h:eO o=A7 (A8 P N n)):∃ es:Array DictEntry,o = { cls:=.type "dict",dict:=none,data:=.dict es n,slots:=#[] }∧es.toList.map Cv=N.map (DV P):=by
 obtain ⟨q,e⟩:=Bj o
 rw [h] at e
 subst e
 exact ⟨_,rfl,congrArg (fun o:Obj=>match o.data with | .dict es _=>es.toList | _=>[]) h⟩
theorem JC(v:Value)(x:Str):(eV v).isStr x=v.isStr x:=by cases v<;>rfl
theorem Bn{P:Params}:∀ {l:List DictEntry} {N:List (Str×Value)},l.map Cv=N.map (DV P)→(l.all fun e=>isExactStrKey e.key)=true
 | [],_,_=>rfl
 | e::l,[],h=>by cases h
 | e::l,q::N,h=>by
  simp only [List.map_cons,List.cons.injEq] at h
  rw [List.all_cons,Bn h.2,Bool.and_true]
  have:=congrArg DictEntry.key h.1
  obtain ⟨t,ht⟩:=AM this
  rw [ht]; rfl
theorem Ew{P:Params}(x:Str):∀ {l:List DictEntry} {N:List (Str×Value)},l.map Cv=N.map (DV P)→((l.find? fun e=>e.key.isStr x).map (·.val)).map eV=BI N x
 | [],[],_=>rfl
 | [],_::_,h=>by cases h
 | e::l,[],h=>by cases h
 | e::l,q::N,h=>by
  simp only [List.map_cons,List.cons.injEq] at h
  have hk:eV e.key=.str q.1 0:=congrArg DictEntry.key h.1
  have hv:eV e.val=q.2:=congrArg DictEntry.val h.1
  have e1:e.key.isStr x=(q.1==x):=by rw [← JC,hk]; rfl
  have ih:=Ew x h.2
  unfold BI at ih ⊢
  rw [List.find?_cons,List.find?_cons,e1]
  cases hq:q.1==x with
  | true=>simp [hv]
  | false=>exact ih
theorem Gg{P:Params}(x:Str):∀ {l:List DictEntry} {N:List (Str×Value)},l.map Cv=N.map (DV P)→(l.findIdx? fun e=>e.key.isStr x)=N.findIdx? (fun q=>q.1==x)
 | [],[],_=>rfl
 | [],_::_,h=>by cases h
 | e::l,[],h=>by cases h
 | e::l,q::N,h=>by
  simp only [List.map_cons,List.cons.injEq] at h
  have hk:eV e.key=.str q.1 0:=congrArg DictEntry.key h.1
  have e1:e.key.isStr x=(q.1==x):=by rw [← JC,hk]; rfl
  rw [List.findIdx?_cons,List.findIdx?_cons,e1,Gg x h.2]
section
variable{prog:Program}{w:World}{A:Around}{E:Value→Shared→Prop}{s:Shared}
theorem CX{d:Addr}{o:Obj}{es:Array DictEntry}{ep:Nat}{x:Str}{t:Tok}{Q:Option Value→Shared→Prop}(ho:s.heap.get? d=some o)(hd:o.data=.dict es ep)(rT:(es.toList.all fun e=>isExactStrKey e.key)=true)
  (h:Q ((es.toList.find? fun e=>e.key.isStr x).map (·.val)) { s with toks:=s.toks+1 }):wpAny (model prog w) A (dictGet d (.str x t)) Q E s:=by
 unfold dictGet
 try with_reducible refine wpAny_holding ?_
 refine wpAny_bind (wpAny_pyHash_str (wpAny_bind (KTD.kt_dictFind_strs (s:={ s with toks:=s.toks+1 }) ho hd (by obtain ⟨l⟩:=es; simpa using rT) ?_)))
 have hf:(es.toList.find? fun e=>e.key.isStr x).map (·.val)=(es.findIdx? fun e=>e.key.isStr x).bind (fun i=>(es[i]?).map (·.val)):=by
  obtain ⟨l⟩:=es
  simp only [List.findIdx?_toArray,List.getElem?_toArray]
  clear h rT hd ho
  induction l with
  | nil=>rfl
  | cons e l ih=>
   rw [List.find?_cons,List.findIdx?_cons]
   cases e.key.isStr x with
   | true=>rfl
   | false=>
    dsimp only at ih ⊢
    rw [ih]
    cases List.findIdx? (fun e=>e.key.isStr x) l<;>rfl
 rw [hf] at h
 cases hi:es.findIdx? fun e=>e.key.isStr x with
 | none=>rw [hi] at h; exact wpAny_pure h
 | some i=>rw [hi] at h; exact wpAny_bind (wpAny_dictEntries (s:={ s with toks:=s.toks+1 }) ho hd (wpAny_pure h))
end
theorem Fd{w:World}{s:Shared}{a:Nat}{O:Obj}{P:Lp}(H:BX (A4 w.2) s ((a,O)::P)):(a==sysModules)=false:=by
 have h:=H.off (a,O) (.head _)
 by_cases e:a=sysModules
 ·subst e
  have:((A4 w.2).get sysModules).isSome=true:=by kernel_rfl
  rw [h] at this; cases this
 ·simpa using e
noncomputable def E9(C:Code)(a:Nat)(O O':Obj)(r:Value):Spec:=⟨C,[a],[O],[],fun q=>.fin (.done (.ret r)),fun q=>[O'],fun q=>[]⟩
def SK(C:Nat→Code)(m:Nat)(O O':Obj)(r:Value):AA:=B6 (fun q=>[]) [m] [true] [] (fun x=>E9 (C (A2 x m)) (A2 x m) O O' r)
theorem IF{w:World}{C:Nat→Code}{m:Nat}{O O':Obj}{r:Value}{I:Lp→Prop}(h:∀ a,(E9 (C a) a O O' r).nP w Il I I):(SK C m O O' r).oB pw w (A4 w.2) I I:=
 AF (w:=w) (Sf:=fun q=>Il) (fun x=>h (A2 x m)) (fun q q q q q q q q=>Hy) (by simp) (fun q=>⟨rfl,rfl,fun q=>rfl⟩) (fun q q=>rfl)
def QA(w:World)(f:Value)(as:List Value)(a:Nat)(O:Obj)(r:Value):Prop:=
 ∀ (vs:List Value) (A:Around) (s:Shared) (P:Lp) (o:Obj),vs.map eV=as→BX (A4 w.2) s ((a,O)::P)→s.heap.get? a=some o→eO o=O→∀ (Q E:Value→Shared→Prop),(∀ v tk,eV v=r→Q v { s with toks:=tk })→wpAny (model pw w) A (call f vs) Q E s
def H0(f:Value)(as:Nat→List Value)(m:Nat)(O:Obj)(r:Value):AA:=Iz (fun X=>.call f ⟨as (A2 X m),[]⟩) [m] (fun X=>[some (A2 X m,O)]) (fun u q=>.ok (.ret (dV u r)))
theorem LM{kt:KT}{s:Shared}{X:SX}{m a:Nat}{o:Obj}(D:Bd kt s X)(h:X.T.get m=some (a,o)):BX kt s [(a,eO o)]:=
 ⟨D.top,fun q hq=>by obtain rfl:=List.mem_singleton.mp hq; exact ⟨o,D.own _ _ _ h,rfl⟩,by simp,fun q hq=>by obtain rfl:=List.mem_singleton.mp hq; exact D.off _ _ _ h⟩
theorem C2{w:World}{f:Value}{as:Nat→List Value}{m:Nat}{O:Obj}{r:Value}(h:∀ a,QA w f (as a) a O r):(H0 f as m O r).Ok pw w (A4 w.2):=Cm fun c X hc hp=>by
 obtain ⟨ps,rfl,e⟩:=AZ hc
 obtain ⟨o,ho,ho2⟩:=B0 (List.cons.inj hp).1
 refine D6 (Pre:=fun s=>Bd (A4 w.2) s X) fun A s D Q E hq=>?_
 have H:=LM D ho
 rw [ho2] at H
 exact h (A2 X m) ps A s [] o e H (D.own _ _ _ ho) ho2 Q E fun v tk hv=>hq v _ ⟨Hs v,by rw [← hv,Ec]⟩ B4
theorem IU{w:World}{f:Value}{as:Nat→List Value}{a:Nat}{O O':Obj}{r:Value}{I:Lp→Prop}
  (h:∀ (vs:List Value) (A:Around) (s:Shared) (P:Lp) (o:Obj),vs.map eV=as a→BX (A4 w.2) s ((a,O)::P)→s.heap.get? a=some o→eO o=O→∀ (Q E:Value→Shared→Prop),(∀ v tk g o',eV v=r→g o=o'→eO o'=O'→o'.isFreed=false→Q v { s with heap:=s.heap.update a g,toks:=tk })→wpAny (model pw w) A (call f vs) Q E s) :
  (E9 (.call f ⟨as a,[]⟩) a O O' r).nP w Il I I:=by
 intro P hI
 refine KQ fun vs A s L hL ha H Q E hq=>?_
 subst hL
 have H':BX (A4 w.2) s ((a,O)::P):=H
 obtain ⟨o,ho,hO⟩:=H'.find
 refine h vs A s P o ha H' ho hO Q E fun v tk g o' hv hg qt hf=>?_
 rw [← hO] at H'
 have U:=Bm (f:=g) (tk:=tk) H' ho hg hf
 rw [qt,hO] at U
 exact hq v _ _ ⟨fun q=>0,P,hI,fun q m=>m,by rw [hv]; rfl,rfl⟩ U.1 U.2
section
variable{w:World}{D D':Data}{N:List (Str×Value)}{n:Nat}{x:Str}{r v:Value}{I:Lp→Prop}
theorem Et{P:Params}{es:Array DictEntry}{x:Str}{N:List (Str×Value)}(he:es.toList.map Cv=N.map (DV P)){r:Value}(h:BI N x=some r):∃ v,(es.toList.find? fun e=>e.key.isStr x).map (·.val)=some v∧eV v=r:=by
 have:=Ew x he
 rw [h] at this
 cases q:(es.toList.find? fun e=>e.key.isStr x).map (·.val) with
 | none=>rw [q] at this; cases this
 | some v=>rw [q] at this; exact ⟨v,rfl,by simpa using this⟩
theorem Hi{P:Params}{es:Array DictEntry}{x:Str}{N:List (Str×Value)}(he:es.toList.map Cv=N.map (DV P))(h:BI N x=none):(es.toList.find? fun e=>e.key.isStr x).map (·.val)=none:=by
 have:=Ew x he
 rw [h] at this
 cases q:(es.toList.find? fun e=>e.key.isStr x).map (·.val) with
 | none=>rfl
 | some v=>rw [q] at this; cases this
theorem Dt{α β:Type}{f:α→β}{l:List α}{k:Nat}(h:l.length=k+1):(l.eraseIdx k).map f=(l.map f).take k:=by
 rw [List.eraseIdx_eq_take_drop_succ,List.drop_eq_nil_of_le (by lia),List.append_nil,List.map_take]
theorem Pj(a:Nat)(hD:D=A8 w.2 N n)(hr:(BI N x).getD .none=r):QA w (.builtin "dict.get") [.ref a,.str x 0] a (A7 D) r:=by
 subst hD
 intro vs A s P o ha H ho hO Q E hq
 obtain ⟨u,y,rfl,e1,e2⟩:=Bb ha
 obtain rfl:=AD e1
 obtain ⟨t,rfl⟩:=AM e2
 obtain ⟨es,rfl,he⟩:=Bo hO
 refine wpAny_call_entry F.slot_dict_get ⟨_,ho,rfl⟩ F.entry_dict_get ?_ (F.args_dict_get_2 _ _)
 show wpAny _ _ (dictGet a (.str x t)>>=_) _ _ s
 refine wpAny_bind (CX ho rfl (Bn he) ?_)
 cases hl:BI N x with
 | some y=>
  obtain ⟨v,hv,ev⟩:=Et he hl
  rw [hv]
  rw [hl] at hr
  exact wpAny_pure ⟨v,rfl,hq v _ (by rw [ev]; exact hr)⟩
 | none=>
  rw [Hi he hl]
  rw [hl] at hr
  show wpAny _ _ (Builtin.Dict.missed a (.str x t)>>=_) _ _ _
  exact wpAny_bind (wpAny_missed_other (Fd H) (wpAny_pure ⟨.none,rfl,hq _ _ (by rw [← hr]; rfl)⟩))
theorem Ma(a:Nat)(hD:D=A8 w.2 N n)(hr:BI N x=some r):QA w (.builtin "dict.__getitem__") [.ref a,.str x 0] a (A7 D) r:=by
 subst hD
 intro vs A s P o ha H ho hO Q E hq
 obtain ⟨u,y,rfl,e1,e2⟩:=Bb ha
 obtain rfl:=AD e1
 obtain ⟨t,rfl⟩:=AM e2
 obtain ⟨es,rfl,he⟩:=Bo hO
 refine wpAny_call_entry slot_dict_getitem ⟨_,ho,rfl⟩ entry_dict_getitem ?_ (args_dict_getitem _ _)
 show wpAny _ _ (dictGet a (.str x t)>>=_) _ _ s
 refine wpAny_bind (CX ho rfl (Bn he) ?_)
 obtain ⟨v,hv,ev⟩:=Et he hr
 rw [hv]
 exact wpAny_pure ⟨v,rfl,hq v _ ev⟩
theorem Ph{b:Bool}(a:Nat)(hD:D=A8 w.2 N n)(hr:(BI N x).isSome=b):QA w (.builtin "dict.__contains__") [.ref a,.str x 0] a (A7 D) (.bool b):=by
 subst hD
 intro vs A s P o ha H ho hO Q E hq
 obtain ⟨u,y,rfl,e1,e2⟩:=Bb ha
 obtain rfl:=AD e1
 obtain ⟨t,rfl⟩:=AM e2
 obtain ⟨es,rfl,he⟩:=Bo hO
 refine wpAny_call_entry slot_dict_contains ⟨_,ho,rfl⟩ entry_dict_contains ?_ (args_dict_contains _ _)
 show wpAny _ _ (dictGet a (.str x t)>>=_) _ _ s
 refine wpAny_bind (CX ho rfl (Bn he) ?_)
 cases hl:BI N x with
 | some y=>
  obtain ⟨v,hv,ev⟩:=Et he hl
  rw [hv]
  rw [hl] at hr
  exact wpAny_pure ⟨_,rfl,hq _ _ (by rw [← hr]; rfl)⟩
 | none=>
  rw [Hi he hl]
  rw [hl] at hr
  show wpAny _ _ (Builtin.Dict.pendingKey? a (.str x t)>>=_) _ _ _
  exact wpAny_bind (wpAny_pendingKey_other (Fd H) (wpAny_pure ⟨_,rfl,hq _ _ (by rw [← hr]; rfl)⟩))
theorem H7{P:Params}{es:Array DictEntry}{x:Str}{N:List (Str×Value)}(he:es.toList.map Cv=N.map (DV P))(h:BI N x=none):(es.findIdx? fun e=>e.key.isStr x)=none:=by
 obtain ⟨l⟩:=es
 simp only [List.findIdx?_toArray]
 have e1:=Gg x (l:=l) he
 rw [e1,List.findIdx?_eq_none_iff]
 intro q hq
 unfold BI at h
 rw [Option.map_eq_none_iff,List.find?_eq_none] at h
 simpa using h q hq
theorem Pf(a:Nat)(hD:D=A8 w.2 N n)(hx:BI N x=none)(pF:D'=A8 w.2 (N++[(x,v)]) (n+1))(hs:N.length≤sizeLine):(E9 (.call (.builtin "dict.__setitem__") ⟨[.ref a,.str x 0,v],[]⟩) a (A7 D) (A7 D') .none).nP w Il I I:=by
 subst hD pF
 refine IU (as:=fun a=>[.ref a,.str x 0,v]) fun vs A s P o ha H ho hO Q E hq=>?_
 cases vs with
 | nil=>cases ha
 | cons u vs=>
 simp only [List.map_cons,List.cons.injEq] at ha
 obtain ⟨e1,ha⟩:=ha
 obtain ⟨y,z,rfl,e2,e3⟩:=Bb ha
 obtain rfl:=AD e1
 obtain ⟨t,rfl⟩:=AM e2
 obtain ⟨es,rfl,he⟩:=Bo hO
 have hz:es.size≤sizeLine:=by
  have:=congrArg List.length he
  simp only [List.length_map,Array.length_toList] at this
  lia
 refine wpAny_call_entry slot_dict_setitem ⟨_,ho,rfl⟩ entry_dict_setitem ?_ (args_dict_setitem _ _ _)
 show wpAny _ _ (Builtin.Dict.notOrdered "__setitem__" ⟨[.ref a,.str x t,z],[]⟩>>=_) _ _ s
 refine wpAny_bind (wpAny_notOrdered_dict ⟨_,ho,rfl⟩ ?_)
 show wpAny _ _ (dictSet a (.str x t) z>>=_) _ _ s
 refine wpAny_bind ?_
 unfold dictSet
 refine wpAny_holding (wpAny_bind (wpAny_pyHash_str ?_))
 unfold dictSetHashed
 refine wpAny_holding (wpAny_bind (KTD.kt_dictFind_strs (s:={ s with toks:=s.toks+1 }) ho rfl (by have:=Bn he; obtain ⟨l⟩:=es; simpa using this) ?_))
 rw [H7 he hx]
 refine wpAny_bind (wpAny_rule (wpAny_updateDictKeys (hz:=hz) (s:={ s with toks:=s.toks+1 }) ho rfl ?_))
 refine wpAny_pure ⟨.none,rfl,hq .none (s.toks+1) _ _ rfl rfl ?_ rfl⟩
 show eO { cls:=.type "dict",dict:=none,data:=.dict (es.push ⟨hashStr w x,.str x t,z⟩) (n+1),slots:=#[] } = _
 have:(es.push ⟨hashStr w x,.str x t,z⟩).toList.map Cv=(N++[(x,v)]).map (DV w.2):=by
  rw [Array.toList_push,List.map_append,List.map_append,he]
  simp only [List.map_cons,List.map_nil,Cv,e3]
  rfl
 unfold A7 A8
 rw [← this]
 rfl
theorem Pk(a:Nat)(hD:D=A8 w.2 (N++[(x,v)]) n)(hx:BI N x=none)(pF:D'=A8 w.2 N (n+1))(hs:N.length < sizeLine):(E9 (.call (.builtin "dict.__delitem__") ⟨[.ref a,.str x 0],[]⟩) a (A7 D) (A7 D') .none).nP w Il I I:=by
 subst hD pF
 refine IU (as:=fun a=>[.ref a,.str x 0]) fun vs A s P o ha H ho hO Q E hq=>?_
 obtain ⟨u,y,rfl,e1,e2⟩:=Bb ha
 obtain rfl:=AD e1
 obtain ⟨t,rfl⟩:=AM e2
 obtain ⟨es,rfl,he⟩:=Bo hO
 have hlen:es.size=N.length+1:=by
  have:=congrArg List.length he
  simpa using this
 refine wpAny_call_entry F.slot_dict_delitem ⟨_,ho,rfl⟩ F.entry_dict_delitem ?_ (F.args_dict_delitem_2 _ _)
 unfold Builtin.«dict.__delitem__»
 refine wpAny_bind ?_
 unfold Builtin.Dict.dictSlotArgs
 refine wpAny_bind (wpAny_notOrdered_dict ⟨_,ho,rfl⟩ ?_)
 show wpAny _ _ (pure (Value.ref a,Value.str x t)) _ _ s
 refine wpAny_pure ?_
 show wpAny _ _ (Builtin.Dict.takeOut a (.str x t)>>=_) _ _ s
 refine wpAny_bind ?_
 unfold Builtin.Dict.takeOut
 refine wpAny_holding (wpAny_bind (wpAny_pyHash_str ?_))
 refine wpAny_bind (KTD.kt_dictFind_strs (s:={ s with toks:=s.toks+1 }) ho rfl (by have:=Bn he; obtain ⟨l⟩:=es; simpa using this) ?_)
 have hi:(es.findIdx? fun e=>e.key.isStr x)=some N.length:=by
  obtain ⟨l⟩:=es
  simp only [List.findIdx?_toArray]
  have e1:=Gg x (l:=l) he
  rw [e1,List.findIdx?_append]
  have:List.findIdx? (fun q:Str×Value=>q.1==x) N=none:=by
   rw [List.findIdx?_eq_none_iff]
   intro q hq
   unfold BI at hx
   rw [Option.map_eq_none_iff,List.find?_eq_none] at hx
   simpa using hx q hq
  rw [this]
  simp
 rw [hi]
 refine wpAny_bind (wpAny_dictEntries (s:={ s with toks:=s.toks+1 }) ho rfl ?_)
 rw [Array.getElem?_eq_getElem (by lia:N.length < es.size)]
 refine wpAny_bind (wpAny_updateDictKeysTo (s:={ s with toks:=s.toks+1 }) ho rfl (wpAny_pure ?_) ?_)
 ·dsimp only
  refine wpAny_bind (wpAny_letGo (wpAny_pure ⟨.none,rfl,hq .none (s.toks+1) _ _ rfl rfl ?_ rfl⟩))
  show eO { cls:=.type "dict",dict:=none,data:=.dict (es.eraseIdxIfInBounds N.length) (n+1),slots:=#[] } = _
  have:(es.eraseIdxIfInBounds N.length).toList.map Cv=N.map (DV w.2):=by
   obtain ⟨l⟩:=es
   have he':l.map Cv=(N++[(x,v)]).map (DV w.2):=he
   have el:(Array.mk l).eraseIdxIfInBounds N.length=⟨l.eraseIdx N.length⟩:=by
    simp
   rw [el]
   show (l.eraseIdx N.length).map Cv=_
   rw [Dt (by simpa using hlen),he',List.map_append]
   simp
  unfold A7 A8
  rw [← this]
  rfl
 ·have:(es.eraseIdxIfInBounds N.length).size≤es.size:=by
   obtain ⟨l⟩:=es
   have:(l.eraseIdx N.length).length≤l.length:=List.length_eraseIdx_le ..
   simpa using this
  have h2:es.size≤sizeLine+1:=by lia
  exact Nat.le_trans this h2
end
end
section
def BA(vs:List Str):List Value:=vs.map (fun x=>.str x 0)
theorem Ap{o:Obj}{vs:List Value}{n:Nat}(h:eO o=A0 (.seq ⟨vs⟩ n)):∃ xs:Array Value,o = { cls:=.type "list",dict:=none,data:=.seq xs n,slots:=#[] }∧xs.toList.map eV=vs:=IQ h
noncomputable def AV(D:Data):Obj:={ cls:=.type "tuple",data:=D }
theorem Eb{o:Obj}{vs:List Value}{n:Nat}(h:eO o=AV (.seq ⟨vs⟩ n)):∃ xs:Array Value,o = { cls:=.type "tuple",dict:=none,data:=.seq xs n,slots:=#[] }∧xs.toList.map eV=vs:=by
 obtain ⟨q,e⟩:=Bj o
 rw [h] at e
 subst e
 exact ⟨_,rfl,congrArg Va h⟩
theorem B7{xs:Array Value}{vs:List Value}(h:xs.toList.map eV=vs):xs.size=vs.length:=by
 have:=congrArg List.length h
 simpa using this
theorem De{xs:Array Value}{vs:List Value}(h:xs.toList.map eV=vs)(i:Nat):(xs[i]?).map eV=vs[i]?:=by
 obtain ⟨l⟩:=xs
 rw [← h]; simp
theorem Cy{xs:Array Value}{vs:List Value}(h:xs.toList.map eV=vs){i:Nat}{v:Value}(hv:vs[i]?=some v):∃ y,xs[i]?=some y∧eV y=v:=by
 have:=De h i
 rw [hv] at this
 cases q:xs[i]? with
 | none=>rw [q] at this; cases this
 | some y=>rw [q] at this; exact ⟨y,rfl,by simpa using this⟩
theorem Io{xs:Array Value}{vs:List Value}(h:xs.toList.map eV=vs){i:Nat}(hv:vs[i]?=none):xs[i]?=none:=by
 have:=De h i
 rw [hv] at this
 cases q:xs[i]? with
 | none=>rfl
 | some y=>rw [q] at this; cases this
section
variable{w:World}{D D':Data}{vs:List Value}{n:Nat}{v:Value}{I:Lp→Prop}
theorem ML(a:Nat)(hD:D=.seq ⟨vs++[v]⟩ n)(hs:vs.length < 2 ^ 62):QA w (.builtin "list.__getitem__") [.ref a,.int (-1) 0] a (A0 D) v:=by
 subst hD
 intro ps A s P o ha H ho hO Q E hq
 obtain ⟨u,y,rfl,e1,e2⟩:=Bb ha
 obtain rfl:=AD e1
 obtain ⟨t,rfl⟩:=E8 e2
 obtain ⟨xs,rfl,hx⟩:=Ap hO
 have hl:=B7 hx
 simp only [List.length_append,List.length_cons,List.length_nil] at hl
 obtain ⟨z,hz,ez⟩:=Cy hx (i:=vs.length) (v:=v) (by simp)
 refine wpAny_call_entry slot_list_getitem ⟨_,ho,rfl⟩ entry_list_getitem ?_ (args_list_getitem _ _)
 show wpAny _ _ (Builtin.List.listSubscript? (.int (-1) t)>>=_) _ _ s
 refine wpAny_bind (wpAny_listSubscript_int (fitsIndex_neg (by decide) (by decide)) ?_)
 have hidx:seqIndex? (-1) xs.size=some vs.length:=by
  rw [PySem.MeetsSeq.seqIndex_neg (by decide) (by lia)]
  congr 1; lia
 show wpAny _ _ ((Builtin.List.listItems (.ref a)>>=fun xs=>pure ((seqIndex? (Int.negSucc 0) xs.size).bind fun i=>xs[i]?.map (i,·)))>>=_) _ _ s
 refine wpAny_bind (wpAny_bind ?_)
 show wpAny _ _ (seqItems? (.ref a)>>=_) _ _ s
 refine wpAny_bind (wpAny_seqItems ho rfl (wpAny_pure (wpAny_pure ?_)))
 rw [show (Int.negSucc 0)=-1 from rfl,hidx]
 simp only [Option.bind_some,hz,Option.map_some]
 exact wpAny_pure ⟨z,rfl,hq z s.toks ez⟩
theorem P4(a:Nat)(hD:D=.seq ⟨vs++[v]⟩ n)(pF:D'=.seq ⟨vs⟩ (n+1))(hs:vs.length < sizeLine):(E9 (.call (.builtin "list.pop") ⟨[.ref a],[]⟩) a (A0 D) (A0 D') v).nP w Il I I:=by
 subst hD pF
 refine IU (as:=fun a=>[.ref a]) fun ps A s P o ha H ho hO Q E hq=>?_
 obtain ⟨u,rfl,e1⟩:=E5 ha
 obtain rfl:=AD e1
 obtain ⟨xs,rfl,hx⟩:=Ap hO
 have hl:=B7 hx
 simp only [List.length_append,List.length_cons,List.length_nil] at hl
 obtain ⟨z,hz,ez⟩:=Cy hx (i:=vs.length) (v:=v) (by simp)
 refine call_meets F.slot_list_pop ⟨_,ho,rfl⟩ F.entry_list_pop (F.args_list_pop_1 _) (PySem.MeetsSeq.list_pop_last a xs n z (by rw [hl]; exact hz) (by lia)) ⟨ho,?_⟩
 have sz:(xs.eraseIdxIfInBounds (xs.size-1)).size=xs.size-1:=by
  obtain ⟨l⟩:=xs
  have hl':l.length=vs.length+1:=hl
  simp only [List.eraseIdxIfInBounds_toArray,List.size_toArray,hl',Nat.add_sub_cancel]
  rw [List.length_eraseIdx_of_lt (by lia),hl',Nat.add_sub_cancel]
 have ne:((xs.eraseIdxIfInBounds (xs.size-1)).size==xs.size)=false:=by rw [sz]; simp; lia
 refine hq z s.toks _ { cls:=.type "list",dict:=none,data:=.seq (xs.eraseIdxIfInBounds (xs.size-1)) (n+1),slots:=#[] } ez (by simp only [Obj.mapSeq,ne]; rfl) ?_ rfl
 have:(xs.eraseIdxIfInBounds (xs.size-1)).toList.map eV=vs:=by
  obtain ⟨l⟩:=xs
  have hx':l.map eV=vs++[v]:=hx
  have hl':l.length=vs.length+1:=hl
  have el:(Array.mk l).eraseIdxIfInBounds ((Array.mk l).size-1)=⟨l.eraseIdx vs.length⟩:=by simp [hl']
  rw [el]
  show (l.eraseIdx vs.length).map eV=_
  rw [Dt hl',hx']
  simp
 rw [← this]; rfl
theorem P5(a:Nat){r:Int}(hD:D=.seq ⟨vs⟩ n)(hr:(vs.length:Int)=r)(hs:vs.length < 2 ^ 62):QA w (.builtin "len") [.ref a] a (A0 D) (.int r 0):=by
 subst hD hr
 intro ps A s P o ha H ho hO Q E hq
 obtain ⟨u,rfl,e1⟩:=E5 ha
 obtain rfl:=AD e1
 obtain ⟨xs,rfl,hx⟩:=Ap hO
 have hl:=B7 hx
 exact Calls.call_len_list ⟨_,ho,rfl,n,rfl⟩ (by lia) (hq _ _ (by rw [hl]; rfl))
theorem NC(a:Nat){r:Int}(hD:D=.seq ⟨vs⟩ n)(hr:(vs.length:Int)=r)(hs:vs.length < 2 ^ 62):QA w (.builtin "len") [.ref a] a (AV D) (.int r 0):=by
 subst hD hr
 intro ps A s P o ha H ho hO Q E hq
 obtain ⟨u,rfl,e1⟩:=E5 ha
 obtain rfl:=AD e1
 obtain ⟨xs,rfl,hx⟩:=Eb hO
 have hl:=B7 hx
 exact len_tuple ⟨_,ho,rfl,n,rfl⟩ (by lia) (hq _ _ (by rw [hl]; rfl))
end
noncomputable def NM:Pos→List Frame→Prop:=fun pc nj=>∃ k g l cd rest,nj=Frame.ret k none g l cd pc []::rest∧topHandled rest=none
theorem Ed{w:World}{Sh:Pos→List Frame→Prop}{C:Code}{Pre:Lp→Prop}{ni:End→Lp→Prop}(q9:∀ pc nj,Sh pc nj→NM pc nj)
  (h:∀ (c:Code) (A:Around) (s:Shared) (L:Lp),Pre L→eC c=C→BX (A4 w.2) s L→A.handled=none→A.in1.handled=none→∀ (Q E:Value→Shared→Prop),(∀ v s' L',ni (.fin (.done (.ret (eV v)))) L'→BX (A4 w.2) s' L'→Fr s s' L L'→Q v s')→(∀ e s' L',ni (.err e) L'→BX (A4 w.2) s' L'→Fr s s' L L'→E e s')→wpAny (model pw w) A (runValue c) Q E s):Dn w Sh C Pre ni:=by
 intro c s pc nj L hp hc H hs
 obtain ⟨k,g,l,cd,rest,rfl,hh⟩:=q9 _ _ hs
 exact C' (h c (UI cd rest) s L hp hc H hh hh (fun v s'=>∃ L',ni (.fin (.done (.ret (eV v)))) L'∧BX (A4 w.2) s' L'∧Fr s s' L L') (fun e s'=>∃ L',ni (.err e) L'∧BX (A4 w.2) s' L'∧Fr s s' L L') (fun v s' L' a b c=>⟨L',a,b,c⟩) (fun v s' L' a b c=>⟨L',a,b,c⟩)) (fun v s' _ _ ⟨L',a,b,c⟩ go=>⟨.fin (.done (.ret v)),s',L',_,_,go,a,b,c⟩) (fun v s' _ _ ⟨L',a,b,c⟩ go=>⟨.err v,s',L',_,_,go,a,b,c⟩)
theorem Qx{ss:List Sh}(h:∀ d,topHandled (BH ss 1 d)=none){k:Result→Sem Fin}{g:Bool}{l:List Value}{cd:Code}{pc:Pos}{rest:List Frame}{sh:Sh}(hs:BB (sh::ss) (Frame.ret k none g l cd pc []::rest)=(sh::ss).map some):NM pc (Frame.ret k none g l cd pc []::rest):=by
 refine ⟨k,g,l,cd,rest,rfl,?_⟩
 have h2:BB ss rest=ss.map some:=(List.cons.inj hs).2
 obtain ⟨d,e⟩:=G1 (ss:=ss) 1 h2
 rw [e]; exact h d
section
variable{w:World}{D D':Data}{vs:List Value}{n:Nat}{v:Value}{I:Lp→Prop}
def Dy(m:Nat)(D:Data)(r:Int):AA:=Iz (fun X=>.builtin "len" ⟨[.ref (A2 X m)],[]⟩) [m] (fun X=>[some (A2 X m,A0 D)]) (fun u q=>.ok (.ret (.int r u)))
theorem C7{m:Nat}{r:Int}(hD:D=.seq ⟨vs⟩ n)(hr:(vs.length:Int)=r)(hs:vs.length < 2 ^ 62):(Dy m D r).Ok pw w (A4 w.2):=Cm fun c X hc hp=>by
 subst hD hr
 obtain ⟨ps,rfl,e⟩:=LX hc
 obtain ⟨u,rfl,e1⟩:=E5 e
 obtain rfl:=AD e1
 obtain ⟨o,ho,ho2⟩:=B0 (List.cons.inj hp).1
 obtain ⟨xs,rfl,hx⟩:=Ap ho2
 have hl:=B7 hx
 refine Ej (Pre:=fun s=>Bd (A4 w.2) s X) fun A s D Q E hq=>?_
 have hg:=D.own _ _ _ ho
 refine wpAny_runValue (codeAny_builtin entry_len ?_)
 rw [Around.under_plainId plain_len _]
 exact wpAny_mono (wpAny_len_body_list (Q:=Q) ⟨_,hg,rfl,n,rfl⟩ (by lia) (hq (.int xs.size (s.toks+1)) _ ⟨s.toks+1,by rw [hl]⟩ B4))
   (fun fin s' h'=>by obtain ⟨r,rfl,hq⟩:=h'; exact hq) fun q q e=>e
end
end
section
noncomputable def AW(l:Nat)(i:Int):Obj:={ cls:=.type "list_iterator",data:=.fields #[.ref l,.int i 0] }
noncomputable def BW(i:Int):Obj:={ cls:=.type "list_iterator",data:=.fields #[.none,.int i 0] }
noncomputable def Qj(l:Nat)(i:Int):Obj:={ cls:=.type "tuple_iterator",data:=.fields #[.ref l,.int i 0] }
noncomputable def Yy(i:Int):Obj:={ cls:=.type "tuple_iterator",data:=.fields #[.none,.int i 0] }
noncomputable def Q7(args:Nat):Obj:={ cls:=.type "StopIteration",data:=.fields #[.ref args,.none,.none,.none,.bool false,.none] }
noncomputable def FL:Obj:={ cls:=.type "tuple",data:=.seq #[] 0 }
theorem Fo{o:Obj}{T:String}{l:Nat}{i:Int}(h:eO o = { cls:=.type T,data:=.fields #[.ref l,.int i 0] }):∃ t,o = { cls:=.type T,dict:=none,data:=.fields #[.ref l,.int i t],slots:=#[] }:=by
 obtain ⟨q,e⟩:=Bj o
 rw [h] at e
 subst e
 exact ⟨_,rfl⟩
section
variable{w:World}{D:Data}{vs:List Value}{n:Nat}{v:Value}{I:Lp→Prop}
def cZ(id:String)(it l:Nat)(O O':Obj)(X:Obj)(ss:List Sh):Spec:=⟨.call (.builtin id) ⟨[.ref it],[]⟩,[it,l],[O,X],ss,fun A=>.err (.ref (A 1)),fun q=>[O',X],fun A=>[FL,Q7 (A 0)]⟩
theorem Cp{kt:KT}{s:Shared}{q r:Nat×Obj}{P:Lp}(H:BX kt s (q::r::P)):∃ o,s.heap.get? r.1=some o∧eO o=r.2:=H.own r (.tail _ (.head _))
noncomputable def ay(k:Bool):String:=bif k then "list_iterator" else "tuple_iterator"
noncomputable def az(k:Bool):String:=bif k then "list_iterator.__next__" else "tuple_iterator.__next__"
noncomputable def kd(k:Bool):String:=bif k then "list" else "tuple"
def ax(k:Bool)(l:Nat)(i:Int):Obj:={ cls:=.type (ay k),data:=.fields #[.ref l,.int i 0] }
def lN(k:Bool)(i:Int):Obj:={ cls:=.type (ay k),data:=.fields #[.none,.int i 0] }
def Z4:Bool→Data→Obj
 | true=>A0
 | false=>AV
theorem PZ{k:Bool}{o:Obj}{vs:List Value}{n:Nat}(h:eO o=Z4 k (.seq ⟨vs⟩ n)):∃ xs:Array Value,o = { cls:=.type (kd k),dict:=none,data:=.seq xs n,slots:=#[] }∧xs.toList.map eV=vs:=by
 cases k
 ·exact Eb h
 ·exact Ap h
theorem Lw{k:Bool}{A:Around}{s:Shared}{Q E:Value→Shared→Prop}{it l i t n:Nat}{xs:Array Value}{y:Value}(ho:s.heap.get? it=some { cls:=.type (ay k),dict:=none,data:=.fields #[.ref l,.int (i:Int) t],slots:=#[] })(pJ:s.heap.get? l=some { cls:=.type (kd k),dict:=none,data:=.seq xs n,slots:=#[] })(hy:xs[i]?=some y)
  (hq:Q y { s with heap:=s.heap.update it (Obj.mapFields (·.setIfInBounds 1 (rawInt ((i:Int)+1)))) }):wpAny (model pw w) A (call (.builtin (az k)) [.ref it]) Q E s:=by
 cases k
 refine wpAny_call_entry F.slot_tuple_iterator_next ⟨_,ho,rfl⟩ F.entry_tuple_iterator_next ?_ (F.args_tuple_iterator_next_1 _)
 rotate_left
 refine wpAny_call_entry slot_listiter_next ⟨_,ho,rfl⟩ entry_listiter_next ?_ (args_listiter_next _)
 all_goals
  show wpAny _ _ (field (.ref it) 0>>=_) _ _ s
  refine wpAny_bind (wpAny_field ho rfl (x:=.ref l) rfl ?_)
  show wpAny _ _ (if (Value.ref l==Value.none)=true then _ else _) _ _ s
  rw [if_neg (show ¬ ((Value.ref l==Value.none)=true) from Bool.false_ne_true)]
  show wpAny _ _ (field (.ref it) 1>>=_) _ _ s
  refine wpAny_bind (wpAny_field ho rfl (x:=.int i t) rfl ?_)
  show wpAny _ _ (seqItems? (.ref l)>>=_) _ _ s
  refine wpAny_bind (wpAny_seqItems pJ rfl ?_)
  simp only [Int.toNat_natCast,hy]
  exact wpAny_bind (wpAny_setField ho rfl (by simp) (wpAny_pure ⟨y,rfl,hq⟩))
theorem Fz{A:Around}{s1:Shared}{L1:Lp}{Q E:Value→Shared→Prop}(hh:A.in1.handled=none)(H1:BX (A4 w.2) s1 L1)
  (he:∀ k s2,BX (A4 w.2) s2 ((k+1,Q7 k)::(k,FL)::L1)→Fr s1 s2 L1 ((k+1,Q7 k)::(k,FL)::L1)→E (.ref (k+1)) s2) :
  wpAny (model pw w) A.in1 (Builtin.SmallTypes.stopIteration:Sem Fin) (fun fin s'=>∃ v,fin=.done (.ret v)∧Q v s') E s1:=by
 show wpAny _ _ (newExc (.type "StopIteration") []>>=_) _ _ _
 refine wpAny_bind ?_
 simp only [newExc,newTuple]
 refine wpAny_bind (wpAny_newObj_type ?_ (by size_fits))
 refine wpAny_bind (m:=firstArgMember _ _) (wpAny_of_eq (a:=Value.none) (by first | rfl | (simp only [firstArgMember]; rfl)) ?_)
 refine wpAny_newObj_type ?_ (by size_fits)
 simp only [raiseNew]
 refine wpAny_bind (wpAny_handled ?_)
 rw [hh]
 refine wpAny_bind (wpAny_pure (wpAny_throw ?_))
 have U1:=Ga (o:={ cls:=.type "tuple",dict:=none,data:=.seq #[] 0,slots:=#[] }) (tk:=s1.toks) H1 rfl
 have U2:=Ga (o:={ cls:=.type "StopIteration",dict:=none,data:=.fields #[.ref s1.heap.objs.size,.none,.none,.none,.bool false,.none],slots:=#[] }) (tk:=s1.toks) U1.1 rfl
 have e:(s1.heap.push { cls:=.type "tuple",dict:=none,data:=.seq #[] 0,slots:=#[] }).objs.size=s1.heap.objs.size+1:=Heap.size_push ..
 simp only [e] at U2 ⊢
 exact he _ _ U2.1 (U1.2.trans (by simp [Heap.size_push]) U2.2)
theorem Dc{id:String}{it l k:Nat}{O O' X:Obj}{ss:List Sh}{P:Lp}:((k+1,Q7 k)::(k,FL)::(it,O')::(l,X)::P).Perm ((cZ id it l O O' X ss).o8 (fun j=>if j=0 then k else k+1)++P):=by
 show ([(k+1,Q7 k)]++([(k,FL)]++([(it,O'),(l,X)]++P))).Perm (([(it,O'),(l,X)]++[(k,FL),(k+1,Q7 k)])++P)
 rw [← List.append_assoc,← List.append_assoc]
 refine List.Perm.append_right P ?_
 refine List.perm_append_comm.trans ?_
 refine List.Perm.append_left _ ?_
 exact List.Perm.swap _ _ _
theorem Jn{k:Bool}{ss:List Sh}(it l i:Nat)(hD:D=.seq ⟨vs⟩ n)(hv:vs[i]?=none)(Sf:Pos→List Frame→Prop)(hS:∀ pc nj,Sf pc nj→NM pc nj):(cZ (az k) it l (ax k l i) (lN k i) (Z4 k D) ss).nP w Sf I I:=by
 subst hD
 intro P hI
 refine Ed hS fun c A s L hL hc H hh rD Q E hq he=>?_
 obtain ⟨ps,rfl,ha⟩:=AZ hc
 obtain ⟨u,rfl,e1⟩:=E5 ha
 obtain rfl:=AD e1
 subst hL
 have H':BX (A4 w.2) s ((it,ax k l i)::(l,Z4 k (.seq ⟨vs⟩ n))::P):=H
 obtain ⟨o,ho,hO⟩:=H'.find
 obtain ⟨ol,pJ,hOl⟩:=Cp H'
 obtain ⟨t,rfl⟩:=Fo hO
 obtain ⟨xs,rfl,hx⟩:=PZ hOl
 have hy:=Io hx hv
 show wpAny _ _ (call (.builtin (az k)) [.ref it]) _ _ s
 rw [← hO] at H'
 have U:=Bm (f:=Obj.mapFields (·.setIfInBounds 0 .none)) (tk:=s.toks) H' ho (o':={ cls:=.type (ay k),dict:=none,data:=.fields #[.none,.int i t],slots:=#[] }) rfl rfl
 rw [hO] at U
 cases k
 refine wpAny_call_entry F.slot_tuple_iterator_next ⟨_,ho,rfl⟩ F.entry_tuple_iterator_next ?_ (F.args_tuple_iterator_next_1 _)
 rotate_left
 refine wpAny_call_entry slot_listiter_next ⟨_,ho,rfl⟩ entry_listiter_next ?_ (args_listiter_next _)
 all_goals
  show wpAny _ _ (field (.ref it) 0>>=_) _ _ s
  refine wpAny_bind (wpAny_field ho rfl (x:=.ref l) rfl ?_)
  show wpAny _ _ (if (Value.ref l==Value.none)=true then _ else _) _ _ s
  rw [if_neg (show ¬ ((Value.ref l==Value.none)=true) from Bool.false_ne_true)]
  show wpAny _ _ (field (.ref it) 1>>=_) _ _ s
  refine wpAny_bind (wpAny_field ho rfl (x:=.int i t) rfl ?_)
  show wpAny _ _ (seqItems? (.ref l)>>=_) _ _ s
  refine wpAny_bind (wpAny_seqItems pJ rfl ?_)
  simp only [Int.toNat_natCast,hy]
  refine wpAny_bind (wpAny_rule (wpAny_bind (wpAny_setField ho rfl (by simp) ?_)))
  refine Fz rD U.1 fun k s2 H2 F2=>?_
  exact he _ _ _ ⟨fun j=>if j=0 then k else k+1,P,hI,fun q m=>m,rfl,rfl⟩ (H2.perm (Dc ..)) ((U.2.trans (Nat.le_of_eq (Heap.SameBut.update ..).1.symm) F2).perm (Dc ..))
end
end
section
def Bp(D:Data):Obj:={ cls:=.type "set",data:=D }
def eT(z:Int×Value):Int×Value:=(z.1,eV z.2)
def C6(w:World)(S:List Str)(D:Data):Prop:=∃ (es:Array (Int×Value)) (ep:Nat) (t:SetTable),D=.set es ep t∧(∀ e∈es.toList,∃ x,e=(hashStr w x,.str x 0))∧(∀ x,x∈S↔∃ e∈es.toList,e.2=.str x 0)∧t.fits es.size=true∧es.size≤S.length
theorem LW{o:Obj}{es:Array (Int×Value)}{ep:Nat}{t:SetTable}(h:eO o=Bp (.set es ep t)):∃ qY:Array (Int×Value),o = { cls:=.type "set",dict:=none,data:=.set qY ep t,slots:=#[] }∧qY.toList.map eT=es.toList:=by
 obtain ⟨q,e⟩:=Bj o
 rw [h] at e
 subst e
 exact ⟨_,rfl,congrArg (fun o:Obj=>match o.data with | .set es _ _=>es.toList | _=>[]) h⟩
theorem Br{w:World}(x:Str)(t:Nat):(PySem.strKind pw w).is x (.str x t)=true:=by show (x==x)=true; simp
theorem Im{w:World}{S:List Str}{h:Heap}{a:Nat}{es qY:Array (Int×Value)}{ep:Nat}{t:SetTable}(ho:h.get? a=some { cls:=.type "set",dict:=none,data:=.set qY ep t,slots:=#[] })(he:qY.toList.map eT=es.toList)
  (h1:∀ e∈es.toList,∃ x,e=(hashStr w x,.str x 0)) (h2:∀ x,x∈S↔∃ e∈es.toList,e.2=.str x 0) (h3:t.fits es.size=true) (h4:es.size≤S.length) (hs:S.length+1 < scanBound):h.SetOf (PySem.strKind pw w) a (fun k=>decide (k∈S)) es.size:=by
 have sz:qY.size=es.size:=by
  have:=congrArg List.length he
  simpa using this
 have elem:∀ e∈qY.toList,∃ x t,e=(hashStr w x,.str x t):=by
  intro e m
  obtain ⟨x,hx⟩:=h1 (eT e) (by rw [← he]; exact List.mem_map_of_mem m)
  obtain ⟨t,ht⟩:=AM (congrArg Prod.snd hx)
  exact ⟨x,t,by obtain ⟨h0,v0⟩:=e; have h5:h0=hashStr w x:=congrArg Prod.fst hx; have h6:v0=.str x t:=ht; rw [h5,h6]⟩
 refine ⟨_,qY,ep,t,ho,⟨rfl,rfl,rfl⟩,rfl,fun e m=>?_,fun k=>?_,by lia,by rw [sz]; exact h3,sz⟩
 ·obtain ⟨x,t,rfl⟩:=elem e m
  exact ⟨⟨x,Br x t,rfl⟩,rfl⟩
 ·rw [decide_eq_true_eq,h2]
  constructor
  ·rintro ⟨e,m,hk⟩
   rw [← he] at m
   obtain ⟨e',m',rfl⟩:=List.mem_map.mp m
   obtain ⟨t,ht⟩:=AM hk
   exact ⟨e',m',by rw [ht]; exact Br _ _⟩
  ·rintro ⟨e,m,hk⟩
   obtain ⟨x,t,rfl⟩:=elem e m
   have:k=x:=Eq.symm (by have h7:Value.isStrOf k (.str x t)=true:=hk; simpa [Value.isStrOf,Value.isStr] using h7)
   subst this
   exact ⟨_,by rw [← he]; exact List.mem_map_of_mem m,rfl⟩
section
variable{w:World}{D:Data}{S:List Str}{x:Str}{I:Lp→Prop}
theorem NS{b:Bool}(a:Nat)(hD:C6 w S D)(hb:decide (x∈S)=b)(hs:S.length+1 < scanBound):QA w (.builtin "set.__contains__") [.ref a,.str x 0] a (Bp D) (.bool b):=by
 obtain ⟨es,ep,t,rfl,h1,h2,h3,h4⟩:=hD
 intro ps A s P o ha H ho hO Q E hq
 obtain ⟨u,y,rfl,e1,e2⟩:=Bb ha
 obtain rfl:=AD e1
 obtain ⟨tk,rfl⟩:=AM e2
 obtain ⟨qY,rfl,he⟩:=LW hO
 have hS:=Im ho he h1 h2 h3 h4 hs
 have hkey:(PySem.strKind pw w).is x (.str x tk)=true:=Br x tk
 refine wpAny_call_entry F.slot_set_contains hS.typeIs entry_set_contains ?_ (F.args_set_contains_2 _ _)
 unfold Builtin.«frozenset.__contains__» Builtin.Frozenset.oneOther
 simp only [List.isEmpty_nil,bind_assoc]
 unfold Builtin.Frozenset.addrOf Builtin.Frozenset.withSetAsKey setContains
 refine wpAny_bind (wpAny_pure ?_)
 try dsimp only
 refine wpAny_bind (wpAny_pure ?_)
 try dsimp only
 refine wpAny_bind (wpAny_tryCatch ?_)
 refine wpAny_holding ?_
 refine wpAny_bind ((PySem.strKind pw w).pyHash hkey ?_)
 refine wpAny_bind (wpAny_setFind_of (s:={ s with toks:=s.toks+1 }) hkey rfl hS fun r hr=>?_)
 refine wpAny_pure ?_
 show wpAny _ _ (ret (Value.bool r.isSome)) _ _ _
 rw [hr,hb]
 exact wpAny_pure ⟨_,rfl,hq _ _ rfl⟩
theorem DY{a:Nat}{h h':Heap}(H:Heap.SameBut a h h'){b:Nat}{o:Obj}(hb:b≠a)(e:h.get? b=some o):h'.get? b=some o:=(H.2 b hb).trans e
theorem Go.life{p:Program}{s s':Shared}{t t':Thread}(h:Go p w s t s' t'):s'.heap.life=s.heap.life:=by
 induction h with
 | refl=>rfl
 | head e _ ih=>exact ih.trans (FC e).2
structure kM(s s':Shared)(L L':Lp):Prop where
 gens:s'.gens=s.gens
 drawn:s'.drawn=s.drawn
 os:s'.os=s.os
 old:∀ b o,s.heap.get? b=some o→b∉L.map (·.1)→s'.heap.get? b=some o
 new:∀ q∈L',q.1∈L.map (·.1)∨s.heap.objs.size≤q.1
theorem Tx{f:Value}{as:List Value}{Pre:Lp→Prop}{ni:End→Lp→Prop}
  (h:∀ (vs:List Value) (A:Around) (s:Shared) (L:Lp),Pre L→vs.map eV=as→BX (A4 w.2) s L→∀ (Q E:Value→Shared→Prop),(∀ v s' L',ni (.fin (.done (.ret (eV v)))) L'→BX (A4 w.2) s' L'→kM s s' L L'→Q v s')→wpAny (model pw w) A (call f vs) Q E s):Dn w Il (.call f ⟨as,[]⟩) Pre ni:=by
 intro c s pc nj L hp hc H hs
 obtain ⟨vs,rfl,e⟩:=AZ hc
 obtain ⟨k,g,l,cd,rest,rfl⟩:=hs
 exact C' (c:=.call f ⟨vs,[]⟩) (h vs (UI cd rest) s L hp e H (fun v s'=>∃ L',ni (.fin (.done (.ret (eV v)))) L'∧BX (A4 w.2) s' L'∧kM s s' L L') (fun q q=>False) fun v s' L' a b c=>⟨L',a,b,c⟩) (fun v s' _ _ ⟨L',a,b,c⟩ go=>⟨.fin (.done (.ret v)),s',L',_,_,go,a,b,go.life,c.gens,c.drawn,c.os,c.old,c.new⟩) (fun q q q q h=>h.elim)
theorem TF{kt:KT}{s:Shared}{h':Heap}{a:Nat}{O:Obj}{o':Obj}{F:Lp}{tk:Nat}(H:BX kt s ((a,O)::F))(hs:Heap.SameBut a s.heap h')(ho:h'.get? a=some o') :
  BX kt { s with heap:=h',toks:=tk } ((a,eO o')::F)∧kM s { s with heap:=h',toks:=tk } ((a,O)::F) ((a,eO o')::F):=by
 have nd:=H.nd
 rw [List.map_cons,List.nodup_cons] at nd
 have ne:∀ q∈F,q.1≠a:=fun q m e=>nd.1 (List.mem_map.mpr ⟨q,m,e⟩)
 refine ⟨⟨fun b ob h=>?_,fun q m=>?_,H.nd,fun q m=>?_⟩,rfl,rfl,rfl,fun b ob h n=>?_,fun q m=>?_⟩
 ·have:b≠a:=fun e=>by
   have:=H.off (a,O) (.head _)
   dsimp only at this
   rw [← e,h] at this; cases this
  exact DY hs this (H.top b ob h)
 ·rcases List.mem_cons.mp m with rfl | m
  ·exact ⟨o',ho,rfl⟩
  ·obtain ⟨ob,h1,h2⟩:=H.own q (.tail _ m)
   exact ⟨ob,DY hs (ne q m) h1,h2⟩
 ·rcases List.mem_cons.mp m with rfl | m
  ·exact H.off (a,O) (.head _)
  ·exact H.off q (.tail _ m)
 ·exact DY hs (fun e=>n (by rw [e]; exact .head _)) h
 ·rcases List.mem_cons.mp m with rfl | m
  ·exact .inl (.head _)
  ·exact .inl (.tail _ (List.mem_map_of_mem m))
def UO(a:Nat)(x:Str)(D:Data)(z:Data):Spec:=E9 (.call (.builtin "set.add") ⟨[.ref a,.str x 0],[]⟩) a (Bp D) (Bp z) .none
theorem Qy{h:Heap}{a:Nat}{S:List Str}{x:Str}{m:Nat}(hS:h.SetOf (PySem.strKind pw w) a (fun k'=>decide (k'∈S) || decide (k'=x)) m)(hm:m≤S.length+1):∃ o,h.get? a=some o∧∃ z,C6 w (x::S) z∧eO o=Bp z:=by
 obtain ⟨o,es,ep,t,ho,⟨c1,c2,c3⟩,hd,hel,hmem,hb,hf,hn⟩:=hS
 obtain ⟨c,d,dt,sl⟩:=o
 dsimp only at c1 c2 c3 hd
 subst c1 c2 c3 hd
 refine ⟨_,ho,.set ⟨es.toList.map eT⟩ ep t,⟨⟨es.toList.map eT⟩,ep,t,rfl,?_,?_,?_,?_⟩,rfl⟩
 ·intro e m
  obtain ⟨e',m',rfl⟩:=List.mem_map.mp m
  obtain ⟨⟨k,hk,hh⟩,_⟩:=hel e' m'
  obtain ⟨t,ht⟩:=Value.isStrOf_shape hk
  exact ⟨k,by unfold eT; rw [hh,ht]; rfl⟩
 ·intro y
  have hy:=hmem y
  rw [Bool.or_eq_true,decide_eq_true_eq,decide_eq_true_eq] at hy
  rw [List.mem_cons]
  constructor
  ·intro h1
   obtain ⟨e,m,hk⟩:=hy.mp (h1.elim .inr .inl)
   obtain ⟨t,ht⟩:=Value.isStrOf_shape hk
   exact ⟨eT e,List.mem_map_of_mem m,by unfold eT; rw [ht]; rfl⟩
  ·rintro ⟨e,m,hk⟩
   obtain ⟨e',m',rfl⟩:=List.mem_map.mp m
   obtain ⟨t,ht⟩:=AM (v:=e'.2) hk
   exact (hy.mpr ⟨e',m',by rw [ht]; exact Br _ _⟩).elim .inr .inl
 ·simpa using hf
 ·simp only [List.size_toArray,List.length_map,Array.length_toList,List.length_cons]; lia
theorem NU(a:Nat)(hD:C6 w S D)(hx:x∉S)(hs:S.length+1 < scanBound):Spec.oC (UO a x D) (fun z q=>C6 w (x::S) z) (UO a x D .plain) w Il I I:=by
 obtain ⟨es,ep,t,rfl,h1,h2,h3,h4⟩:=hD
 intro P hI
 refine Tx fun as A s L hL ha H Q E hq=>?_
 subst hL
 obtain ⟨u,y,rfl,e1,e2⟩:=Bb ha
 obtain rfl:=AD e1
 obtain ⟨tk,rfl⟩:=AM e2
 have H':BX (A4 w.2) s ((a,Bp (.set es ep t))::P):=H
 obtain ⟨o,ho,hO⟩:=H'.find
 obtain ⟨qY,rfl,he⟩:=LW hO
 have hS:=Im ho he h1 h2 h3 h4 hs
 have hkey:(PySem.strKind pw w).is x (.str x tk)=true:=Br x tk
 refine call_set_add hkey rfl hS (by lia) fun h' sm rV=>?_
 have hxS:decide (x∈S)=false:=by simpa using hx
 rw [hxS] at rV
 obtain ⟨o',qt,z,hz,hz2⟩:=Qy rV (by simp; lia)
 have U:=TF (tk:=s.toks+1) H' sm qt
 rw [hz2] at U
 exact hq .none _ _ ⟨z,fun q=>0,P,hz,hI,fun q m=>m,rfl,rfl⟩ U.1 U.2
end
end
section
theorem JK{o:Obj}{T:String}{l:Nat}{i a b:Int}(h:eO o = { cls:=.type T,data:=.fields #[.ref l,.int i 0,.int a 0,.int b 0] }):∃ t u v,o = { cls:=.type T,dict:=none,data:=.fields #[.ref l,.int i t,.int a u,.int b v],slots:=#[] }:=by
 obtain ⟨q,e⟩:=Bj o
 rw [h] at e
 subst e
 exact ⟨_,_,_,rfl⟩
section
variable{w:World}{D:Data}{N:List (Str×Value)}{n:Nat}{x:Str}{v:Value}{I:Lp→Prop}
noncomputable def Yn(k:Bool):String:=bif k then "dict_keyiterator" else "dict_valueiterator"
noncomputable def bP(k:Bool):String:=bif k then "dict_keyiterator.__next__" else "dict_valueiterator.__next__"
def Y3(k:Bool)(d:Nat)(i:Int)(len ep:Nat):Obj:={ cls:=.type (Yn k),data:=.fields #[.ref d,.int i 0,.int len 0,.int ep 0] }
def d8(k:Bool)(i:Int)(len ep:Nat):Obj:={ cls:=.type (Yn k),data:=.fields #[.none,.int i 0,.int len 0,.int ep 0] }
noncomputable def jf:Bool→Str→Value→Value
 | true,x,_=>.str x 0
 | false,_,v=>v
def Cu:=Y3 true
def LZ:=d8 true
def CK:=Y3 false
def JL:=d8 false
theorem PW{N:List (Str×Value)}{es:Array DictEntry}{i:Nat}(he:es.toList.map Cv=N.map (DV w.2))(h:i < es.size):∃ x v,N[i]?=some (x,v)∧Cv es[i]=DV w.2 (x,v):=by
 have h1:(es.toList.map Cv)[i]?=(N.map (DV w.2))[i]?:=by rw [he]
 rw [List.getElem?_map,List.getElem?_map,Array.getElem?_toList,Array.getElem?_eq_getElem h] at h1
 cases q:N[i]? with
 | none=>rw [q] at h1; cases h1
 | some z=>rw [q] at h1; exact ⟨z.1,z.2,rfl,Option.some.inj h1⟩
theorem Uy{k:Bool}{A:Around}{s:Shared}{Q E:Value→Shared→Prop}{it l i t1 t2 t3:Nat}{es:Array DictEntry}(ho:s.heap.get? it=some { cls:=.type (Yn k),dict:=none,data:=.fields #[.ref l,.int (i:Int) t1,.int N.length t2,.int n t3],slots:=#[] })(pJ:s.heap.get? l=some { cls:=.type "dict",dict:=none,data:=.dict es n,slots:=#[] })(he:es.toList.map Cv=N.map (DV w.2))
  (hq:∀ x v y,N[i]?=some (x,v)→eV y=jf k x v→Q y { s with heap:=s.heap.update it (Obj.mapFields (·.setIfInBounds 1 (rawInt ((i:Int)+1)))) }) (hs:N.length≤i→wpAny (model pw w) A.in1 (Builtin.SmallTypes.stopIteration:Sem Fin) (fun fin s'=>∃ v,fin=.done (.ret v)∧Q v s') E { s with heap:=s.heap.update it (Obj.mapFields (·.setIfInBounds 0 .none)) }):wpAny (model pw w) A (call (.builtin (bP k)) [.ref it]) Q E s:=by
 have hsz:es.size=N.length:=by
  have:=congrArg List.length he
  rwa [List.length_map,List.length_map] at this
 cases k
 refine wpAny_call_entry F.slot_dict_valueiterator_next ⟨_,ho,rfl⟩ F.entry_dict_valueiterator_next ?_ (F.args_dict_valueiterator_next_1 _)
 rotate_left
 refine wpAny_call_entry F.slot_dict_keyiterator_next ⟨_,ho,rfl⟩ F.entry_dict_keyiterator_next ?_ (F.args_dict_keyiterator_next_1 _)
 all_goals
  refine wpAny_bind (wpAny_pure ?_)
  refine wpAny_bind ?_
  refine wpAny_bind ?_
  first | refine wpAny_bind (wpAny_typeNameOfWhole_keyiter ⟨_,ho,rfl⟩ (wpAny_pure ?_)) | refine wpAny_bind (wpAny_typeNameOf_keyiter ⟨_,ho,rfl⟩ (wpAny_pure ?_)) | refine wpAny_bind (wpAny_typeNameOfWhole_valiter ⟨_,ho,rfl⟩ (wpAny_pure ?_)) | refine wpAny_bind (wpAny_typeNameOf_valiter ⟨_,ho,rfl⟩ (wpAny_pure ?_))
  refine wpAny_bind (wpAny_fieldsOf ho rfl ?_)
  first | rw [if_neg (show ¬ (Builtin.Dict_items.ownsTuple "dict_keyiterator"=true) by decide)] | rw [if_neg (show ¬ (Builtin.Dict_items.ownsTuple "dict_valueiterator"=true) by decide)]
  show wpAny _ _ (if (Value.ref l==Value.none)=true then _ else _) _ _ s
  rw [if_neg (show ¬ ((Value.ref l==Value.none)=true) from Bool.false_ne_true)]
  refine wpAny_bind (wpAny_pure ?_)
  refine wpAny_bind (wpAny_dictEntries pJ rfl ?_)
  dsimp only
  rw [if_neg (by rw [hsz]; simp)]
  refine wpAny_bind (wpAny_pure ?_)
  refine wpAny_bind (wpAny_dictEpoch pJ rfl ?_)
  rw [if_neg (by simp)]
  refine wpAny_pure ?_
  dsimp only
  rw [if_neg (Int.not_lt.mpr (Int.natCast_nonneg i)),Int.toNat_natCast]
  rcases Nat.lt_or_ge i N.length with oX | hge
 ·have hlt':i < es.size:=hsz ▸ oX
  rw [Array.getElem?_eq_getElem hlt']
  refine wpAny_bind ?_
  first | refine wpAny_bind (wpAny_typeNameOfWhole_keyiter ⟨_,ho,rfl⟩ (wpAny_pure ?_)) | refine wpAny_bind (wpAny_typeNameOf_keyiter ⟨_,ho,rfl⟩ (wpAny_pure ?_)) | refine wpAny_bind (wpAny_typeNameOfWhole_valiter ⟨_,ho,rfl⟩ (wpAny_pure ?_)) | refine wpAny_bind (wpAny_typeNameOf_valiter ⟨_,ho,rfl⟩ (wpAny_pure ?_))
  first | refine wpAny_bind (wpAny_isOneOf_keyiter ⟨_,ho,rfl⟩ ?_) | refine wpAny_bind (wpAny_isOneOf_valiter ⟨_,ho,rfl⟩ ?_)
  show wpAny _ _ (setField (.ref it) 1 (rawInt ((i:Int)+1))>>=_) _ _ s
  refine wpAny_bind (wpAny_setField ho rfl (by simp) ?_)
  refine wpAny_bind (wpAny_holding ?_)
  refine wpAny_bind (wpAny_isOneOf_keyiter (s:={ s with heap:=s.heap.update it (Obj.mapFields (·.setIfInBounds 1 (rawInt ((i:Int)+1)))) }) ⟨_,Heap.get?_update_self _ ho rfl,rfl⟩ ?_)
  obtain ⟨x,v,e1,e2⟩:=PW he hlt'
  exact wpAny_pure (wpAny_pure ⟨_,rfl,hq x v es[i].key e1 (congrArg DictEntry.key e2)⟩)
 ·rw [Array.getElem?_eq_none (hsz ▸ hge)]
  refine wpAny_bind ?_
  first | refine wpAny_bind (wpAny_typeNameOfWhole_keyiter ⟨_,ho,rfl⟩ (wpAny_pure ?_)) | refine wpAny_bind (wpAny_typeNameOf_keyiter ⟨_,ho,rfl⟩ (wpAny_pure ?_)) | refine wpAny_bind (wpAny_typeNameOfWhole_valiter ⟨_,ho,rfl⟩ (wpAny_pure ?_)) | refine wpAny_bind (wpAny_typeNameOf_valiter ⟨_,ho,rfl⟩ (wpAny_pure ?_))
  show wpAny _ _ (setField (.ref it) 0 .none>>=_) _ _ s
  refine wpAny_bind (wpAny_setField ho rfl (by simp) ?_)
  exact hs hge
 ·have hlt':i < es.size:=hsz ▸ oX
  rw [Array.getElem?_eq_getElem hlt']
  refine wpAny_bind ?_
  first | refine wpAny_bind (wpAny_typeNameOfWhole_keyiter ⟨_,ho,rfl⟩ (wpAny_pure ?_)) | refine wpAny_bind (wpAny_typeNameOf_keyiter ⟨_,ho,rfl⟩ (wpAny_pure ?_)) | refine wpAny_bind (wpAny_typeNameOfWhole_valiter ⟨_,ho,rfl⟩ (wpAny_pure ?_)) | refine wpAny_bind (wpAny_typeNameOf_valiter ⟨_,ho,rfl⟩ (wpAny_pure ?_))
  first | refine wpAny_bind (wpAny_isOneOf_keyiter ⟨_,ho,rfl⟩ ?_) | refine wpAny_bind (wpAny_isOneOf_valiter ⟨_,ho,rfl⟩ ?_)
  show wpAny _ _ (setField (.ref it) 1 (rawInt ((i:Int)+1))>>=_) _ _ s
  refine wpAny_bind (wpAny_setField ho rfl (by simp) ?_)
  refine wpAny_bind (wpAny_holding ?_)
  refine wpAny_bind (wpAny_isOneOf_valiter (s:={ s with heap:=s.heap.update it (Obj.mapFields (·.setIfInBounds 1 (rawInt ((i:Int)+1)))) }) ⟨_,Heap.get?_update_self _ ho rfl,rfl⟩ ?_)
  refine wpAny_bind (wpAny_isOneOf_valiter (s:={ s with heap:=s.heap.update it (Obj.mapFields (·.setIfInBounds 1 (rawInt ((i:Int)+1)))) }) ⟨_,Heap.get?_update_self _ ho rfl,rfl⟩ ?_)
  obtain ⟨x,v,e1,e2⟩:=PW he hlt'
  exact wpAny_pure (wpAny_pure ⟨_,rfl,hq x v es[i].val e1 (congrArg DictEntry.val e2)⟩)
 ·rw [Array.getElem?_eq_none (hsz ▸ hge)]
  refine wpAny_bind ?_
  first | refine wpAny_bind (wpAny_typeNameOfWhole_keyiter ⟨_,ho,rfl⟩ (wpAny_pure ?_)) | refine wpAny_bind (wpAny_typeNameOf_keyiter ⟨_,ho,rfl⟩ (wpAny_pure ?_)) | refine wpAny_bind (wpAny_typeNameOfWhole_valiter ⟨_,ho,rfl⟩ (wpAny_pure ?_)) | refine wpAny_bind (wpAny_typeNameOf_valiter ⟨_,ho,rfl⟩ (wpAny_pure ?_))
  show wpAny _ _ (setField (.ref it) 0 .none>>=_) _ _ s
  refine wpAny_bind (wpAny_setField ho rfl (by simp) ?_)
  exact hs hge
theorem MX{k:Bool}{A:Around}{s:Shared}{Q E:Value→Shared→Prop}{it l i t1 t2 t3:Nat}{es:Array DictEntry}(ho:s.heap.get? it=some { cls:=.type (Yn k),dict:=none,data:=.fields #[.ref l,.int (i:Int) t1,.int N.length t2,.int n t3],slots:=#[] })(pJ:s.heap.get? l=some { cls:=.type "dict",dict:=none,data:=.dict es n,slots:=#[] })(he:es.toList.map Cv=N.map (DV w.2))(hv:N[i]?=some (x,v))
  (hq:∀ y,eV y=jf k x v→Q y { s with heap:=s.heap.update it (Obj.mapFields (·.setIfInBounds 1 (rawInt ((i:Int)+1)))) }):wpAny (model pw w) A (call (.builtin (bP k)) [.ref it]) Q E s:=
 Uy ho pJ he (fun x' v' y h e=>hq y (by rw [hv] at h; cases h; exact e)) fun h=>absurd (List.getElem?_eq_some_iff.mp hv).1 (Nat.not_lt.mpr h)
theorem KN{k:Bool}{ss:List Sh}(it l i:Nat)(hD:D=A8 w.2 N n)(hv:N.length≤i)(Sf:Pos→List Frame→Prop)(hS:∀ pc nj,Sf pc nj→NM pc nj):(cZ (bP k) it l (Y3 k l i N.length n) (d8 k i N.length n) (A7 D) ss).nP w Sf I I:=by
 subst hD
 intro P hI
 refine Ed hS fun c A s L hL hc H hh rD Q E hq sr=>?_
 obtain ⟨ps,rfl,ha⟩:=AZ hc
 obtain ⟨u,rfl,e1⟩:=E5 ha
 obtain rfl:=AD e1
 subst hL
 have H':BX (A4 w.2) s ((it,Y3 k l i N.length n)::(l,A7 (A8 w.2 N n))::P):=H
 obtain ⟨o,ho,hO⟩:=H'.find
 obtain ⟨ol,pJ,hOl⟩:=Cp H'
 obtain ⟨t1,t2,t3,rfl⟩:=JK hO
 obtain ⟨es,rfl,he⟩:=Bo hOl
 rw [← hO] at H'
 have U:=Bm (f:=Obj.mapFields (·.setIfInBounds 0 .none)) (tk:=s.toks) H' ho (o':={ cls:=.type (Yn k),dict:=none,data:=.fields #[.none,.int i t1,.int N.length t2,.int n t3],slots:=#[] }) rfl rfl
 rw [hO] at U
 refine Uy ho pJ he (fun x v y h q=>absurd (List.getElem?_eq_some_iff.mp h).1 (Nat.not_lt.mpr hv)) fun q=>Fz rD U.1 fun k s2 H2 F2=>?_
 exact sr _ _ _ ⟨fun j=>if j=0 then k else k+1,P,hI,fun q m=>m,rfl,rfl⟩ (H2.perm (Dc ..)) ((U.2.trans (Nat.le_of_eq (Heap.SameBut.update ..).1.symm) F2).perm (Dc ..))
def kJ(w:World)(f:Value)(as:List Value)(a:Nat)(O X:Obj):Prop:=
 ∀ (vs:List Value) (A:Around) (s:Shared) (P:Lp) (o:Obj),vs.map eV=as→BX (A4 w.2) s ((a,O)::P)→s.heap.get? a=some o→eO o=O→∀ (Q E:Value→Shared→Prop),(∀ o' tk,eO o'=X→o'.isFreed=false→Q (.ref s.heap.objs.size) { s with heap:=s.heap.push o',toks:=tk })→wpAny (model pw w) A (call f vs) Q E s
noncomputable def Th(d:Nat):Obj:={ cls:=.type "dict_values",data:=.fields #[.ref d] }
theorem JO(a:Nat)(hD:D=A8 w.2 N n):kJ w (.builtin "dict.values") [.ref a] a (A7 D) (Th a):=by
 subst hD
 intro ps A s P o ha H ho hO Q E hq
 obtain ⟨u,rfl,e1⟩:=E5 ha
 obtain rfl:=AD e1
 obtain ⟨es,rfl,he⟩:=Bo hO
 refine wpAny_call_entry F.slot_dict_values ⟨_,ho,rfl⟩ F.entry_dict_values ?_ (F.args_dict_values_1 _)
 refine wpAny_bind ?_
 unfold Builtin.Dict.noArgs
 refine wpAny_bind (wpAny_notOrdered_dict ⟨_,ho,rfl⟩ ?_)
 show wpAny _ _ (pure a) _ _ s
 refine wpAny_pure ?_
 show wpAny _ _ (Builtin.Dict.showsAll a>>=_) _ _ s
 unfold Builtin.Dict.showsAll
 rw [if_neg (by rw [Fd H]; exact Bool.false_ne_true)]
 refine wpAny_bind (wpAny_pure ?_)
 exact wpAny_bind (wpAny_newObj_type (wpAny_pure ⟨_,rfl,hq { cls:=.type "dict_values",dict:=none,data:=.fields #[.ref a],slots:=#[] } s.toks rfl rfl⟩))
theorem MZ(a:Nat)(hD:D=A8 w.2 N n):kJ w (.builtin "dict.__iter__") [.ref a] a (A7 D) (Cu a 0 N.length n):=by
 subst hD
 intro ps A s P o ha H ho hO Q E hq
 obtain ⟨u,rfl,e1⟩:=E5 ha
 obtain rfl:=AD e1
 obtain ⟨es,rfl,he⟩:=Bo hO
 have hsz:es.size=N.length:=by
  have:=congrArg List.length he
  simpa using this
 refine wpAny_call_entry F.slot_dict_iter ⟨_,ho,rfl⟩ F.entry_dict_iter ?_ (F.args_dict_iter_1 _)
 unfold Builtin.«dict.__iter__»
 refine wpAny_bind ?_
 unfold Builtin.Dict.dictSlotNone
 refine wpAny_bind (wpAny_notOrdered_dict ⟨_,ho,rfl⟩ ?_)
 show wpAny _ _ (pure (Value.ref a)) _ _ s
 refine wpAny_pure ?_
 show wpAny _ _ (Builtin.Dict.showsAll a>>=_) _ _ s
 unfold Builtin.Dict.showsAll
 rw [if_neg (by rw [Fd H]; exact Bool.false_ne_true)]
 refine wpAny_bind (wpAny_pure ?_)
 refine wpAny_bind (wpAny_dictEntries ho rfl ?_)
 refine wpAny_bind (wpAny_dictEpoch ho rfl ?_)
 rw [hsz]
 exact wpAny_bind (wpAny_newObj_type (wpAny_pure ⟨_,rfl,hq { cls:=.type "dict_keyiterator",dict:=none,data:=.fields #[.ref a,.int 0 0,.int N.length 0,.int n 0],slots:=#[] } s.toks rfl rfl⟩))
theorem Xs{o:Obj}{a:Nat}(hO:eO o=Th a):o = { cls:=.type "dict_values",dict:=none,data:=.fields #[.ref a],slots:=#[] }:=by
 obtain ⟨q,e⟩:=Bj o
 rw [hO] at e
 subst e
 exact rfl
theorem MV{A:Around}{s:Shared}{Q E:Value→Shared→Prop}{a b:Nat}{es:Array DictEntry}(ho:s.heap.get? b=some { cls:=.type "dict_values",dict:=none,data:=.fields #[.ref a],slots:=#[] })(pJ:s.heap.get? a=some { cls:=.type "dict",dict:=none,data:=.dict es n,slots:=#[] })(he:es.toList.map Cv=N.map (DV w.2))
  (hq:Q (.ref s.heap.objs.size) { s with heap:=s.heap.push { cls:=.type "dict_valueiterator",dict:=none,data:=.fields #[.ref a,.int 0 0,.int N.length 0,.int n 0],slots:=#[] } }):wpAny (model pw w) A (call (.builtin "dict_values.__iter__") [.ref b]) Q E s:=by
 have hsz:es.size=N.length:=by
  have:=congrArg List.length he
  simpa using this
 refine wpAny_call_entry F.slot_dict_values_iter ⟨_,ho,rfl⟩ F.entry_dict_values_iter ?_ (F.args_dict_values_iter_1 _)
 unfold Builtin.«dict_values.__iter__»
 refine wpAny_bind (wpAny_pure ?_)
 refine wpAny_bind ?_
 unfold Builtin.Dict_items.dictOf
 refine wpAny_bind (wpAny_field ho rfl (x:=.ref a) rfl (wpAny_pure ?_))
 refine wpAny_bind ?_
 unfold Builtin.Dict_items.newIterator
 refine wpAny_bind (wpAny_dictEntries pJ rfl ?_)
 refine wpAny_bind (wpAny_dictEpoch pJ rfl ?_)
 have hown:Builtin.Dict_items.ownsTuple "dict_valueiterator"=false:=by decide
 simp only [hown,Bool.false_eq_true,if_false]
 rw [hsz]
 exact wpAny_newObj_type (wpAny_pure ⟨_,rfl,hq⟩)
end
end
section
theorem TT.oj:∀ (T:TT) (j a:Nat) (o:Obj) (f:Obj→Obj),T.get j=some (a,o)→T.set j f=T.set j (fun q=>f o)
 | .nil,j,a,o,f,h=>by cases h
 | .node b v l r,j,a,o,f,h=>by
  rw [get_node] at h
  rw [G3,G3]
  by_cases h0:j=0
  ·subst h0
   simp only [if_true,Option.some.injEq,Prod.mk.injEq] at h ⊢
   rw [h.2]
  ·rw [if_neg h0] at h ⊢
   rw [if_neg h0]
   by_cases p:j % 2=1
   ·rw [if_pos p] at h ⊢
    rw [if_pos p,oj l _ _ _ _ h]
   ·rw [if_neg p] at h ⊢
    rw [if_neg p,oj r _ _ _ _ h]
def Bc(u:U)(fl:Bool)(O:Obj):Obj:=match fl with
 | true=>⟨O.cls,O.dict,u.d 0,⟨dS (fun k=>u.n 1 (2*k+1)) O.slots.toList⟩⟩
 | false=>dO (u.n 1) O
theorem Ex{u:U}{O o':Obj}(fl:Bool)(h:dO (u.n 1) O=o')(hd:u.d 0=o'.data):Bc u fl O=o':=by
 subst h
 cases fl
 ·rfl
 ·exact congrArg (fun d=>(⟨O.cls,O.dict,d,⟨dS (fun k=>u.n 1 (2*k+1)) O.slots.toList⟩⟩:Obj)) hd
theorem KL{u:U}{O o':Obj}{d:Data}(fl:Bool)(h:dO (u.n 1) (bif fl then { O with data:=d } else O)=o')(hd:u.d 0=o'.data):Bc u fl O=o':=by
 cases fl
 ·exact Ex false h hd
 ·exact Ex (O:={ O with data:=d }) true h hd
def Vx(C:SX→Code)(tr:List Nat)(pre:SX→List (Option (Nat×Obj)))(m:Nat)(fl:Bool)(O':SX→Obj)(r:Value):AA:=⟨C,tr,pre,fun q=>[],fun u x=>(x.T.get m).isSome,fun u q=>.ok (.ret (dV (u.n 0 2) r)),fun u x=>⟨x.T.set m (fun q=>Bc u fl (O' x)),x.m,u.n 0 0,0,x.gens,x.drawn,u.n 0 1,0,x.os⟩,fun u x=>fl=true→eD (u.d 0)=(O' x).data,none,none⟩
theorem Ko{w:World}{C:SX→Code}{tr:List Nat}{pre:SX→List (Option (Nat×Obj))}{m:Nat}{fl:Bool}{O':SX→Obj}{r:Value}
  (h:∀ c X,eC c=C X→tr.map (fun j=>eP (X.T.get j))=pre X→∀ o,X.T.get m=some (A2 X m,o)→∃ f vs,c=.call f ⟨vs,[]⟩∧∀ A s,Bd (A4 w.2) s X→∀ Q E,(∀ v tk g o',eV v=r→g o=o'→eO o'=O' X→o'.isFreed=false→Q v { s with heap:=s.heap.update (A2 X m) g,toks:=tk })→wpAny (model pw w) A (call f vs) Q E s):(Vx C tr pre m fl O' r).Ok pw w (A4 w.2):=by
 refine ⟨rfl,?_⟩
 intro c X s k g l cd pc rest hc hp _ pD D _
 have hsome:(X.T.get m).isSome=true:=pD U0
 obtain ⟨⟨am,o⟩,hget⟩:=Option.isSome_iff_exists.mp hsome
 have ham:A2 X m=am:=by simp [A2,hget]
 subst ham
 obtain ⟨f,vs,rfl,hw⟩:=h c X hc hp o hget
 refine C' (c:=.call f ⟨vs,[]⟩) (k:=k) (g:=g) (l:=l) (pc:=pc) (hw (UI cd rest) s D (fun v s'=>∃ tk g o',eV v=r∧g o=o'∧eO o'=O' X∧o'.isFreed=false∧s' = { s with heap:=s.heap.update (A2 X m) g,toks:=tk }) (fun q q=>False) fun v tk g o' a b c d=>⟨tk,g,o',a,b,c,d,rfl⟩) (fun v s' oI pos' hr go=>?_) (fun q q q q h=>h.elim)
 obtain ⟨tk,gg,o',hv,hg,hO,hf,rfl⟩:=hr
 obtain ⟨q1,hq1⟩:=Bj o'
 rw [hO] at hq1
 have szH:(s.heap.update (A2 X m) gg).objs.size=s.heap.objs.size:=(Heap.SameBut.update ..).1
 let u:U:=⟨fun j i=>if j=0 then (if i=0 then s.heap.objs.size else if i=1 then tk else Hs v) else q1 i,fun q=>o'.data⟩
 have hdr:Bc u fl (O' X)=o':=Ex fl hq1 rfl
 obtain ⟨D2,K2,X2⟩:=CC (f:=gg) D hget (by rw [hg]; exact hf)
 rw [TT.oj X.T m (A2 X m) o gg hget,hg] at D2 K2 X2
 refine ⟨u,{ s with heap:=s.heap.update (A2 X m) gg,toks:=tk },go.trans ?_,?_,?_,?_,?_⟩
 ·show Go pw w _ ⟨.pure (.done (.ret v)),_,_,_⟩ _ ⟨k (.ok (.ret (dV (Hs v) r))),cd,pc,rest⟩
  rw [← hv,Ec]
  exact Cq
 ·show Bd _ _ ⟨X.T.set m (fun q=>Bc u fl (O' X)),X.m,s.heap.objs.size,0,X.gens,X.drawn,tk,0,X.os⟩
  rw [hdr]
  exact ⟨szH,D2.own,D2.apart,D2.low,D2.top,D2.off,D2.gens,D2.drawn,rfl,D2.os⟩
 ·show Bz X ⟨X.T.set m (fun q=>Bc u fl (O' X)),X.m,s.heap.objs.size,0,X.gens,X.drawn,tk,0,X.os⟩
  rw [hdr]
  exact ⟨X2.fwd,X2.bwd,by show X.n+X.i≤s.heap.objs.size+0; rw [D.size]; exact Nat.le_refl _⟩
 ·show AP ⟨X.T.set m (fun q=>Bc u fl (O' X)),X.m,s.heap.objs.size,0,X.gens,X.drawn,tk,0,X.os⟩ _ _
  rw [hdr]
  exact ⟨K2.1,K2.2⟩
 ·intro hfl
  show eD o'.data=(O' X).data
  rw [← hO]; rfl
theorem RE{kt:KT}{s s':Shared}{X:SX}{a:Nat}{o:Obj}(D:Bd kt s X)(G:BK s s')(z:s.heap.objs.size≤s'.heap.objs.size)(ha:s.heap.objs.size≤a)(ho:s'.heap.get? a=some o)(hg:((X.T.ins X.m a o).get X.m).isSome=true) :
  Bd kt s' ⟨X.T.ins X.m a o,X.m+1,s'.heap.objs.size,0,X.gens,X.drawn,s'.toks,0,X.os⟩∧Bz X ⟨X.T.ins X.m a o,X.m+1,s'.heap.objs.size,0,X.gens,X.drawn,s'.toks,0,X.os⟩∧AP ⟨X.T.ins X.m a o,X.m+1,s'.heap.objs.size,0,X.gens,X.drawn,s'.toks,0,X.os⟩ s s':=by
 have R:=I2 (s':=s') (y:=⟨X.T.ins X.m a o,X.m+1,s'.heap.objs.size,0,X.gens,X.drawn,s'.toks,0,X.os⟩) D rfl (D.size ▸ z) (Nat.le_succ _) (fun j' a' o' h=>by
  rw [TT.get_ins _ o X.T X.m hg] at h
  by_cases q:j'=X.m
  ·rw [if_pos q] at h; cases h
   exact ⟨ho,.inr ⟨q,Nat.lt_succ_self _,D.size ▸ ha⟩⟩
  ·rw [if_neg q] at h
   exact ⟨G.old _ _ (D.own _ _ _ h),.inl ⟨_,h⟩⟩) (fun j' a' o' h=>⟨o',by rw [TT.get_ins _ o X.T X.m hg,if_neg (Nat.ne_of_lt (D.low _ _ h))]; exact h⟩) (fun b ob h x=>G.old _ _ h) ⟨G.gens.trans D.gens,G.drawn.trans D.drawn,rfl,G.os.trans D.os⟩
 exact ⟨R.1,R.2,G.life,fun b ob hb x=>G.old b ob hb⟩
def Nn(C:SX→Code)(tr:List Nat)(pre:SX→List (Option (Nat×Obj)))(fl:Bool)(O':SX→Obj)(φ:SX→Data→Prop):AA:=⟨C,tr,pre,fun q=>[],fun u x=>((x.T.ins x.m (u.n 0 3) (Bc u fl (O' x))).get x.m).isSome,fun u q=>.ok (.ret (.ref (u.n 0 3))),fun u x=>⟨x.T.ins x.m (u.n 0 3) (Bc u fl (O' x)),x.m+1,u.n 0 0,0,x.gens,x.drawn,u.n 0 1,0,x.os⟩,fun u x=>fl=true→φ x (eD (u.d 0)),none,none⟩
theorem Iy{w:World}{C:SX→Code}{tr:List Nat}{pre:SX→List (Option (Nat×Obj))}{fl:Bool}{O':SX→Obj}{φ:SX→Data→Prop}
  (h:∀ c X,eC c=C X→tr.map (fun j=>eP (X.T.get j))=pre X→∃ f vs,c=.call f ⟨vs,[]⟩∧∀ A s,Bd (A4 w.2) s X→∀ Q E,(∀ a s' o',BK s s'→s.heap.objs.size≤a→s'.heap.get? a=some o'→(fl=true→φ X (eD o'.data))→eO o'=(bif fl then { O' X with data:=eD o'.data } else O' X)→Q (.ref a) s')→wpAny (model pw w) A (call f vs) Q E s):(Nn C tr pre fl O' φ).Ok pw w (A4 w.2):=by
 refine ⟨rfl,?_⟩
 intro c X s k g l cd pc rest hc hp _ pD D _
 obtain ⟨f,vs,rfl,hw⟩:=h c X hc hp
 refine C' (c:=.call f ⟨vs,[]⟩) (k:=k) (g:=g) (l:=l) (pc:=pc) (hw (UI cd rest) s D (fun v s'=>∃ a o',v=.ref a∧BK s s'∧s.heap.objs.size≤a∧s'.heap.get? a=some o'∧(fl=true→φ X (eD o'.data))∧eO o'=(bif fl then { O' X with data:=eD o'.data } else O' X)) (fun q q=>False) fun a s' o' p1 p2 p3 p4 p5=>⟨a,o',rfl,p1,p2,p3,p4,p5⟩) (fun v s' oI pos' hr go=>?_) (fun q q q q h=>h.elim)
 obtain ⟨a,o',rfl,G,ha,ho,hφ,hO⟩:=hr
 obtain ⟨q1,hq1⟩:=Bj o'
 rw [hO] at hq1
 let u:U:=⟨fun j i=>if j=0 then (if i=0 then s'.heap.objs.size else if i=1 then s'.toks else a) else q1 i,fun q=>o'.data⟩
 have hdr:Bc u fl (O' X)=o':=KL fl hq1 rfl
 have hok2:((X.T.ins X.m a (Bc u fl (O' X))).get X.m).isSome=true:=pD u
 rw [hdr] at hok2
 obtain ⟨D2,X2,K2⟩:=RE D G go.size ha ho hok2
 refine ⟨u,s',go.trans Cq,?_,?_,?_,hφ⟩
 ·show Bd _ _ ⟨X.T.ins X.m a (Bc u fl (O' X)),X.m+1,s'.heap.objs.size,0,X.gens,X.drawn,s'.toks,0,X.os⟩
  rw [hdr]; exact D2
 ·show Bz X ⟨X.T.ins X.m a (Bc u fl (O' X)),X.m+1,s'.heap.objs.size,0,X.gens,X.drawn,s'.toks,0,X.os⟩
  rw [hdr]; exact X2
 ·show AP ⟨X.T.ins X.m a (Bc u fl (O' X)),X.m+1,s'.heap.objs.size,0,X.gens,X.drawn,s'.toks,0,X.os⟩ _ _
  rw [hdr]; exact K2
def M6(C:SX→Code)(tr:List Nat)(pre:SX→List (Option (Nat×Obj)))(fl:Bool)(O':SX→Obj):AA:=Nn C tr pre fl O' fun x d=>d=(O' x).data
theorem EO{w:World}{C:SX→Code}{tr:List Nat}{pre:SX→List (Option (Nat×Obj))}{fl:Bool}{O':SX→Obj}
  (h:∀ c X,eC c=C X→tr.map (fun j=>eP (X.T.get j))=pre X→∃ f vs,c=.call f ⟨vs,[]⟩∧∀ A s,Bd (A4 w.2) s X→∀ Q E,(∀ a s' o',BK s s'→s.heap.objs.size≤a→s'.heap.get? a=some o'→eO o'=O' X→Q (.ref a) s')→wpAny (model pw w) A (call f vs) Q E s):(M6 C tr pre fl O').Ok pw w (A4 w.2):=
 Iy fun c X hc hp=>let ⟨f,vs,e,h⟩:=h c X hc hp; ⟨f,vs,e,fun A s D Q E hq=>h A s D Q E fun a s' o' g1 g2 g3 hO=>hq a s' o' g1 g2 g3 (fun q=>by rw [← hO]; rfl) (by rw [← hO]; cases fl<;>rfl)⟩
theorem M4{X:SX}{a b:Nat}{O1 O2:Obj}{m1 m2:Nat}(h:[m1,m2].map (fun j=>eP (X.T.get j))=[some (a,O1),some (b,O2)]):eP (X.T.get m1)=some (a,O1)∧eP (X.T.get m2)=some (b,O2):=by
 simp only [List.map_cons,List.map_nil,List.cons.injEq,and_true] at h
 exact h
section
variable{w:World}{D D':Data}{vs:List Value}{n:Nat}{v:Value}{x:Str}{r:Value}{N:List (Str×Value)}{S:List Str}
def ER(m:Nat)(D:Data)(x:Str)(r:Value):AA:=H0 (.builtin "dict.get") (fun a=>[.ref a,.str x 0]) m (A7 D) r
theorem BF{m:Nat}(hD:D=A8 w.2 N n)(hr:(BI N x).getD .none=r):(ER m D x r).Ok pw w (A4 w.2):=C2 fun a=>Pj a hD hr
def HT(m:Nat)(D:Data)(x:Str)(r:Value):AA:=H0 (.builtin "dict.__getitem__") (fun a=>[.ref a,.str x 0]) m (A7 D) r
theorem D9{m:Nat}(hD:D=A8 w.2 N n)(hr:BI N x=some r):(HT m D x r).Ok pw w (A4 w.2):=C2 fun a=>Ma a hD hr
def WJ(m:Nat)(D:Data)(x:Str)(b:Bool):AA:=H0 (.builtin "dict.__contains__") (fun a=>[.ref a,.str x 0]) m (A7 D) (.bool b)
theorem Kx{m:Nat}{b:Bool}(hD:D=A8 w.2 N n)(hr:(BI N x).isSome=b):(WJ m D x b).Ok pw w (A4 w.2):=C2 fun a=>Ph a hD hr
def Kw(m:Nat)(D:Data)(v:Value):AA:=H0 (.builtin "list.__getitem__") (fun a=>[.ref a,.int (-1) 0]) m (A0 D) v
theorem GH{m:Nat}(hD:D=.seq ⟨vs++[v]⟩ n)(hs:vs.length < 2 ^ 62):(Kw m D v).Ok pw w (A4 w.2):=C2 fun a=>ML a hD hs
def GG(m:Nat)(D:Data)(r:Int):AA:=H0 (.builtin "len") (fun a=>[.ref a]) m (A0 D) (.int r 0)
theorem Ca{m:Nat}{r:Int}(hD:D=.seq ⟨vs⟩ n)(hr:(vs.length:Int)=r)(hs:vs.length < 2 ^ 62):(GG m D r).Ok pw w (A4 w.2):=C2 fun a=>P5 a hD hr hs
def O5(m:Nat)(D:Data)(r:Int):AA:=H0 (.builtin "len") (fun a=>[.ref a]) m (AV D) (.int r 0)
theorem J2{m:Nat}{r:Int}(hD:D=.seq ⟨vs⟩ n)(hr:(vs.length:Int)=r)(hs:vs.length < 2 ^ 62):(O5 m D r).Ok pw w (A4 w.2):=C2 fun a=>NC a hD hr hs
def HS(m:Nat)(D:Data)(x:Str)(b:Bool):AA:=H0 (.builtin "set.__contains__") (fun a=>[.ref a,.str x 0]) m (Bp D) (.bool b)
theorem D8{m:Nat}{b:Bool}(hD:C6 w S D)(hb:decide (x∈S)=b)(hs:S.length+1 < scanBound):(HS m D x b).Ok pw w (A4 w.2):=C2 fun a=>NS a hD hb hs
def Uj(m:Nat)(D:Data)(x:Str)(φ:Data→Prop):AA:=Nk (fun q=>[]) [m] [true] [] (fun X=>UO (A2 X m) x D .plain) (fun X=>UO (A2 X m) x D) (fun z q=>φ z)
theorem Nw{m:Nat}{I:Lp→Prop}(hD:C6 w S D)(hx:x∉S)(hs:S.length+1 < scanBound):(Uj m D x (C6 w (x::S))).oB pw w (A4 w.2) I I:=
 Fg (w:=w) (Sf:=fun q=>Il) (fun X=>NU (A2 X m) hD hx hs) (fun q q=>⟨rfl,rfl,rfl⟩) (fun q q q q q=>rfl) (fun q q q q q q q q=>Hy) (by simp) (fun q=>⟨rfl,rfl,fun q q=>rfl⟩) (fun q q=>rfl)
def J'(m:Nat)(D D':Data)(x:Str)(v:Value):AA:=SK (fun a=>.call (.builtin "dict.__setitem__") ⟨[.ref a,.str x 0,v],[]⟩) m (A7 D) (A7 D') .none
theorem Dk{m:Nat}{I:Lp→Prop}(hD:D=A8 w.2 N n)(hx:BI N x=none)(pF:D'=A8 w.2 (N++[(x,v)]) (n+1))(hs:N.length≤sizeLine):(J' m D D' x v).oB pw w (A4 w.2) I I:=IF fun a=>Pf a hD hx pF hs
def WZ(m:Nat)(D D':Data)(x:Str):AA:=SK (fun a=>.call (.builtin "dict.__delitem__") ⟨[.ref a,.str x 0],[]⟩) m (A7 D) (A7 D') .none
theorem L3{m:Nat}{I:Lp→Prop}(hD:D=A8 w.2 (N++[(x,v)]) n)(hx:BI N x=none)(pF:D'=A8 w.2 N (n+1))(hs:N.length < sizeLine):(WZ m D D' x).oB pw w (A4 w.2) I I:=IF fun a=>Pk a hD hx pF hs
def Nz(m:Nat)(D D':Data)(v:Value):AA:=SK (fun a=>.call (.builtin "list.pop") ⟨[.ref a],[]⟩) m (A0 D) (A0 D') v
theorem Fi{m:Nat}{I:Lp→Prop}(hD:D=.seq ⟨vs++[v]⟩ n)(pF:D'=.seq ⟨vs⟩ (n+1))(hs:vs.length < sizeLine):(Nz m D D' v).oB pw w (A4 w.2) I I:=IF fun a=>P4 a hD pF hs
def IC(q:Bool)(mi ml:Nat)(i:Nat)(D:Data)(v:Value):AA:=Vx (fun X=>.call (.builtin (az q)) ⟨[.ref (A2 X mi)],[]⟩) [mi,ml] (fun X=>[some (A2 X mi,ax q (A2 X ml) i),some (A2 X ml,Z4 q D)]) mi false (fun X=>ax q (A2 X ml) ((i:Int)+1)) v
theorem GJ{q:Bool}{mi ml i:Nat}(hD:D=.seq ⟨vs⟩ n)(hv:vs[i]?=some v):(IC q mi ml i D v).Ok pw w (A4 w.2):=Ko fun c X hc hp o ho=>by
 subst hD
 obtain ⟨ps,rfl,ha⟩:=AZ hc
 obtain ⟨u,rfl,e1⟩:=E5 ha
 obtain rfl:=AD e1
 obtain ⟨p1,p2⟩:=M4 hp
 obtain ⟨o1,h1,hO1⟩:=B0 p1
 obtain ⟨o2,h2,hO2⟩:=B0 p2
 rw [ho] at h1
 simp only [Option.some.injEq,Prod.mk.injEq,true_and] at h1
 subst h1
 obtain ⟨t,rfl⟩:=Fo hO1
 obtain ⟨xs,rfl,hx⟩:=PZ hO2
 obtain ⟨y,hy,ey⟩:=Cy hx hv
 refine ⟨_,_,rfl,fun A s R Q E hq=>Lw (R.own _ _ _ ho) (R.own _ _ _ h2) hy ?_⟩
 exact hq y s.toks _ { cls:=.type (ay q),dict:=none,data:=.fields #[.ref (A2 X ml),.int ((i:Int)+1) 0],slots:=#[] } ey rfl rfl rfl
def Ao:=IC true
theorem AO{mi ml i:Nat}(hD:D=.seq ⟨vs⟩ n)(hv:vs[i]?=some v):(Ao mi ml i D v).Ok pw w (A4 w.2):=GJ hD hv
def Kr:=IC false
theorem Jy{mi ml i:Nat}(hD:D=.seq ⟨vs⟩ n)(hv:vs[i]?=some v):(Kr mi ml i D v).Ok pw w (A4 w.2):=GJ hD hv
def IE(q:Bool)(mi ml:Nat)(i len ep:Nat)(D:Data)(v:Value):AA:=Vx (fun X=>.call (.builtin (bP q)) ⟨[.ref (A2 X mi)],[]⟩) [mi,ml] (fun X=>[some (A2 X mi,Y3 q (A2 X ml) i len ep),some (A2 X ml,A7 D)]) mi false (fun X=>Y3 q (A2 X ml) ((i:Int)+1) len ep) v
theorem GL{q:Bool}{mi ml i:Nat}(hD:D=A8 w.2 N n)(hv:N[i]?=some (x,v)):(IE q mi ml i N.length n D (jf q x v)).Ok pw w (A4 w.2):=Ko fun c X hc hp o ho=>by
 subst hD
 obtain ⟨ps,rfl,ha⟩:=AZ hc
 obtain ⟨u,rfl,e1⟩:=E5 ha
 obtain rfl:=AD e1
 obtain ⟨p1,p2⟩:=M4 hp
 obtain ⟨o1,h1,hO1⟩:=B0 p1
 obtain ⟨o2,h2,hO2⟩:=B0 p2
 rw [ho] at h1
 simp only [Option.some.injEq,Prod.mk.injEq,true_and] at h1
 subst h1
 obtain ⟨t1,t2,t3,rfl⟩:=JK hO1
 obtain ⟨es,rfl,he⟩:=Bo hO2
 refine ⟨_,_,rfl,fun A s R Q E hq=>MX (R.own _ _ _ ho) (R.own _ _ _ h2) he hv fun y ey=>?_⟩
 exact hq y s.toks _ { cls:=.type (Yn q),dict:=none,data:=.fields #[.ref (A2 X ml),.int ((i:Int)+1) 0,.int N.length t2,.int n t3],slots:=#[] } ey rfl rfl rfl
def GI:=IE true
theorem FA{mi ml i:Nat}(hD:D=A8 w.2 N n)(hv:N[i]?=some (x,v)):(GI mi ml i N.length n D (.str x 0)).Ok pw w (A4 w.2):=GL hD hv
def GF:=IE false
theorem F9{mi ml i:Nat}(hD:D=A8 w.2 N n)(hv:N[i]?=some (x,v)):(GF mi ml i N.length n D v).Ok pw w (A4 w.2):=GL hD hv
def Bh(id:String)(mi ml:Nat)(ss:List Sh)(O:SX→Obj)(O':Obj)(Ob:Obj):AA:=B6 (fun q=>ss) [mi,ml] [false,true] [] (fun X=>cZ id (A2 X mi) (A2 X ml) (O X) O' Ob ss)
theorem Hx{ss:List Sh}(hn:ss≠[])(h:∀ d,topHandled (BH ss.tail 1 d)=none):∀ k g l cd pc rest,(ss=[]∨BB ss (Frame.ret k none g l cd pc []::rest)=ss.map some)→NM pc (Frame.ret k none g l cd pc []::rest):=by
 intro k g l cd pc rest hh
 rcases hh with hh | hh
 ·exact absurd hh hn
 ·cases ss with
  | nil=>exact absurd rfl hn
  | cons a b=>exact Qx h hh
theorem HQ{q:Bool}{mi ml i:Nat}{ss:List Sh}{I:Lp→Prop}(hm:mi≠ml)(hD:D=.seq ⟨vs⟩ n)(hv:vs.length≤i)(hn:ss≠[])(h:∀ d,topHandled (BH ss.tail 1 d)=none):(Bh (az q) mi ml ss (fun X=>ax q (A2 X ml) i) (lN q i) (Z4 q D)).oB pw w (A4 w.2) I I:=
 AF (w:=w) (Sf:=fun z=>NM) (fun X=>Jn (A2 X mi) (A2 X ml) i hD (List.getElem?_eq_none hv) _ (fun z z h=>h)) (fun z=>Hx hn h) (by simpa using hm) (fun z=>⟨rfl,rfl,fun z=>rfl⟩) (fun z z=>rfl)
theorem BE{mi ml i:Nat}{ss:List Sh}{I:Lp→Prop}(hm:mi≠ml)(hD:D=.seq ⟨vs⟩ n)(hv:vs.length≤i)(hn:ss≠[])(h:∀ d,topHandled (BH ss.tail 1 d)=none):(Bh "list_iterator.__next__" mi ml ss (fun X=>AW (A2 X ml) i) (BW i) (A0 D)).oB pw w (A4 w.2) I I:=HQ (q:=true) hm hD hv hn h
theorem M8{mi ml i:Nat}{ss:List Sh}{I:Lp→Prop}(hm:mi≠ml)(hD:D=.seq ⟨vs⟩ n)(hv:vs.length≤i)(hn:ss≠[])(h:∀ d,topHandled (BH ss.tail 1 d)=none):(Bh "tuple_iterator.__next__" mi ml ss (fun X=>Qj (A2 X ml) i) (Yy i) (AV D)).oB pw w (A4 w.2) I I:=HQ (q:=false) hm hD hv hn h
theorem HR{q:Bool}{mi ml i:Nat}{ss:List Sh}{I:Lp→Prop}(hm:mi≠ml)(hD:D=A8 w.2 N n)(hv:N.length≤i)(hn:ss≠[])(h:∀ d,topHandled (BH ss.tail 1 d)=none):(Bh (bP q) mi ml ss (fun X=>Y3 q (A2 X ml) i N.length n) (d8 q i N.length n) (A7 D)).oB pw w (A4 w.2) I I:=
 AF (w:=w) (Sf:=fun z=>NM) (fun X=>KN (A2 X mi) (A2 X ml) i hD hv _ (fun z z h=>h)) (fun z=>Hx hn h) (by simpa using hm) (fun z=>⟨rfl,rfl,fun z=>rfl⟩) (fun z z=>rfl)
theorem M9{mi ml i:Nat}{ss:List Sh}{I:Lp→Prop}(hm:mi≠ml)(hD:D=A8 w.2 N n)(hv:N.length≤i)(hn:ss≠[])(h:∀ d,topHandled (BH ss.tail 1 d)=none):(Bh "dict_keyiterator.__next__" mi ml ss (fun X=>Cu (A2 X ml) i N.length n) (LZ i N.length n) (A7 D)).oB pw w (A4 w.2) I I:=HR (q:=true) hm hD hv hn h
theorem M7{mi ml i:Nat}{ss:List Sh}{I:Lp→Prop}(hm:mi≠ml)(hD:D=A8 w.2 N n)(hv:N.length≤i)(hn:ss≠[])(h:∀ d,topHandled (BH ss.tail 1 d)=none):(Bh "dict_valueiterator.__next__" mi ml ss (fun X=>CK (A2 X ml) i N.length n) (JL i N.length n) (A7 D)).oB pw w (A4 w.2) I I:=HR (q:=false) hm hD hv hn h
theorem C8{s:Shared}{o:Obj}{n:Nat}:BK s { s with heap:=s.heap.push o,toks:=n }:=⟨by cases s with | mk h=>cases h; rfl,fun b ob h=>Heap.get?_push_of_some _ h,rfl,rfl,rfl⟩
def WG(f:Value)(as:Nat→List Value)(m:Nat)(O X:Nat→Obj):AA:=M6 (fun x=>.call f ⟨as (A2 x m),[]⟩) [m] (fun x=>[some (A2 x m,O (A2 x m))]) false (fun x=>X (A2 x m))
theorem Kv{f:Value}{as:Nat→List Value}{m:Nat}{O X:Nat→Obj}(h:∀ a,kJ w f (as a) a (O a) (X a)):(WG f as m O X).Ok pw w (A4 w.2):=EO fun c x hc hp=>by
 obtain ⟨ps,rfl,e⟩:=AZ hc
 obtain ⟨o,ho,ho2⟩:=B0 (List.cons.inj hp).1
 refine ⟨_,_,rfl,fun A s D Q E hq=>?_⟩
 have H:=LM D ho
 rw [ho2] at H
 exact h (A2 x m) ps A s [] o e H (D.own _ _ _ ho) ho2 Q E fun o' tk hX hf=>hq _ _ o' C8 (Nat.le_refl _) (Heap.get?_push_size _ hf) hX
def Kq(m:Nat)(D:Data):AA:=WG (.builtin "dict.values") (fun a=>[.ref a]) m (fun q=>A7 D) (fun a=>Th a)
theorem GD{m:Nat}(hD:D=A8 w.2 N n):(Kq m D).Ok pw w (A4 w.2):=Kv fun a=>JO a hD
def OG(m:Nat)(D:Data)(len ep:Nat):AA:=WG (.builtin "dict.__iter__") (fun a=>[.ref a]) m (fun q=>A7 D) (fun a=>Cu a 0 len ep)
theorem MB{m:Nat}(hD:D=A8 w.2 N n):(OG m D N.length n).Ok pw w (A4 w.2):=Kv fun a=>MZ a hD
def I8(mv m:Nat)(D:Data)(len ep:Nat):AA:=M6 (fun x=>.call (.builtin "dict_values.__iter__") ⟨[.ref (A2 x mv)],[]⟩) [mv,m] (fun x=>[some (A2 x mv,Th (A2 x m)),some (A2 x m,A7 D)]) false (fun x=>CK (A2 x m) 0 len ep)
theorem En{mv m:Nat}(hD:D=A8 w.2 N n):(I8 mv m D N.length n).Ok pw w (A4 w.2):=EO fun c x hc hp=>by
 subst hD
 obtain ⟨ps,rfl,e⟩:=AZ hc
 obtain ⟨u,rfl,e1⟩:=E5 e
 obtain rfl:=AD e1
 obtain ⟨p1,p2⟩:=M4 hp
 obtain ⟨o1,h1,hO1⟩:=B0 p1
 obtain ⟨o2,h2,hO2⟩:=B0 p2
 obtain rfl:=Xs hO1
 obtain ⟨es,rfl,he⟩:=Bo hO2
 exact ⟨_,_,rfl,fun A s D Q E hq=>MV (D.own _ _ _ h1) (D.own _ _ _ h2) he (hq _ _ _ C8 (Nat.le_refl _) (Heap.get?_push_size _ rfl) rfl)⟩
end
end
section
noncomputable def Qv(a b c:Value):Obj:={ cls:=.type "slice",data:=.fields #[a,b,c] }
theorem Xp{o:Obj}{i:Int}(h:eO o=Qv (.int i 0) .none .none):∃ t,o = { cls:=.type "slice",dict:=none,data:=.fields #[.int i t,.none,.none],slots:=#[] }:=by
 obtain ⟨q,e⟩:=Bj o
 rw [h] at e
 subst e
 exact ⟨_,rfl⟩
section
variable{w:World}{D D2 D':Data}{vs ws:List Value}{n n2:Nat}
def Zh(m j:Nat)(k:Nat)(D D':Data):AA:=M6 (fun x=>.call (.builtin "list.__getitem__") ⟨[.ref (A2 x m),.ref (A2 x j)],[]⟩) [m,j] (fun x=>[some (A2 x m,A0 D),some (A2 x j,Qv (.int k 0) .none .none)]) true (fun q=>A0 D')
theorem Rq{m j k:Nat}(hD:D=.seq ⟨vs⟩ n)(hk:k≤vs.length)(pF:D'=.seq ⟨vs.drop k⟩ 0)(hs:vs.length≤sizeLine):(Zh m j k D D').Ok pw w (A4 w.2):=EO fun c x hc hp=>by
 subst hD pF
 obtain ⟨ps,rfl,e⟩:=AZ hc
 obtain ⟨u,v,rfl,e1,e2⟩:=Bb e
 obtain rfl:=AD e1
 obtain rfl:=AD e2
 obtain ⟨p1,p2⟩:=M4 hp
 obtain ⟨o1,h1,hO1⟩:=B0 p1
 obtain ⟨o2,h2,hO2⟩:=B0 p2
 obtain ⟨xs,rfl,hx⟩:=Ap hO1
 obtain ⟨t,rfl⟩:=Xp hO2
 refine ⟨_,_,rfl,fun A s D Q E hq=>?_⟩
 have ho:=D.own _ _ _ h1
 have pZ:=D.own _ _ _ h2
 have hl:=B7 hx
 have hTs:s.TypeIs (.ref (A2 x j)) "slice":=⟨_,pZ,rfl⟩
 refine wpAny_call_entry slot_list_getitem ⟨_,ho,rfl⟩ entry_list_getitem ?_ (args_list_getitem _ _)
 show wpAny _ _ (Builtin.List.listSubscript? (.ref (A2 x j))>>=_) _ _ s
 refine wpAny_bind ?_
 unfold Builtin.List.listSubscript?
 refine wpAny_bind (wpAny_specialOf hTs slice_no_index ?_)
 simp only [Option.isNone_none,if_true]
 refine wpAny_pure ?_
 show wpAny _ _ (typeOf (.ref (A2 x j))>>=_) _ _ s
 refine wpAny_bind (wpAny_typeOf hTs ?_)
 rw [if_neg (by decide)]
 rw [listSliceParts_eq]
 refine wpAny_bind (wpAny_bind (wpAny_field pZ rfl (x:=.none) rfl (wpAny_bind (wpAny_listPart IsPart.none ?_))))
 rw [if_neg (by exact Bool.false_ne_true)]
 refine wpAny_bind (wpAny_field pZ rfl (x:=.int k t) rfl (wpAny_bind (wpAny_listPart (IsPart.int k t) ?_)))
 refine wpAny_bind (wpAny_field pZ rfl (x:=.none) rfl (wpAny_bind (wpAny_listPart IsPart.none (wpAny_pure ?_))))
 refine wpAny_bind (m:=Builtin.List.listItems (.ref (A2 x m))) ?_
 unfold Builtin.List.listItems
 refine wpAny_bind (wpAny_seqItems ho rfl (wpAny_pure ?_))
 refine wpAny_bind (wpAny_of_eq (sliceIndices_raw (some (k:Int)) none none xs.size (by simp)) ?_)
 have sp:slicePick xs (some (k:Int)) none none=(xs.toList.drop k).toArray:=slicePick_from xs k (by lia)
 refine wpAny_bind (wpAny_newObj_type (wpAny_pure ⟨_,rfl,?_⟩) (Nat.le_trans (slicePick_size_le xs (some (k:Int)) none none) (by lia)))
 refine hq _ _ { cls:=.type "list",dict:=none,data:=.seq (slicePick xs (some (k:Int)) none none) 0,slots:=#[] } (by exact C8 (n:=s.toks)) (Nat.le_refl _) (Heap.get?_push_size _ rfl) ?_
 rw [sp]
 show eO _=A0 (.seq ⟨vs.drop k⟩ 0)
 have:((xs.toList.drop k).toArray.toList).map eV=vs.drop k:=by
  rw [← hx]; simp [List.map_drop]
 rw [← this]; rfl
def O7(m j:Nat)(D D2 D':Data):AA:=M6 (fun x=>.call (.builtin "list.__add__") ⟨[.ref (A2 x m),.ref (A2 x j)],[]⟩) [m,j] (fun x=>[some (A2 x m,A0 D),some (A2 x j,A0 D2)]) true (fun q=>A0 D')
theorem J4{m j:Nat}(hD:D=.seq ⟨vs⟩ n)(t6:D2=.seq ⟨ws⟩ n2)(pF:D'=.seq ⟨vs++ws⟩ 0)(hs:vs.length+ws.length≤sizeLine):(O7 m j D D2 D').Ok pw w (A4 w.2):=EO fun c x hc hp=>by
 subst hD t6 pF
 obtain ⟨ps,rfl,e⟩:=AZ hc
 obtain ⟨u,v,rfl,e1,e2⟩:=Bb e
 obtain rfl:=AD e1
 obtain rfl:=AD e2
 obtain ⟨p1,p2⟩:=M4 hp
 obtain ⟨o1,h1,hO1⟩:=B0 p1
 obtain ⟨o2,h2,hO2⟩:=B0 p2
 obtain ⟨xs,rfl,hx⟩:=Ap hO1
 obtain ⟨ys,rfl,hy⟩:=Ap hO2
 refine ⟨_,_,rfl,fun A s D Q E hq=>?_⟩
 refine call_meets F.slot_list_add ⟨_,D.own _ _ _ h1,rfl⟩ F.entry_list_add (F.args_list_add_2 _ _) (AutoSeq1.list___add___list_list_0 (A2 x m) xs n (A2 x j) ys n2 (by rw [B7 hx,B7 hy]; exact hs)) ⟨D.own _ _ _ h1,D.own _ _ _ h2,?_⟩
 refine hq _ _ { cls:=.type "list",dict:=none,data:=.seq (xs++ys) 0,slots:=#[] } (by exact C8 (n:=s.toks)) (Nat.le_refl _) (Heap.get?_push_size _ rfl) ?_
 show eO _=A0 (.seq ⟨vs++ws⟩ 0)
 have:((xs++ys).toList).map eV=vs++ws:=by rw [← hx,← hy]; simp
 rw [← this]; rfl
end
end
section
noncomputable def GN(nZ:Nat):Obj:={ cls:=.type "method-wrapper",data:=.fields #[.builtin "list_iterator.__next__",.ref nZ] }
theorem Uw{o:Obj}{a:Nat}(hO:eO o=GN a):o = { cls:=.type "method-wrapper",dict:=none,data:=.fields #[.builtin "list_iterator.__next__",.ref a],slots:=#[] }:=by
 obtain ⟨q,e⟩:=Bj o
 rw [hO] at e
 subst e
 exact rfl
theorem L7{w:World}{A:Around}{R:Result→Shared→Prop}{s:Shared}{a it:Nat}(ho:s.heap.get? a=some { cls:=.type "method-wrapper",dict:=none,data:=.fields #[.builtin "list_iterator.__next__",.ref it],slots:=#[] })
  (h:codeAny (model pw w) A (.builtin "list_iterator.__next__" ⟨[.ref it],[]⟩) R s):codeAny (model pw w) A (.call (.ref a) ⟨[],[]⟩) R s:=by
 refine codeAny_of_tree ?_
 show wpAny _ A.in1 (callAny (.ref a) ⟨[],[]⟩) _ _ s
 unfold callAny
 refine wpAny_bind (wpAny_load ho ?_)
 have e:checkBoundCall "list_iterator.__next__" ⟨[.ref it],[]⟩=pure ():=by kernel_rfl
 show wpAny _ _ (checkBoundCall "list_iterator.__next__" ⟨[.ref it],[]⟩>>=fun q=>again (.builtin "list_iterator.__next__" ⟨[.ref it],[]⟩)) _ _ _
 rw [e]
 exact wpAny_bind (wpAny_pure (wpAny_pure ⟨plainId_quiet slot_listiter_next.plain _,h⟩))
section
variable{w:World}{D:Data}{vs:List Value}{n:Nat}{v:Value}{I:Lp→Prop}
def lH(it l a:Nat)(O O':Obj)(X:Obj)(ss:List Sh)(v:Value):Spec:=⟨.call (.ref a) ⟨[],[]⟩,[it,l,a],[O,X,GN it],ss,fun q=>.fin (.done (.ret v)),fun q=>[O',X,GN it],fun q=>[]⟩
def j5(it l a:Nat)(O O':Obj)(X:Obj)(ss:List Sh):Spec:=⟨.call (.ref a) ⟨[],[]⟩,[it,l,a],[O,X,GN it],ss,fun A=>.err (.ref (A 1)),fun q=>[O',X,GN it],fun A=>[FL,Q7 (A 0)]⟩
theorem L6{it l a k:Nat}{O O' X:Obj}{ss:List Sh}{P:Lp}:((k+1,Q7 k)::(k,FL)::(it,O')::(l,X)::(a,GN it)::P).Perm ((j5 it l a O O' X ss).o8 (fun j=>if j=0 then k else k+1)++P):=by
 show ([(k+1,Q7 k)]++([(k,FL)]++([(it,O'),(l,X),(a,GN it)]++P))).Perm (([(it,O'),(l,X),(a,GN it)]++[(k,FL),(k+1,Q7 k)])++P)
 rw [← List.append_assoc,← List.append_assoc]
 refine List.Perm.append_right P ?_
 refine List.perm_append_comm.trans ?_
 refine List.Perm.append_left _ ?_
 exact List.Perm.swap _ _ _
theorem SW{ss:List Sh}(it l a i:Nat)(hD:D=.seq ⟨vs⟩ n)(hv:vs[i]?=some v)(Sf:Pos→List Frame→Prop)(hS:∀ pc nj,Sf pc nj→NM pc nj):(lH it l a (AW l i) (AW l ((i:Int)+1)) (A0 D) ss v).nP w Sf I I:=by
 subst hD
 intro P hI
 refine Ed hS fun c A s L hL hc H hh rD Q E hq he=>?_
 obtain ⟨ps,rfl,ha⟩:=AZ hc
 have ha:ps=[]:=List.map_eq_nil_iff.mp ha
 subst ha
 subst hL
 have H':BX (A4 w.2) s ((it,AW l i)::(l,A0 (.seq ⟨vs⟩ n))::(a,GN it)::P):=H
 obtain ⟨o,ho,hO⟩:=H'.find
 obtain ⟨ol,pJ,hOl⟩:=Cp H'
 obtain ⟨oa,hoa,hOa⟩:=H'.own (a,GN it) (.tail _ (.tail _ (.head _)))
 obtain rfl:=Uw hOa
 obtain ⟨t,rfl⟩:=Fo hO
 obtain ⟨xs,rfl,hx⟩:=Ap hOl
 obtain ⟨y,hy,ey⟩:=Cy hx hv
 rw [← hO] at H'
 have U:=Bm (f:=Obj.mapFields (·.setIfInBounds 1 (rawInt ((i:Int)+1)))) (tk:=s.toks) H' ho (o':={ cls:=.type "list_iterator",dict:=none,data:=.fields #[.ref l,.int ((i:Int)+1) 0],slots:=#[] }) rfl rfl
 rw [hO] at U
 refine wpAny_runValue (L7 hoa (codeAny_builtin entry_listiter_next ?_))
 rw [Around.under_plainId slot_listiter_next.plain _]
 refine wpAny_mono (Q:=fun fin s'=>∃ r,fin=.done (.ret r)∧Q r s') ?_ (fun fin s' h'=>by obtain ⟨r,rfl,hq⟩:=h'; exact hq) fun q q e=>e
 show wpAny _ _ (field (.ref it) 0>>=_) _ _ s
 refine wpAny_bind (wpAny_field ho rfl (x:=.ref l) rfl ?_)
 show wpAny _ _ (if (Value.ref l==Value.none)=true then _ else _) _ _ s
 rw [if_neg (show ¬ ((Value.ref l==Value.none)=true) from Bool.false_ne_true)]
 show wpAny _ _ (field (.ref it) 1>>=_) _ _ s
 refine wpAny_bind (wpAny_field ho rfl (x:=.int i t) rfl ?_)
 show wpAny _ _ (seqItems? (.ref l)>>=_) _ _ s
 refine wpAny_bind (wpAny_seqItems pJ rfl ?_)
 simp only [Int.toNat_natCast,hy]
 exact wpAny_bind (wpAny_setField ho rfl (by simp) (wpAny_pure ⟨y,rfl,hq y _ _ ⟨fun q=>0,P,hI,fun q m=>m,by rw [ey]; rfl,rfl⟩ U.1 U.2⟩))
theorem SY{ss:List Sh}(it l a i:Nat)(hD:D=.seq ⟨vs⟩ n)(hv:vs[i]?=none)(Sf:Pos→List Frame→Prop)(hS:∀ pc nj,Sf pc nj→NM pc nj):(j5 it l a (AW l i) (BW i) (A0 D) ss).nP w Sf I I:=by
 subst hD
 intro P hI
 refine Ed hS fun c A s L hL hc H hh rD Q E hq he=>?_
 obtain ⟨ps,rfl,ha⟩:=AZ hc
 have ha:ps=[]:=List.map_eq_nil_iff.mp ha
 subst ha
 subst hL
 have H':BX (A4 w.2) s ((it,AW l i)::(l,A0 (.seq ⟨vs⟩ n))::(a,GN it)::P):=H
 obtain ⟨o,ho,hO⟩:=H'.find
 obtain ⟨ol,pJ,hOl⟩:=Cp H'
 obtain ⟨oa,hoa,hOa⟩:=H'.own (a,GN it) (.tail _ (.tail _ (.head _)))
 obtain rfl:=Uw hOa
 obtain ⟨t,rfl⟩:=Fo hO
 obtain ⟨xs,rfl,hx⟩:=Ap hOl
 have hy:=Io hx hv
 rw [← hO] at H'
 have U:=Bm (f:=Obj.mapFields (·.setIfInBounds 0 .none)) (tk:=s.toks) H' ho (o':={ cls:=.type "list_iterator",dict:=none,data:=.fields #[.none,.int i t],slots:=#[] }) rfl rfl
 rw [hO] at U
 refine wpAny_runValue (L7 hoa (codeAny_builtin entry_listiter_next ?_))
 rw [Around.under_plainId slot_listiter_next.plain _]
 refine wpAny_mono (Q:=fun fin s'=>∃ r,fin=.done (.ret r)∧Q r s') ?_ (fun fin s' h'=>by obtain ⟨r,rfl,hq⟩:=h'; exact hq) fun q q e=>e
 show wpAny _ _ (field (.ref it) 0>>=_) _ _ s
 refine wpAny_bind (wpAny_field ho rfl (x:=.ref l) rfl ?_)
 show wpAny _ _ (if (Value.ref l==Value.none)=true then _ else _) _ _ s
 rw [if_neg (show ¬ ((Value.ref l==Value.none)=true) from Bool.false_ne_true)]
 show wpAny _ _ (field (.ref it) 1>>=_) _ _ s
 refine wpAny_bind (wpAny_field ho rfl (x:=.int i t) rfl ?_)
 show wpAny _ _ (seqItems? (.ref l)>>=_) _ _ s
 refine wpAny_bind (wpAny_seqItems pJ rfl ?_)
 simp only [Int.toNat_natCast,hy]
 refine wpAny_bind (wpAny_rule (wpAny_bind (wpAny_setField ho rfl (by simp) ?_)))
 refine Fz rD U.1 fun k s2 H2 F2=>?_
 exact he _ _ _ ⟨fun j=>if j=0 then k else k+1,P,hI,fun q m=>m,rfl,rfl⟩ (H2.perm (L6 (O:=FL) (ss:=[]))) ((U.2.trans (Nat.le_of_eq (Heap.SameBut.update ..).1.symm) F2).perm (L6 (O:=FL) (ss:=[])))
def Zq(mi ml mm:Nat)(ss:List Sh)(i:Nat)(D:Data)(v:Value):AA:=B6 (fun q=>ss) [mi,ml,mm] [false,true] [] (fun X=>lH (A2 X mi) (A2 X ml) (A2 X mm) (AW (A2 X ml) i) (AW (A2 X ml) ((i:Int)+1)) (A0 D) ss v)
theorem S7{mi ml mm i:Nat}{ss:List Sh}{I:Lp→Prop}(hm:[mi,ml,mm].Nodup)(hD:D=.seq ⟨vs⟩ n)(hv:vs[i]?=some v)(hn:ss≠[])(h:∀ d,topHandled (BH ss.tail 1 d)=none):(Zq mi ml mm ss i D v).oB pw w (A4 w.2) I I:=
 AF (w:=w) (Sf:=fun q=>NM) (fun X=>SW (A2 X mi) (A2 X ml) (A2 X mm) i hD hv _ (fun q q h=>h)) (fun q=>Hx hn h) hm (fun q=>⟨rfl,rfl,fun q=>rfl⟩) (fun q q=>rfl)
def WD(mi ml mm:Nat)(ss:List Sh)(i:Nat)(D:Data):AA:=B6 (fun q=>ss) [mi,ml,mm] [false,true] [] (fun X=>j5 (A2 X mi) (A2 X ml) (A2 X mm) (AW (A2 X ml) i) (BW i) (A0 D) ss)
theorem Ku{mi ml mm i:Nat}{ss:List Sh}{I:Lp→Prop}(hm:[mi,ml,mm].Nodup)(hD:D=.seq ⟨vs⟩ n)(hv:vs.length≤i)(hn:ss≠[])(h:∀ d,topHandled (BH ss.tail 1 d)=none):(WD mi ml mm ss i D).oB pw w (A4 w.2) I I:=
 AF (w:=w) (Sf:=fun q=>NM) (fun X=>SY (A2 X mi) (A2 X ml) (A2 X mm) i hD (List.getElem?_eq_none hv) _ (fun q q h=>h)) (fun q=>Hx hn h) hm (fun q=>⟨rfl,rfl,fun q=>rfl⟩) (fun q q=>rfl)
end
end
end
section
open PySem PySem.W PySem.W.X
noncomputable def AG(nm:Str)(np:Int)(aX aL:Nat):Obj:={ cls:=.ref 95,dict:=some aX,data:=.plain,slots:=#[some (.str nm 0),some (.int np 0),some (.ref aL)] }
noncomputable def AJ(aD:Nat):Obj:={ cls:=.ref 192,dict:=some aD }
def AK(P:Params)(aN:Nat)(rn:Value)(po nf:Int):Obj:=AR [kE P "_node2info" (.ref aN),kE P "_ready_nodes" rn,kE P "_npassedout" (.int po 0),kE P "_nfinished" (.int nf 0)] 4
noncomputable def Be:List Sh:=[.for_,.func,.func,.bi "claim.caller" 0]
def kD(P:Params)(aS aD aN aI aJ aL:Nat)(X Y:Str)(np nq:Int)(xI lI xJ:Nat)(DN DL oz:Data):Spec:=⟨.call (.ref 142) ⟨[.ref aS,.str X 0,.str Y 0],[]⟩,[aS,aD,aN,aI,aJ,aL],[AJ aD,AK P aN .none 0 0,A7 DN,AG X np xI lI,AG Y nq xJ aL,A0 DL],Be,fun A=>.fin (.done (.ret .none)),fun A=>[AJ aD,AK P aN .none 0 0,A7 DN,AG X (np+1) xI lI,AG Y nq xJ aL,A0 oz],fun A=>[]⟩
variable (w:World)(b b2:Bool)
theorem UU(aS aD aN aI aJ aL:Nat)(X Y:Str)(np nq:Int)(xI lI xJ:Nat)(DN DL oz:Data)(N:List (Str×Value))(nn:Nat)(hN:DN=A8 w.2 N nn)(h1:(BI N X).getD .none=.ref aI)(h2:(BI N Y).getD .none=.ref aJ)(vs:List Value)(e:Nat)(hL:DL=.seq ⟨vs⟩ e)(qy:oz=.seq ⟨vs++[.str X 0]⟩ (e+1))(hs:vs.length≤sizeLine)(I:Lp→Prop):(kD w.2 aS aD aN aI aJ aL X Y np nq xI lI xJ DN DL oz).nP (wf w b b2) (A3 (Be)) (I) (I):=by
 refine B8 (fun D=>kD w.2 aS aD aN aI aJ aL X Y np nq xI lI xJ (gD D 0) (gD D 1) oz) (fun D l=>kD w.2 aS aD aN aI aJ aL X Y np nq xI lI xJ (gD D 0) (gD D 1) (ud l 0 0)) (fun D=>(Af [ER 2 (gD D 0) X (.ref aI),ER 2 (gD D 0) Y (.ref aJ),CV 5 (gD D 1) oz (.str X 0)])) 3 [] [false,false,true,false,false,true] (hD 15 229 193175528045772635244819074066114588578601845347903963982377959322752835091688365089504881365804832498946171387903219712245065963321921677287836719656880415973241129315182414936794880172199776892066569245989616147791681897182351976873081342099419509505367191248210602550) 3 [12,2] 1 [DN,DL] (fun E0 ke=>?_)
 exact .q (BF (w:=wf w b b2) hN h1) fun z z z=>.q (BF (w:=wf w b b2) hN h2) fun z z z=>.cons (Ab hL qy hs) fun u2 z g2=>.nh ke (@id (eD (u2.d 0)=oz) (g2.1.1) ▸ rfl)
def kB(P:Params)(aS aD aN aI aL:Nat)(X:Str)(np:Int)(xI:Nat)(DN DL oz:Data):Spec:=⟨.call (.ref 142) ⟨[.ref aS,.str X 0,.str X 0],[]⟩,[aS,aD,aN,aI,aL],[AJ aD,AK P aN .none 0 0,A7 DN,AG X np xI aL,A0 DL],Be,fun A=>.fin (.done (.ret .none)),fun A=>[AJ aD,AK P aN .none 0 0,A7 DN,AG X (np+1) xI aL,A0 oz],fun A=>[]⟩
theorem UT(aS aD aN aI aL:Nat)(X:Str)(np:Int)(xI:Nat)(DN DL oz:Data)(N:List (Str×Value))(nn:Nat)(hN:DN=A8 w.2 N nn)(h1:(BI N X).getD .none=.ref aI)(vs:List Value)(e:Nat)(hL:DL=.seq ⟨vs⟩ e)(qy:oz=.seq ⟨vs++[.str X 0]⟩ (e+1))(hs:vs.length≤sizeLine)(I:Lp→Prop):(kB w.2 aS aD aN aI aL X np xI DN DL oz).nP (wf w b b2) (A3 (Be)) (I) (I):=by
 refine B8 (fun D=>kB w.2 aS aD aN aI aL X np xI (gD D 0) (gD D 1) oz) (fun D l=>kB w.2 aS aD aN aI aL X np xI (gD D 0) (gD D 1) (ud l 0 0)) (fun D=>(Af [ER 2 (gD D 0) X (.ref aI),ER 2 (gD D 0) X (.ref aI),CV 4 (gD D 1) oz (.str X 0)])) 3 [] [false,false,true,false,true] (hD 14 229 26344824843901784195883504206639096687229179382980494820394428110884828342633634888826816911519094555285976044622014775775325259794113253980942409461430446673981802362458151691903284492173086293331745141415310094983467792863140109389230065948236316407619946242356) 3 [12,2] 1 [DN,DL] (fun E0 ke=>?_)
 exact .q (BF (w:=wf w b b2) hN h1) fun z z z=>.q (BF (w:=wf w b b2) hN h1) fun z z z=>.cons (Ab hL qy hs) fun u2 z g2=>.nh ke (@id (eD (u2.d 0)=oz) (g2.1.1) ▸ rfl)
def dQ(P:Params)(aS aD aN aI:Nat)(X Y:Str)(np:Int)(xI lI:Nat)(N:List (Str×Value))(nn:Nat)(DN oM:Data):Spec:=⟨.call (.ref 142) ⟨[.ref aS,.str X 0,.str Y 0],[]⟩,[aS,aD,aN,aI],[AJ aD,AK P aN .none 0 0,A7 DN,AG X np xI lI],Be,fun A=>.fin (.done (.ret .none)),fun A=>[AJ aD,AK P aN .none 0 0,A7 oM,AG X (np+1) xI lI],fun A=>[AG Y 0 (A 1) (A 2),AR [] 0,A0 (.seq #[.str X 0] 1)]⟩
theorem US(aS aD aN aI:Nat)(X Y:Str)(np:Int)(xI lI:Nat)(N:List (Str×Value))(nn:Nat)(DN:Data)(hN:DN=A8 w.2 N nn)(h1:(BI N X).getD .none=.ref aI)(h2:BI N Y=none)(hs:N.length≤sizeLine)(I:Lp→Prop):Spec.oC (fun (oM:Data)=>dQ w.2 aS aD aN aI X Y np xI lI N nn DN oM) (fun (oM:Data) A=>oM=A8 w.2 (N++[(Y,.ref (A 0))]) (nn+1)) (dQ w.2 aS aD aN aI X Y np xI lI N nn DN .plain) (wf w b b2) (A3 (Be)) (I) (I):=by
 refine Hz (fun D=>dQ w.2 aS aD aN aI X Y np xI lI N nn (gD D 0) .plain) (fun D l=>dQ w.2 aS aD aN aI X Y np xI lI N nn (gD D 0) (ud l 0 0)) (fun D=>[fun z=>ER 2 (gD D 0) X (.ref aI),fun z=>ER 2 (gD D 0) Y (.none),fun l=>J' 2 (gD D 0) (A8 w.2 (N++[(Y,.ref (un l 0 0 0+1))]) (nn+1)) Y (.ref (un l 0 0 0+1))]) 3 (fun D l=>[(0,un l 1 0 0+1)]) [10,9,12] [false,false,true,false] (hD 17 377 69041310609682577262982961702526121782359620994600705781023137046164311036800284574288202961868876109946164233453952594515924588936147924363730557530615398190666371254683656390077404282864770892931179823941914699636809951608569542578445339562353378851062535508131216218034531392981220937996782963198233447263481048957543568805173153347465738524978738342251668120808501903976787907319732831107187553394380167738149770845242002494823008645919891672938460741679498078) 3 [12,10] 1 [DN] (fun E0 ke=>?_)
 refine .q (BF (w:=wf w b b2) hN h1) fun z z z=>.q (BF (w:=wf w b b2) hN (by rw [h2]; rfl)) fun u1 z z=>.cons (Dk (w:=wf w b b2) hN h2 rfl hs) fun u2 z g2=>.nil fun P hP=>ke _ _ ⟨eD (u2.d 0),rfl,hP,fun A a=>?_⟩
 try dsimp only
 have a0:A 0=u1.n 0 0+1:=a _ (.head _)
 exact g2.1.1.trans (congrArg (fun q:Nat=>A8 w.2 (N++[(Y,(Value.ref q))]) (nn+1)) a0.symm)
def dM(P:Params)(aS aD aN aJ aL:Nat)(X Y:Str)(nq:Int)(xJ:Nat)(N:List (Str×Value))(nn:Nat)(DN oM DL oz:Data):Spec:=⟨.call (.ref 142) ⟨[.ref aS,.str X 0,.str Y 0],[]⟩,[aS,aD,aN,aJ,aL],[AJ aD,AK P aN .none 0 0,A7 DN,AG Y nq xJ aL,A0 DL],Be,fun A=>.fin (.done (.ret .none)),fun A=>[AJ aD,AK P aN .none 0 0,A7 oM,AG Y nq xJ aL,A0 oz],fun A=>[AG X 1 (A 1) (A 2),AR [] 0,A0 (.seq #[] 0)]⟩
theorem UR(aS aD aN aJ aL:Nat)(X Y:Str)(nq:Int)(xJ:Nat)(N:List (Str×Value))(nn:Nat)(DN DL oz:Data)(hN:DN=A8 w.2 N nn)(h1:BI N X=none)(h2:∀ a:Nat,(BI (N++[(X,.ref a)]) Y).getD .none=.ref aJ)(hl:N.length≤sizeLine)(vs:List Value)(e:Nat)(hL:DL=.seq ⟨vs⟩ e)(qy:oz=.seq ⟨vs++[.str X 0]⟩ (e+1))(hs:vs.length≤sizeLine)(I:Lp→Prop):Spec.oC (fun (oM:Data)=>dM w.2 aS aD aN aJ aL X Y nq xJ N nn DN oM DL oz) (fun (oM:Data) A=>oM=A8 w.2 (N++[(X,.ref (A 0))]) (nn+1)) (dM w.2 aS aD aN aJ aL X Y nq xJ N nn DN .plain DL oz) (wf w b b2) (A3 (Be)) (I) (I):=by
 refine Hz (fun D=>dM w.2 aS aD aN aJ aL X Y nq xJ N nn (gD D 0) .plain (gD D 1) oz) (fun D l=>dM w.2 aS aD aN aJ aL X Y nq xJ N nn (gD D 0) (ud l 2 0) (gD D 1) (ud l 0 0)) (fun D=>[fun z=>ER 2 (gD D 0) X (.none),fun l=>J' 2 (gD D 0) (A8 w.2 (N++[(X,.ref (un l 0 0 0+1))]) (nn+1)) X (.ref (un l 0 0 0+1)),fun l=>ER 2 (ud l 0 0) Y (.ref aJ),fun z=>CV 4 (gD D 1) oz (.str X 0)]) 4 (fun D l=>[(0,un l 3 0 0+1)]) [9,8,11] [false,false,true,false,true] (hD 18 373 1533687021559783278678796754059164502447431570528281211335011677907919609660034946041424176014515018058746731587549971334662922152596059884408027694277173799692677847938865422600341816194973588396764528440604151725991802660782647985541199660168146146947847568899720771973539229072821674806563003808283161686087937479778459541044773692154606142506324169839529497346713151933736287941220885909505595236583336595761586441146908984213971422108022280606909192925213960913380) 3 [10,12,2] 1 [DN,DL] (fun E0 ke=>?_)
 refine .q (BF (w:=wf w b b2) hN (by rw [h1]; rfl)) fun u0 z z=>.cons (Dk (w:=wf w b b2) hN h1 rfl hl) fun u1 z g1=>.q (BF (w:=wf w b b2) g1.1.1 (h2 _)) fun z z z=>.cons (Ab hL qy hs) fun u3 z g3=>.nil fun P hP=>ke _ _ ⟨eD (u1.d 0),@id (eD (u3.d 0)=oz) (g3.1.1) ▸ rfl,hP,fun A a=>?_⟩
 try dsimp only
 have a0:A 0=u0.n 0 0+1:=a _ (.head _)
 exact g1.1.1.trans (congrArg (fun q:Nat=>A8 w.2 (N++[(X,(Value.ref q))]) (nn+1)) a0.symm)
def dI(P:Params)(aS aD aN:Nat)(X:Str)(N:List (Str×Value))(nn:Nat)(DN oM:Data):Spec:=⟨.call (.ref 142) ⟨[.ref aS,.str X 0,.str X 0],[]⟩,[aS,aD,aN],[AJ aD,AK P aN .none 0 0,A7 DN],Be,fun A=>.fin (.done (.ret .none)),fun A=>[AJ aD,AK P aN .none 0 0,A7 oM],fun A=>[AG X 1 (A 1) (A 2),AR [] 0,A0 (.seq #[.str X 0] 1)]⟩
theorem UP(aS aD aN:Nat)(X:Str)(N:List (Str×Value))(nn:Nat)(DN:Data)(hN:DN=A8 w.2 N nn)(h1:BI N X=none)(h2:∀ a:Nat,(BI (N++[(X,.ref a)]) X).getD .none=.ref a)(hl:N.length≤sizeLine)(I:Lp→Prop):Spec.oC (fun (oM:Data)=>dI w.2 aS aD aN X N nn DN oM) (fun (oM:Data) A=>oM=A8 w.2 (N++[(X,.ref (A 0))]) (nn+1)) (dI w.2 aS aD aN X N nn DN .plain) (wf w b b2) (A3 (Be)) (I) (I):=by
 refine Hz (fun D=>dI w.2 aS aD aN X N nn (gD D 0) .plain) (fun D l=>dI w.2 aS aD aN X N nn (gD D 0) (ud l 1 0)) (fun D=>[fun z=>ER 2 (gD D 0) X (.none),fun l=>J' 2 (gD D 0) (A8 w.2 (N++[(X,.ref (un l 0 0 0+1))]) (nn+1)) X (.ref (un l 0 0 0+1)),fun l=>ER 2 (ud l 0 0) X (.ref (un l 1 0 0+1))]) 3 (fun D l=>[(0,un l 2 0 0+1)]) [7,6,9] [false,false,true] (hD 16 377 8267307941901517732822893335850090876828868787600979286386162323804275816764118642625608859035254824871279746767497251166289513547269029478933759519626089869764867522183339331601454064483177140312523546542703497090844988551713379309206658424726199350049618389371841484481517036315445193482693770920783125123373232550523958476060765561333606110591084974730842502589792781534041253963493566781017314364027027449210996113074422315122322067527836086692041984) 3 [10,12] 1 [DN] (fun E0 ke=>?_)
 refine .q (BF (w:=wf w b b2) hN (by rw [h1]; rfl)) fun u0 z z=>.cons (Dk (w:=wf w b b2) hN h1 rfl hl) fun u1 z g1=>.q (BF (w:=wf w b b2) g1.1.1 (h2 _)) fun z z z=>.nil fun P hP=>ke _ _ ⟨eD (u1.d 0),rfl,hP,fun A a=>?_⟩
 try dsimp only
 have a0:A 0=u0.n 0 0+1:=a _ (.head _)
 exact g1.1.1.trans (congrArg (fun q:Nat=>A8 w.2 (N++[(X,(Value.ref q))]) (nn+1)) a0.symm)
def dJ(P:Params)(aS aD aN:Nat)(X Y:Str)(N:List (Str×Value))(nn:Nat)(DN DM oM:Data):Spec:=⟨.call (.ref 142) ⟨[.ref aS,.str X 0,.str Y 0],[]⟩,[aS,aD,aN],[AJ aD,AK P aN .none 0 0,A7 DN],Be,fun A=>.fin (.done (.ret .none)),fun A=>[AJ aD,AK P aN .none 0 0,A7 oM],fun A=>[AG X 1 (A 1) (A 2),AR [] 0,A0 (.seq #[] 0),AG Y 0 (A 4) (A 5),AR [] 0,A0 (.seq #[.str X 0] 1)]⟩
theorem UQ(aS aD aN:Nat)(X Y:Str)(N:List (Str×Value))(nn:Nat)(DN:Data)(hN:DN=A8 w.2 N nn)(h1:BI N X=none)(h2:∀ a:Nat,BI (N++[(X,.ref a)]) Y=none)(hl:N.length+1≤sizeLine)(I:Lp→Prop):Spec.oC (fun (oM:Data)=>dJ w.2 aS aD aN X Y N nn DN .plain oM) (fun (oM:Data) A=>oM=A8 w.2 (N++[(X,.ref (A 0)),(Y,.ref (A 3))]) (nn+2)) (dJ w.2 aS aD aN X Y N nn DN .plain .plain) (wf w b b2) (A3 (Be)) (I) (I):=by
 refine Hz (fun D=>dJ w.2 aS aD aN X Y N nn (gD D 0) .plain .plain) (fun D l=>dJ w.2 aS aD aN X Y N nn (gD D 0) (ud l 2 0) (ud l 0 0)) (fun D=>[fun z=>ER 2 (gD D 0) X (.none),fun l=>J' 2 (gD D 0) (A8 w.2 (N++[(X,.ref (un l 0 0 0+1))]) (nn+1)) X (.ref (un l 0 0 0+1)),fun l=>ER 2 (ud l 0 0) Y .none,fun l=>J' 2 (ud l 1 0) (A8 w.2 ((N++[(X,.ref (un l 2 0 0+1))])++[(Y,.ref (un l 0 0 0+1))]) ((nn+1)+1)) Y (.ref (un l 0 0 0+1))]) 4 (fun D l=>[(0,un l 3 0 0+1),(3,un l 1 0 0+1)]) [7,6,9,13,12,15] [false,false,true] (hD 20 521 637673538629426532521835394373068368593291014078300329441392929061556557238101841657630553093289631331310088619697111340883334250605944622059564477513225975608680698128464724833959062673944056038881308958743099946760238104799141987133027967656744556569904991609245992276971491870222841753643791308454783481227477046801223549626250196765570252231372313014741901998305291598872206990927206709480227912614958932668541101656634384799613120717001461981293036227537128018816099894360375549038783982408796550925724274346906182160854208534932886500480145663913745693283761206666739853557760000000177554736989285013141648515396678990382013097156039650970698780775809025638412806736842000) 3 [10,12,10] 1 [DN] (fun E0 ke=>?_)
 refine .q (BF (w:=wf w b b2) hN (by rw [h1]; rfl)) fun u0 z z=>.cons (Dk (w:=wf w b b2) hN h1 rfl (by lia)) fun z z g1=>.q (BF (w:=wf w b b2) g1.1.1 (by (try simp only [un,ud,BL]); rw [h2]; rfl)) fun u2 z z=>.cons (Dk (w:=wf w b b2) g1.1.1 (h2 _) rfl (by simpa using hl)) fun u3 z g3=>.nil fun P hP=>ke _ _ ⟨eD (u3.d 0),rfl,hP,fun A a=>?_⟩
 try dsimp only
 have a0:A 0=u0.n 0 0+1:=a _ (.head _)
 have a1:A 3=u2.n 0 0+1:=a _ (.tail _ (.head _))
 refine g3.1.1.trans ?_
 have a0':=a0; have a1':=a1
 try dsimp only at a0' a1'
 show A8 w.2 (N++[(X,Value.ref (u0.n 0 0+1))]++[(Y,Value.ref (u2.n 0 0+1))]) (nn+1+1)=A8 w.2 (N++[(X,.ref (A 0)),(Y,.ref (A 3))]) (nn+2)
 rw [← a0,← a1,List.append_assoc]; rfl
noncomputable def JT:Stmt→Expr
 | .Assign _ e _=>e
 | _=>default
def j8(P:Params):Expr:=JT ((Cd (Ea (E2 P))).getD 1 (.Pass default))
def bK(P:Params)(aK fr:Nat):Env:={ scope:=G6 (NR (j8 P)),locals:=aK,globals:=3,cells:=[],qual:=Str.ofString "TopologicalSorter.prepare.<locals>.",func:=none,code:=.ref 146,frame:=some fr,builtins:=0 }
def EX(P:Params)(aI aA aK fr:Nat):Code:=.compLoop (j8 P) 0 (.ref aI) (.ref aA) (bK P aK fr)
def NI(P:Params)(aI aA aK fr:Nat):Code:=.compStart (j8 P) 0 (.ref aI) (.ref aA) (bK P aK fr)
noncomputable def Hw:List Sh:=[.func,.func,.bi "claim.caller" 0]
def kO(P:Params):Option Nat→Obj
 | none=>AR [] 0
 | some a=>AR [kE P "i" (.ref a)] 1
def gG(P:Params)(aI aN aA aK:Nat)(fr ln nn:Nat)(DN DA:Data):Spec:=⟨NI P aI aA aK fr,[aI,aN,aA,aK],[CK aN 0 ln nn,A7 DN,A0 DA,kO P none],(.func::Hw),fun A=>.fin (.again (EX P aI aA aK fr)),fun A=>[CK aN 0 ln nn,A7 DN,A0 DA,kO P none],fun A=>[]⟩
theorem RW(aI aN aA aK:Nat)(fr ln nn:Nat)(DN DA:Data)(I:Lp→Prop):(gG w.2 aI aN aA aK fr ln nn DN DA).nP (wf w b b2) (A3 ((.func::Hw))) (I) (I):=by
 refine Cz (fun D=>gG w.2 aI aN aA aK fr ln nn (gD D 0) (gD D 1)) (fun D l=>gG w.2 aI aN aA aK fr ln nn (gD D 0) (gD D 1)) (fun D=>(Af [])) 0 [] [false,true,true,false] (fun b2=>bif b2 then [] else [1,1,1,1]) (fun q=>1000000) (fun q=>[]) 0 [DN,DA] (fun E0 ke=>?_)
 exact .nh ke rfl
def gF(P:Params)(aI aN aA aK aJ:Nat)(fr i ln xJ lJ:Nat)(X:Str)(k:Option Nat)(N:List (Str×Value))(nn:Nat)(DN DA nz:Data):Spec:=⟨EX P aI aA aK fr,[aI,aN,aA,aK,aJ],[CK aN i ln nn,A7 DN,A0 DA,kO P k,AG X 0 xJ lJ],(.func::Hw),fun A=>.fin (.again (EX P aI aA aK fr)),fun A=>[CK aN ((i:Int)+1) ln nn,A7 DN,A0 nz,kO P (some aJ),AG X 0 xJ lJ],fun A=>[]⟩
theorem RV(aI aN aA aK aJ:Nat)(fr i ln xJ lJ:Nat)(X:Str)(k:Option Nat)(N:List (Str×Value))(nn:Nat)(DN DA nz:Data)(hN:DN=A8 w.2 N nn)(q8:N.length=ln)(hi:N[i]?=some (X,.ref aJ))(vs:List Value)(e:Nat)(hA:DA=.seq ⟨vs⟩ e)(qf:nz=.seq ⟨vs++[.str X 0]⟩ (e+1))(hs:vs.length≤sizeLine)(I:Lp→Prop):(gF w.2 aI aN aA aK aJ fr i ln xJ lJ X k N nn DN DA nz).nP (wf w b b2) (A3 ((.func::Hw))) (I) (I):=by
 refine BZ (Cs.oo k 0) (fun z D=>gF w.2 aI aN aA aK aJ fr i ln xJ lJ X z N nn (gD D 0) (gD D 1) nz) (fun z D l=>gF w.2 aI aN aA aK aJ fr i ln xJ lJ X z N nn (gD D 0) (gD D 1) (ud l 0 0)) (fun z D=>(Af [GF 0 1 i ln nn (gD D 0) (.ref aJ),CV 2 (gD D 1) nz (.str X 0)])) 2 (fun z=>[]) [false,true,true,false,false] (hD 7 55 22031200517672453892742305029169363625388549275) 0 [5] 0 [DN,DA] (fun E0 ke=>?_)
 exact .q ((by subst q8; exact F9 (w:=wf w b b2) hN hi)) fun y y y=>.cons (Ab hA qf hs) fun u1 y g1=>.nh ke (@id (eD (u1.d 0)=nz) (g1.1.1) ▸ rfl)
def gE(P:Params)(aI aN aA aK aJ:Nat)(fr i ln xJ lJ m:Nat)(X:Str)(k:Option Nat)(N:List (Str×Value))(nn:Nat)(DN DA:Data):Spec:=⟨EX P aI aA aK fr,[aI,aN,aA,aK,aJ],[CK aN i ln nn,A7 DN,A0 DA,kO P k,AG X ((m+1:Nat):Int) xJ lJ],(.func::Hw),fun A=>.fin (.again (EX P aI aA aK fr)),fun A=>[CK aN ((i:Int)+1) ln nn,A7 DN,A0 DA,kO P (some aJ),AG X ((m+1:Nat):Int) xJ lJ],fun A=>[]⟩
theorem RU(aI aN aA aK aJ:Nat)(fr i ln xJ lJ m:Nat)(X:Str)(k:Option Nat)(N:List (Str×Value))(nn:Nat)(DN DA:Data)(hN:DN=A8 w.2 N nn)(q8:N.length=ln)(hi:N[i]?=some (X,.ref aJ))(I:Lp→Prop):(gE w.2 aI aN aA aK aJ fr i ln xJ lJ m X k N nn DN DA).nP (wf w b b2) (A3 ((.func::Hw))) (I) (I):=by
 refine BZ (Cs.oo k 0) (fun z D=>gE w.2 aI aN aA aK aJ fr i ln xJ lJ m X z N nn (gD D 0) (gD D 1)) (fun z D l=>gE w.2 aI aN aA aK aJ fr i ln xJ lJ m X z N nn (gD D 0) (gD D 1)) (fun z D=>(Af [GF 0 1 i ln nn (gD D 0) (.ref aJ)])) 1 (fun z=>[]) [false,true,true,false,false] (hD 7 29 2346870483373270093309862) 0 [] 0 [DN,DA] (fun E0 ke=>?_)
 exact .q ((by subst q8; exact F9 (w:=wf w b b2) hN hi)) fun y y y=>.nh ke rfl
def gC(P:Params)(aI aN aA aK:Nat)(fr a0 i ln:Nat)(N:List (Str×Value))(nn:Nat)(DN oM DA:Data):Spec:=⟨EX P aI aA aK fr,[aI,aN,aA,aK],[CK aN i ln nn,A7 DN,A0 DA,kO P (some a0)],(.func::Hw),fun A=>.fin (.done .next),fun A=>[JL i ln nn,A7 oM,A0 DA,kO P (some a0)],fun A=>[]⟩
theorem RS(aI aN aA aK:Nat)(fr a0 i ln:Nat)(N:List (Str×Value))(nn:Nat)(DN oM DA:Data)(hN:DN=A8 w.2 N nn)(q8:N.length=ln)(hi:N.length≤i)(eN:oM=DN)(I:Lp→Prop):(gC w.2 aI aN aA aK fr a0 i ln N nn DN oM DA).nP (wf w b b2) (A3 ((.func::Hw))) (I) (I):=by
 refine B8 (fun D=>gC w.2 aI aN aA aK fr a0 i ln N nn (gD D 0) oM (gD D 1)) (fun D l=>gC w.2 aI aN aA aK fr a0 i ln N nn (gD D 0) (ud l 0 2) (gD D 1)) (fun D=>(Af [Bh "dict_valueiterator.__next__" 0 1 (.comp::.func::Hw) (fun X=>CK (A2 X 1) i ln nn) (JL i ln nn) (A7 (gD D 0))])) 1 [] [false,true,true,false] [1,6] 0 [] 0 [DN,DA] (fun E0 ke=>?_)
 exact .cons (by subst q8; exact M7 (w:=wf w b b2) (by decide) hN hi (by simp [gD]) (fun q=>rfl)) fun u0 q g0=>.nh ke (@id (eD (u0.d 2)=oM) (g0.1.1.trans eN.symm) ▸ rfl)
noncomputable def KG:Stmt→Expr
 | .For t _ _ _ _=>t
 | _=>default
noncomputable def FX:Stmt→List Stmt
 | .For _ _ b _ _=>b
 | _=>[]
noncomputable def KH:Stmt→List Stmt
 | .For _ _ _ e _=>e
 | _=>[]
noncomputable def dg:Stmt→Expr
 | .While t _ _ _=>t
 | _=>default
noncomputable def Yr:Stmt→List Stmt
 | .While _ b _ _=>b
 | _=>[]
noncomputable def dh:Stmt→List Stmt
 | .While _ _ e _=>e
 | _=>[]
def LS(P:Params):Stmt:=(Cd (Ea (Wd P))).getD 5 (.Pass default)
def Tf(P:Params):Stmt:=(FX (LS P)).getD 1 (.Pass default)
def Te(P:Params):Stmt:=(Yr (Tf P)).getD 1 (.Pass default)
def Bt(P:Params)(fr:Nat):Env:=AS P 182 Wd fr
def Es(P:Params)(aI fr:Nat):Code:=.forLoop (KG (LS P)) (.ref aI) (FX (LS P)) (KH (LS P)) (Bt P fr)
def QI(P:Params)(fr:Nat):Code:=.whileLoop (dg (Tf P)) (Yr (Tf P)) (dh (Tf P)) (Bt P fr)
def KC(P:Params)(fr:Nat):Code:=.whileLoop (dg (Te P)) (Yr (Te P)) (dh (Te P)) (Bt P fr)
def HE(P:Params)(fr nS A6 nR:Nat):List Sh:=[.fun1 (Bt P fr),.fun1 (AS P 147 E2 nS),.fun1 (AS P 935 Cb A6),.fun1 (BO P nR),.bi "claim.caller" 0]
def Hu(P:Params)(fr nS A6 nR:Nat):List Sh:=.qP (Bt P fr)::HE P fr nS A6 nR
def F7(P:Params)(fr nS A6 nR:Nat):List Sh:=.om (Bt P fr)::Hu P fr nS A6 nR
def lV(P:Params)(aS aN aT aU aE aB:Nat)(X:Str):Data:=.dict ⟨[kE P "self" (.ref aS),kE P "n2i" (.ref aN),kE P "stack" (.ref aT),kE P "itstack" (.ref aU),kE P "seen" (.ref aE),kE P "node2stacki" (.ref aB),kE P "node" (.str X 0)]⟩ 7
noncomputable def Xd(r:Bool)(D:Data)(code back fn:Value):Obj:={ cls:=.type "frame",data:=D,slots:=match r with | true=>#[some code,some (.ref 3),none,some back,none,some fn,some (.ref 0)] | false=>#[] }
def FY(r:Bool)(P:Params)(aS aN aT aU aE aB nS:Nat)(X:Str):Obj:=Xd r (lV P aS aN aT aU aE aB X) (.ref 181) (.ref nS) (.ref 182)
def RM(r:Bool)(D:Data)(A6:Nat):Obj:=Xd r D (.ref 146) (.ref A6) (.ref 147)
def I3(r:Bool)(D:Data)(nR:Nat):Obj:=Xd r D (.ref 934) (.ref nR) (.ref 935)
theorem A5:5000≤sizeLine:=by rw [sizeLine_eq]; decide
noncomputable def Yw:Stmt→List ExceptHandler
 | .Try _ h _ _ _=>h
 | _=>[]
def nG(P:Params):List ExceptHandler:=Yw ((Yr (Te P)).getD 0 (.Pass default))
noncomputable def Y6(P:Params)(fr:Nat)(e:Value)(m:Sem Unit):Sem Fin:=
 PySem.W.R.onRaiseR (PySem.W.R.bindR (PySem.W.R.bindR (PySem.W.R.bindR m (fun q=>PySem.W.R.bindR (eI e none) (fun q=>PySem.W.Fast.tw14206642085496868694 e (Bt P fr) (nG P))))
   (fun fl=>match fl with | .next=>PySem.W.Fast.tw12563942051412417395 [] (Bt P fr) | f=>.pure f))
  (fun fl=>match fl with | .next=>PySem.W.Fast.tw12377390311714414960 (KC P fr) | .cont=>PySem.W.Fast.tw12377390311714414960 (KC P fr) | .brk=>.pure (.done .next) | .ret v=>.pure (.done (.ret v))))
  (fun x=>PySem.W.R.bindR (Wj x (Bt P fr)) (fun q=>PySem.W.Fast.tw1623429502029203251 x))
theorem Gk(P:Params)(fr:Nat)(e:Value):Hq (Y6 P fr e):=⟨fun q q q=>rfl,fun q q q q=>rfl,fun q q=>rfl,fun q=>rfl⟩
noncomputable def ZH:Pos:=⟨135,31,135,44⟩
def YY(e:Env):Vw:=(false,some e,none)
def vI(P:Params)(a b c d:Nat):List Vw:=[YY (Bt P a),YY (Bt P a),YY (Bt P a),JF (Bt P a),JF (AS P 147 E2 b),JF (AS P 935 Cb c),JF (BO P d),Yo "claim.caller"]
noncomputable def l6(P:Params):AA:=Iw (fun x=>Y6 P (A2 x 0) (.ref (A2 x 11))) 11 (fun x=>Bt P (A2 x 0)) (fun x=>A2 x 0) [⟨0,Bt P⟩,⟨7,AS P 147 E2⟩,⟨8,AS P 935 Cb⟩] (fun x=>[BO P (A2 x 9)]) [9] (fun x=>vI P (A2 x 0) (A2 x 7) (A2 x 8) (A2 x 9)) ZH ["claim.caller"]
noncomputable def Zp(P:Params)(b c d:Nat):AA:=Iw (fun x=>Y6 P (A2 x 0) (.ref (A2 x 8))) 8 (fun x=>Bt P (A2 x 0)) (fun x=>A2 x 0) [] (fun x=>[Bt P (A2 x 0),AS P 147 E2 b,AS P 935 Cb c,BO P d]) [0] (fun x=>vI P (A2 x 0) b c d) ZH ["claim.caller"]
theorem kC(P:Params)(fr:Nat):((Bt P fr).scope.kind≠.module∧((Bt P fr).scope.isGenerator || (Bt P fr).scope.isCoroutine)=false)∧((AS P 147 E2 fr).scope.kind≠.module∧((AS P 147 E2 fr).scope.isGenerator || (AS P 147 E2 fr).scope.isCoroutine)=false)∧((AS P 935 Cb fr).scope.kind≠.module∧((AS P 935 Cb fr).scope.isGenerator || (AS P 935 Cb fr).scope.isCoroutine)=false):=by
 have h1:(Bt P fr).scope.kind=.function:=by kernel_rfl
 have h2:(AS P 147 E2 fr).scope.kind=.function:=by kernel_rfl
 have h3:(AS P 935 Cb fr).scope.kind=.function:=by kernel_rfl
 exact ⟨⟨by rw [h1]; decide,by kernel_rfl⟩,⟨by rw [h2]; decide,by kernel_rfl⟩,⟨by rw [h3]; decide,by kernel_rfl⟩⟩
theorem bo(P:Params)(a b c d:Nat):Am a (vI P a b c d)=some ["claim.caller"]:=by
 unfold Am vI
 rw [List.dropWhile_cons_of_pos (by simp [YY]),List.dropWhile_cons_of_pos (by simp [YY]),List.dropWhile_cons_of_pos (by simp [YY]),List.dropWhile_cons_of_neg (by simp [JF,Bt,Cr])]
 rfl
theorem WB{p:Program}{w:World}{kt:KT}{P:Params}:(l6 P).qQ p w kt:=
 Dg (fun x=>Gk ..) (fun x=>rfl) (by decide) (fun x=>rfl) (fun x=>List.dropWhile_cons_of_neg (by simp)) (fun x=>rfl) (fun x=>rfl) (fun x=>bo P _ _ _ _) (by decide)
  (fun x q hq=>by
   simp only [List.mem_cons,List.not_mem_nil,or_false] at hq
   rcases hq with rfl | rfl | rfl
   ·exact ⟨rfl,(kC P _).1⟩
   ·exact ⟨rfl,(kC P _).2.1⟩
   ·exact ⟨rfl,(kC P _).2.2⟩) (by simp only [List.map_cons,List.map_nil,List.cons_append,List.nil_append]; decide) (fun x=>.inr ⟨9,_,[],rfl,rfl,rfl⟩)
theorem S6{p:Program}{w:World}{kt:KT}{P:Params}{b c d:Nat}:(Zp P b c d).qQ p w kt:=
 Dg (fun x=>Gk ..) (fun x=>rfl) (by decide) (fun x=>rfl) (fun x=>List.dropWhile_cons_of_neg (by simp)) (fun x=>rfl) (fun x=>rfl) (fun x=>bo P _ _ _ _) (by decide)
  (fun x q hq=>by simp at hq) (by simp only [List.map_nil,List.append_nil,List.nil_append]; decide) (fun x=>.inr ⟨0,_,_,rfl,rfl,rfl⟩)
def jD(P:Params)(fr aT aU aM nZ aL:Nat)(r:Bool)(aS aN aE aB nS A6 nR:Nat)(X Y:Str)(k i:Nat)(DT DU DL oR:Data):Spec:=⟨KC P fr,[fr,aT,aU,aM,nZ,aL],[FY r P aS aN aT aU aE aB nS X,A0 DT,A0 DU,GN nZ,AW aL i,A0 DL],F7 P fr nS A6 nR,fun A=>.fin (.done .next),fun A=>[FY r P aS aN aT aU aE aB nS Y,A0 DT,A0 DU,GN nZ,AW aL ((i:Int)+1),A0 oR],fun A=>[]⟩
theorem TC(fr aT aU aM nZ aL:Nat)(r:Bool)(aS aN aE aB nS A6 nR:Nat)(X Y:Str)(k i:Nat)(DT DU DL oR:Data)(ts us ls:List Value)(e1 e2 e3:Nat)(hT:DT=.seq ⟨ts⟩ e1)(hk:ts.length=k+1)(rQ:k+1 < 2 ^ 62)(hU:DU=.seq ⟨us++[.ref aM]⟩ e2)(ri:us.length < 2 ^ 62)(hL:DL=.seq ⟨ls⟩ e3)(hi:ls[i]?=some (.str Y 0))(eL:oR=DL)(I:Lp→Prop):(jD w.2 fr aT aU aM nZ aL r aS aN aE aB nS A6 nR X Y k i DT DU DL oR).nP (wf w b b2) (A3 (F7 w.2 fr nS A6 nR)) (I) (I):=by
 refine BZ (Cs.bb r) (fun z D=>jD w.2 fr aT aU aM nZ aL z aS aN aE aB nS A6 nR X Y k i (gD D 0) (gD D 1) (gD D 2) oR) (fun z D l=>jD w.2 fr aT aU aM nZ aL z aS aN aE aB nS A6 nR X Y k i (gD D 0) (gD D 1) (gD D 2) (ud l 0 2)) (fun z D=>(Af [Dy 1 (gD D 0) (Int.ofNat (Nat.succ k)),Kw 2 (gD D 1) (.ref aM),Zq 4 5 3 (.om (Bt w.2 fr)::F7 w.2 fr nS A6 nR) i (gD D 2) (.str Y 0)])) 3 (fun z=>[]) [false,true,true,false,false,true] (hD 6 10 13044541) 0 [1,0] 0 [DT,DU,DL] (fun E0 ke=>?_)
 exact .q (C7 hT (by rw [hk]; rfl) (by lia)) fun y y y=>.q (GH hU ri) fun y y y=>.cons (S7 (by decide) hL hi (by simp [gD]) (fun y=>rfl)) fun u2 y g2=>.nh ke (@id (eD (u2.d 2)=oR) (g2.1.1.trans eL.symm) ▸ rfl)
def cq(P:Params)(fr aT:Nat)(r:Bool)(aS aN aE aB aU nS A6 nR:Nat)(X:Str)(DT:Data):Spec:=⟨KC P fr,[fr,aT],[FY r P aS aN aT aU aE aB nS X,A0 DT],F7 P fr nS A6 nR,fun A=>.fin (.done .brk),fun A=>[FY r P aS aN aT aU aE aB nS X,A0 DT],fun A=>[]⟩
theorem T9(fr aT:Nat)(r:Bool)(aS aN aE aB aU nS A6 nR:Nat)(X:Str)(DT:Data)(e1:Nat)(hT:DT=.seq ⟨[]⟩ e1)(I:Lp→Prop):(cq w.2 fr aT r aS aN aE aB aU nS A6 nR X DT).nP (wf w b b2) (A3 (F7 w.2 fr nS A6 nR)) (I) (I):=by
 refine BZ (Cs.bb r) (fun z D=>cq w.2 fr aT z aS aN aE aB aU nS A6 nR X (gD D 0)) (fun z D l=>cq w.2 fr aT z aS aN aE aB aU nS A6 nR X (gD D 0)) (fun z D=>(Af [Dy 1 (gD D 0) 0])) 1 (fun z=>[]) [false,true] [1,2,2] 0 [] 0 [DT] (fun E0 ke=>?_)
 exact .q (C7 hT rfl (by decide)) fun y y y=>.nh ke rfl
def jC(P:Params)(fr aT aU aM nZ aL aB nS A6 nR:Nat)(aS aN aE:Nat)(X Z:Str)(k i:Nat)(DT DU DL oR DB DP DR DW oy pN p6:Data):Spec:=⟨KC P fr,[fr,aT,aU,aM,nZ,aL,aB,nS,A6,nR],[FY false P aS aN aT aU aE aB nS X,A0 DT,A0 DU,GN nZ,AW aL i,A0 DL,A7 DB,RM false DP A6,I3 false DR nR,Dp nR DW],F7 P fr nS A6 nR,fun A=>.fin (.again (KC P fr)),fun A=>[FY true P aS aN aT aU aE aB nS X,A0 oy,A0 pN,GN nZ,BW i,A0 oR,A7 p6,RM true DP A6,I3 true DR nR,Dp nR DW],fun A=>[]⟩
theorem TA(fr aT aU aM nZ aL aB nS A6 nR:Nat)(aS aN aE:Nat)(X Z:Str)(k i:Nat)(DT DU DL oR DB DP DR DW oy pN p6:Data)(ts us ls:List Value)(e1 e2 e3 e4:Nat)(M:List (Str×Value))(vB:Value)(hT:DT=.seq ⟨ts++[.str Z 0]⟩ e1)(rU:oy=.seq ⟨ts⟩ (e1+1))(hk:ts.length=k)(rQ:k < 1000)(hU:DU=.seq ⟨us++[.ref aM]⟩ e2)(s9:pN=.seq ⟨us⟩ (e2+1))(ri:us.length < 1000)(hL:DL=.seq ⟨ls⟩ e3)(hi:ls.length≤i)(eL:oR=DL)(hB:DB=A8 w.2 (M++[(Z,vB)]) e4)(hZ:BI M Z=none)(r5:p6=A8 w.2 M (e4+1))(hM:M.length < 1000)(I:Lp→Prop):(jC w.2 fr aT aU aM nZ aL aB nS A6 nR aS aN aE X Z k i DT DU DL oR DB DP DR DW oy pN p6).nP (wf w b b2) (A3 (F7 w.2 fr nS A6 nR)) (I) (I):=by
 refine B8 (fun D=>jC w.2 fr aT aU aM nZ aL aB nS A6 nR aS aN aE X Z k i (gD D 0) (gD D 1) (gD D 2) oR (gD D 3) (gD D 4) (gD D 5) (gD D 6) oy pN p6) (fun D l=>jC w.2 fr aT aU aM nZ aL aB nS A6 nR aS aN aE X Z k i (gD D 0) (gD D 1) (gD D 2) (ud l 4 2) (gD D 3) (gD D 4) (gD D 5) (gD D 6) (ud l 2 0) (ud l 0 0) (ud l 1 0)) (fun D=>(Af [Dy 1 (gD D 0) (Int.ofNat (Nat.succ k)),Kw 2 (gD D 1) (.ref aM),WD 4 5 3 (.om (Bt w.2 fr)::F7 w.2 fr nS A6 nR) i (gD D 2),l6 w.2,Nz 1 (gD D 0) oy (.str Z 0),WZ 6 (gD D 3) p6 Z,Nz 2 (gD D 1) pN (.ref aM)])) 7 [] [false,true,true,false,false,true,true,true,true,true] (hD 15 31 616336191221646397828397253946215106) 0 [1,0,2,0,0] 0 [DT,DU,DL,DB,DP,DR,DW] (fun E0 ke=>?_)
 exact .q (C7 hT (by simp [hk]) (by simp [gD]; lia)) fun z z z=>.q (GH hU (by lia)) fun z z z=>.cons (Ku (by decide) hL hi (by simp [gD]) (fun z=>rfl)) fun u2 z g2=>.note WB fun z z z=>.cons (Fi hT rU (by have:=A5; lia)) fun u4 z g4=>.cons (L3 (w:=wf w b b2) hB hZ r5 (by have:=A5; lia)) fun u5 z g5=>.cons (Fi hU s9 (by have:=A5; lia)) fun u6 z g6=>.nh ke (@id (eD (u2.d 2)=oR) (g2.1.1.trans eL.symm) ▸ @id (eD (u4.d 0)=oy) (g4.1.1) ▸ @id (eD (u5.d 0)=p6) (g5.1.1) ▸ @id (eD (u6.d 0)=pN) (g6.1.1) ▸ rfl)
def jB(P:Params)(fr aT aU aM nZ aL aB:Nat)(aS aN aE nS A6 nR:Nat)(X Z:Str)(k i:Nat)(DT DU DL oR DB oy pN p6:Data):Spec:=⟨KC P fr,[fr,aT,aU,aM,nZ,aL,aB],[FY true P aS aN aT aU aE aB nS X,A0 DT,A0 DU,GN nZ,AW aL i,A0 DL,A7 DB],F7 P fr nS A6 nR,fun A=>.fin (.again (KC P fr)),fun A=>[FY true P aS aN aT aU aE aB nS X,A0 oy,A0 pN,GN nZ,BW i,A0 oR,A7 p6],fun A=>[]⟩
theorem T8(fr aT aU aM nZ aL aB:Nat)(aS aN aE nS A6 nR:Nat)(X Z:Str)(k i:Nat)(DT DU DL oR DB oy pN p6:Data)(ts us ls:List Value)(e1 e2 e3 e4:Nat)(M:List (Str×Value))(vB:Value)(hT:DT=.seq ⟨ts++[.str Z 0]⟩ e1)(rU:oy=.seq ⟨ts⟩ (e1+1))(hk:ts.length=k)(rQ:k < 1000)(hU:DU=.seq ⟨us++[.ref aM]⟩ e2)(s9:pN=.seq ⟨us⟩ (e2+1))(ri:us.length < 1000)(hL:DL=.seq ⟨ls⟩ e3)(hi:ls.length≤i)(eL:oR=DL)(hB:DB=A8 w.2 (M++[(Z,vB)]) e4)(hZ:BI M Z=none)(r5:p6=A8 w.2 M (e4+1))(hM:M.length < 1000)(I:Lp→Prop):(jB w.2 fr aT aU aM nZ aL aB aS aN aE nS A6 nR X Z k i DT DU DL oR DB oy pN p6).nP (wf w b b2) (A3 (F7 w.2 fr nS A6 nR)) (I) (I):=by
 refine B8 (fun D=>jB w.2 fr aT aU aM nZ aL aB aS aN aE nS A6 nR X Z k i (gD D 0) (gD D 1) (gD D 2) oR (gD D 3) oy pN p6) (fun D l=>jB w.2 fr aT aU aM nZ aL aB aS aN aE nS A6 nR X Z k i (gD D 0) (gD D 1) (gD D 2) (ud l 4 2) (gD D 3) (ud l 2 0) (ud l 0 0) (ud l 1 0)) (fun D=>(Af [Dy 1 (gD D 0) (Int.ofNat (Nat.succ k)),Kw 2 (gD D 1) (.ref aM),WD 4 5 3 (.om (Bt w.2 fr)::F7 w.2 fr nS A6 nR) i (gD D 2),Zp w.2 nS A6 nR,Nz 1 (gD D 0) oy (.str Z 0),WZ 6 (gD D 3) p6 Z,Nz 2 (gD D 1) pN (.ref aM)])) 7 [] [false,true,true,false,false,true,true] (hD 12 31 776849167588721043225150701899513) 0 [1,0,2,0,0] 0 [DT,DU,DL,DB] (fun E0 ke=>?_)
 exact .q (C7 hT (by simp [hk]) (by simp [gD]; lia)) fun z z z=>.q (GH hU (by lia)) fun z z z=>.cons (Ku (by decide) hL hi (by simp [gD]) (fun z=>rfl)) fun u2 z g2=>.note S6 fun z z z=>.cons (Fi hT rU (by have:=A5; lia)) fun u4 z g4=>.cons (L3 (w:=wf w b b2) hB hZ r5 (by have:=A5; lia)) fun u5 z g5=>.cons (Fi hU s9 (by have:=A5; lia)) fun u6 z g6=>.nh ke (@id (eD (u2.d 2)=oR) (g2.1.1.trans eL.symm) ▸ @id (eD (u4.d 0)=oy) (g4.1.1) ▸ @id (eD (u5.d 0)=p6) (g5.1.1) ▸ @id (eD (u6.d 0)=pN) (g6.1.1) ▸ rfl)
end
section
open PySem PySem.W PySem.W.X PyProof.Rows
def Ks(φ:Data→Prop):AA:=Nn (fun q=>.call (.type "set") ⟨[],[]⟩) [] (fun q=>[]) true (fun q=>Bp .plain) fun q=>φ
theorem Jz{w:World}:(Ks (C6 w [])).Ok pw w (A4 w.2):=Iy fun c x hc hp=>by
 obtain ⟨ps,rfl,ha⟩:=AZ hc
 have ha:ps=[]:=List.map_eq_nil_iff.mp ha
 subst ha
 refine ⟨_,_,rfl,fun A s D Q E hq=>call_set_0 fun led=>?_⟩
 refine hq _ _ { cls:=.type "set",dict:=none,data:=.set #[] 0 (.fresh 0 0 led),slots:=#[] } (by exact C8 (n:=s.toks)) (Nat.le_refl _) (Heap.get?_push_size _ rfl) (fun q=>⟨#[],0,_,rfl,by simp,by simp,rfl,by simp⟩) rfl
theorem P7{w:World}{D:Data}{ss:List Str}{n:Nat}{x:Str}{b:Bool}(a:Nat)(hD:D=.seq ⟨BA ss⟩ n)(hb:decide (x∈ss)=b):QA w (.builtin "list.__contains__") [.ref a,.str x 0] a (A0 D) (.bool b):=by
 subst hD
 intro ps A s P o ha H ho hO Q E hq
 obtain ⟨u,y,rfl,e1,e2⟩:=Bb ha
 obtain rfl:=AD e1
 obtain ⟨tk,rfl⟩:=AM e2
 obtain ⟨xs,rfl,hx⟩:=Ap hO
 have hm:∀ y∈xs.toList,∃ s' t,y=.str s' t∧s'∈ss:=by
  intro y hy
  have:eV y∈BA ss:=hx ▸ List.mem_map_of_mem hy
  obtain ⟨s',q7,e⟩:=List.mem_map.mp this
  obtain ⟨t,rfl⟩:=AM e.symm
  exact ⟨s',t,rfl,q7⟩
 refine call_meets F.slot_list_contains ⟨_,ho,rfl⟩ F.entry_list_contains (F.args_list_contains_2 _ _) (PySem.MeetsSeq.list_contains a xs n (.str x tk) (fun v=>match v with | .str s' _=>s'.cps.toList==x.cps.toList | _=>false) ?_) ⟨ho,?_⟩
 ·intro y hy
  obtain ⟨s',t,rfl,_⟩:=hm y (Array.mem_toList_iff.mpr hy)
  exact PySem.SeqRoads2.EqGives.str s' x t tk
 ·have e:(xs.any fun v=>match v with | .str s' _=>s'.cps.toList==x.cps.toList | _=>false)=b:=by
   rw [← hb]
   cases h:decide (x∈ss) with
   | true=>
    have hmem:x∈ss:=of_decide_eq_true h
    have:Value.str x 0∈BA ss:=List.mem_map_of_mem hmem
    rw [← hx] at this
    obtain ⟨y,hy,ey⟩:=List.mem_map.mp this
    obtain ⟨t,rfl⟩:=AM ey
    rw [Array.any_eq_true']
    exact ⟨_,Array.mem_toList_iff.mp hy,by simp⟩
   | false=>
    have hmem:x∉ss:=of_decide_eq_false h
    rw [Bool.eq_false_iff]
    intro hh
    rw [Array.any_eq_true'] at hh
    obtain ⟨y,hy,ey⟩:=hh
    obtain ⟨s',t,rfl,q7⟩:=hm y (Array.mem_toList_iff.mpr hy)
    have ey:(s'.cps.toList==x.cps.toList)=true:=ey
    have:s'=x:=by
     obtain ⟨⟨l⟩⟩:=s'; obtain ⟨⟨l2⟩⟩:=x
     have:l=l2:=by simpa using ey
     rw [this]
    exact hmem (this ▸ q7)
  rw [e]
  exact hq _ s.toks rfl
def CD(m:Nat)(D:Data)(x:Str)(b:Bool):AA:=H0 (.builtin "list.__contains__") (fun a=>[.ref a,.str x 0]) m (A0 D) (.bool b)
theorem Aq{w:World}{m:Nat}{D:Data}{ss:List Str}{n:Nat}{x:Str}{b:Bool}(hD:D=.seq ⟨BA ss⟩ n)(hb:decide (x∈ss)=b):(CD m D x b).Ok pw w (A4 w.2):=C2 fun a=>P7 a hD hb
end
section
open PySem PySem.W PySem.W.X
def VM(P:Params):Stmt:=(Cd (Ea (SO P))).getD 1 (.Pass default)
def Lj(P:Params):Stmt:=(Cd (Ea (SO P))).getD 4 (.Pass default)
def VL(P:Params):Stmt:=(FX (Lj P)).getD 1 (.Pass default)
def Wz(P:Params):Expr:=JT ((FX (Lj P)).getD 0 (.Pass default))
def Wy(P:Params):Expr:=JT ((FX (Lj P)).getD 2 (.Pass default))
def Xk(P:Params)(nT nW fr:Nat):Env:={ AS P 940 SO fr with cells:=[(Str.ofString "further",nT),(Str.ofString "ends",nW)] }
def Uv(P:Params)(aK nW fr:Nat):Env:={ scope:=G6 (NR (Wz P)),locals:=aK,globals:=3,cells:=[(Str.ofString "ends",nW)],qual:=Str.ofString "_law_walks.<locals>.",func:=none,code:=.ref 939,frame:=some fr,builtins:=0 }
def Uu(P:Params)(aK nT fr:Nat):Env:={ scope:=G6 (NR (Wy P)),locals:=aK,globals:=3,cells:=[(Str.ofString "further",nT)],qual:=Str.ofString "_law_walks.<locals>.",func:=none,code:=.ref 939,frame:=some fr,builtins:=0 }
def Ll(P:Params)(aI fr nT nW:Nat):Code:=.forLoop (KG (VM P)) (.ref aI) (FX (VM P)) (KH (VM P)) (Xk P nT nW fr)
def Mi(P:Params)(aI fr nT nW:Nat):Code:=.forLoop (KG (Lj P)) (.ref aI) (FX (Lj P)) (KH (Lj P)) (Xk P nT nW fr)
def QU(P:Params)(aI fr nT nW:Nat):Code:=.forLoop (KG (VL P)) (.ref aI) (FX (VL P)) (KH (VL P)) (Xk P nT nW fr)
def lZ(P:Params)(aI aA aK nW fr:Nat):Code:=.compStart (Wz P) 0 (.ref aI) (.ref aA) (Uv P aK nW fr)
def U9(P:Params)(aI aA aK nW fr:Nat):Code:=.compLoop (Wz P) 0 (.ref aI) (.ref aA) (Uv P aK nW fr)
def lY(P:Params)(aI aA aK nT fr:Nat):Code:=.compStart (Wy P) 0 (.ref aI) (.ref aA) (Uu P aK nT fr)
def U4(P:Params)(aI aA aK nT fr:Nat):Code:=.compLoop (Wy P) 0 (.ref aI) (.ref aA) (Uu P aK nT fr)
noncomputable def B1:List Sh:=[.func,.func,.bi "claim.caller" 0]
def Aa:List Sh:=.for_::B1
noncomputable def AH(a:Nat):Obj:={ cls:=.type "cell",data:=.cell (some (.ref a)) }
noncomputable def Y8(D:Data):Obj:={ cls:=.type "cell",data:=D }
def VK(P:Params)(nQ aN:Nat):List DictEntry:=[kE P "pairs" (.ref nQ),kE P "names" (.ref aN)]
def Mx(P:Params)(nQ aN aP:Nat)(X:Str):List DictEntry:=VK P nQ aN++[kE P "pair" (.ref aP),kE P "name" (.str X 0)]
def QH(P:Params)(nQ aN aP:Nat)(X:Str)(nY:Nat):List DictEntry:=Mx P nQ aN aP X++[kE P "rows" (.ref nY)]
def Fu(P:Params)(nQ aN aP:Nat)(X:Str)(nY:Nat)(T:Int):List DictEntry:=QH P nQ aN aP X nY++[kE P "steps" (.int T 0)]
def El(X Y:Str):Obj:=AV (.seq #[.str X 0,.str Y 0] 0)
def QF(P:Params)(nQ aN:Nat):Option (Nat×Str)→Obj
 | none=>C3 (.dict ⟨VK P nQ aN⟩ 2)
 | some (aP,X)=>C3 (.dict ⟨Mx P nQ aN aP X⟩ 4)
def Je(P:Params):Option (Str×Str)→Obj
 | none=>AR [] 0
 | some (X,Y)=>AR [kE P "early" (.str X 0),kE P "late" (.str Y 0)] 2
def Jd(P:Params):Option Str→Obj
 | none=>AR [] 0
 | some X=>AR [kE P "name" (.str X 0)] 1
def VG(P:Params)(aI nQ aP fr aN:Nat)(o:Option (Nat×Str))(nT nW i:Nat)(X Y:Str)(ng DN px oM:Data):Spec:=⟨Ll P aI fr nT nW,[aI,nQ,aP,fr,aN],[AW nQ i,A0 ng,El X Y,QF P nQ aN o,A0 DN],B1,fun A=>.fin (.again (Ll P aI fr nT nW)),fun A=>[AW nQ ((i:Int)+1),A0 ng,El X Y,QF P nQ aN (some (aP,Y)),A0 oM],fun A=>[]⟩
variable (w:World)(b b2:Bool)
theorem Mv(aI nQ aP fr aN:Nat)(o:Option (Nat×Str))(nT nW i:Nat)(X Y:Str)(ng DN px oM:Data)(vs:List Value)(e:Nat)(hL:ng=.seq ⟨vs⟩ e)(hi:vs[i]?=some (.ref aP))(ss:List Str)(en:Nat)(hN:DN=.seq ⟨BA ss⟩ en)(pC:ss.length < 1000)(hx:decide (X∈ss)=false)(rG:px=.seq ⟨BA ss++[.str X 0]⟩ (en+1))(hy:decide (Y∈(ss++[X]))=false)(sD:oM=.seq ⟨BA (ss++[X])++[.str Y 0]⟩ ((en+1)+1))(I:Lp→Prop):(VG w.2 aI nQ aP fr aN o nT nW i X Y ng DN px oM).nP (wf w b b2) (A3 (B1)) (I) (I):=by
 refine B8 (fun D=>VG w.2 aI nQ aP fr aN o nT nW i X Y (gD D 0) (gD D 1) px oM) (fun D l=>VG w.2 aI nQ aP fr aN o nT nW i X Y (gD D 0) (gD D 1) (ud l 2 0) (ud l 0 0)) (fun D=>[fun z=>Ao 0 1 i (gD D 0) (.ref aP),fun z=>CD 4 (gD D 1) X false,fun z=>CV 4 (gD D 1) px (.str X 0),fun l=>CD 4 (ud l 0 0) Y false,fun l=>CV 4 (ud l 1 0) oM (.str Y 0)]) 5 [] [false,true,false,false,true] (hD 10 54 866366664555545544446636666455554554444663666663334441) 0 [3,0,1,0] 0 [ng,DN] (fun E0 ke=>?_) (by cases o<;>kernel_rfl)
 refine .q (AO hL hi) fun z z z=>.q (Aq hN hx) fun z z z=>.cons (Ab hN rG (by have:=A5; simp [BA]; lia)) fun u2 z g2=>?_
 obtain rfl:eD (u2.d 0)=px:=g2.1.1
 exact .q ((Aq (ss:=(ss++[X])) (n:=(en+1)) (rG.trans (by simp [BA])) hy)) fun z z z=>.cons (Ab (vs:=BA (ss++[X])) (n:=(en+1)) (rG.trans (by simp [BA])) sD (by have:=A5; simp [BA]; lia)) fun u4 z g4=>.nh ke (@id (eD (u4.d 0)=oM) (g4.1.1) ▸ rfl)
def VF(P:Params)(aI nQ aP fr aN:Nat)(o:Option (Nat×Str))(nT nW i:Nat)(X Y:Str)(ng DN px:Data):Spec:=⟨Ll P aI fr nT nW,[aI,nQ,aP,fr,aN],[AW nQ i,A0 ng,El X Y,QF P nQ aN o,A0 DN],B1,fun A=>.fin (.again (Ll P aI fr nT nW)),fun A=>[AW nQ ((i:Int)+1),A0 ng,El X Y,QF P nQ aN (some (aP,Y)),A0 px],fun A=>[]⟩
theorem Mu(aI nQ aP fr aN:Nat)(o:Option (Nat×Str))(nT nW i:Nat)(X Y:Str)(ng DN px:Data)(vs:List Value)(e:Nat)(hL:ng=.seq ⟨vs⟩ e)(hi:vs[i]?=some (.ref aP))(ss:List Str)(en:Nat)(hN:DN=.seq ⟨BA ss⟩ en)(pC:ss.length < 1000)(hx:decide (X∈ss)=false)(rG:px=.seq ⟨BA ss++[.str X 0]⟩ (en+1))(hy:decide (Y∈(ss++[X]))=true)(I:Lp→Prop):(VF w.2 aI nQ aP fr aN o nT nW i X Y ng DN px).nP (wf w b b2) (A3 (B1)) (I) (I):=by
 refine B8 (fun D=>VF w.2 aI nQ aP fr aN o nT nW i X Y (gD D 0) (gD D 1) px) (fun D l=>VF w.2 aI nQ aP fr aN o nT nW i X Y (gD D 0) (gD D 1) (ud l 1 0)) (fun D=>[fun z=>Ao 0 1 i (gD D 0) (.ref aP),fun z=>CD 4 (gD D 1) X false,fun z=>CV 4 (gD D 1) px (.str X 0),fun l=>CD 4 (ud l 0 0) Y true]) 4 [] [false,true,false,false,true] (hD 10 48 866366665544446636666455554554444663666663334441) 0 [3,0,1] 0 [ng,DN] (fun E0 ke=>?_) (by cases o<;>kernel_rfl)
 refine .q (AO hL hi) fun z z z=>.q (Aq hN hx) fun z z z=>.cons (Ab hN rG (by have:=A5; simp [BA]; lia)) fun u2 z g2=>?_
 obtain rfl:eD (u2.d 0)=px:=g2.1.1
 exact .q ((Aq (ss:=(ss++[X])) (n:=(en+1)) (rG.trans (by simp [BA])) hy)) fun z z z=>.nh ke rfl
def VE(P:Params)(aI nQ aP fr aN:Nat)(o:Option (Nat×Str))(nT nW i:Nat)(X Y:Str)(ng DN oM:Data):Spec:=⟨Ll P aI fr nT nW,[aI,nQ,aP,fr,aN],[AW nQ i,A0 ng,El X Y,QF P nQ aN o,A0 DN],B1,fun A=>.fin (.again (Ll P aI fr nT nW)),fun A=>[AW nQ ((i:Int)+1),A0 ng,El X Y,QF P nQ aN (some (aP,Y)),A0 oM],fun A=>[]⟩
theorem Mt(aI nQ aP fr aN:Nat)(o:Option (Nat×Str))(nT nW i:Nat)(X Y:Str)(ng DN oM:Data)(vs:List Value)(e:Nat)(hL:ng=.seq ⟨vs⟩ e)(hi:vs[i]?=some (.ref aP))(ss:List Str)(en:Nat)(hN:DN=.seq ⟨BA ss⟩ en)(pC:ss.length < 1000)(hx:decide (X∈ss)=true)(hy:decide (Y∈ss)=false)(sD:oM=.seq ⟨BA ss++[.str Y 0]⟩ (en+1))(I:Lp→Prop):(VE w.2 aI nQ aP fr aN o nT nW i X Y ng DN oM).nP (wf w b b2) (A3 (B1)) (I) (I):=by
 refine B8 (fun D=>VE w.2 aI nQ aP fr aN o nT nW i X Y (gD D 0) (gD D 1) oM) (fun D l=>VE w.2 aI nQ aP fr aN o nT nW i X Y (gD D 0) (gD D 1) (ud l 0 0)) (fun D=>(Af [Ao 0 1 i (gD D 0) (.ref aP),CD 4 (gD D 1) X true,CD 4 (gD D 1) Y false,CV 4 (gD D 1) oM (.str Y 0)])) 4 [] [false,true,false,false,true] (hD 10 48 866366664555545544446636666554444663666663334441) 0 [3,1,0] 0 [ng,DN] (fun E0 ke=>?_) (by cases o<;>kernel_rfl)
 exact .q (AO hL hi) fun z z z=>.q (Aq hN hx) fun z z z=>.q ((Aq (ss:=ss) (n:=en) hN hy)) fun z z z=>.cons (Ab (vs:=BA ss) (n:=en) hN sD (by have:=A5; simp [BA]; lia)) fun u3 z g3=>.nh ke (@id (eD (u3.d 0)=oM) (g3.1.1) ▸ rfl)
def VD(P:Params)(aI nQ aP fr aN:Nat)(o:Option (Nat×Str))(nT nW i:Nat)(X Y:Str)(ng DN:Data):Spec:=⟨Ll P aI fr nT nW,[aI,nQ,aP,fr,aN],[AW nQ i,A0 ng,El X Y,QF P nQ aN o,A0 DN],B1,fun A=>.fin (.again (Ll P aI fr nT nW)),fun A=>[AW nQ ((i:Int)+1),A0 ng,El X Y,QF P nQ aN (some (aP,Y)),A0 DN],fun A=>[]⟩
theorem Ms(aI nQ aP fr aN:Nat)(o:Option (Nat×Str))(nT nW i:Nat)(X Y:Str)(ng DN:Data)(vs:List Value)(e:Nat)(hL:ng=.seq ⟨vs⟩ e)(hi:vs[i]?=some (.ref aP))(ss:List Str)(en:Nat)(hN:DN=.seq ⟨BA ss⟩ en)(pC:ss.length < 1000)(hx:decide (X∈ss)=true)(hy:decide (Y∈ss)=true)(I:Lp→Prop):(VD w.2 aI nQ aP fr aN o nT nW i X Y ng DN).nP (wf w b b2) (A3 (B1)) (I) (I):=by
 refine B8 (fun D=>VD w.2 aI nQ aP fr aN o nT nW i X Y (gD D 0) (gD D 1)) (fun D l=>VD w.2 aI nQ aP fr aN o nT nW i X Y (gD D 0) (gD D 1)) (fun D=>(Af [Ao 0 1 i (gD D 0) (.ref aP),CD 4 (gD D 1) X true,CD 4 (gD D 1) Y true])) 3 [] [false,true,false,false,true] (hD 10 42 866366665544446636666554444663666663334441) 0 [3,1] 0 [ng,DN] (fun E0 ke=>?_) (by cases o<;>kernel_rfl)
 exact .q (AO hL hi) fun z z z=>.q (Aq hN hx) fun z z z=>.q ((Aq (ss:=ss) (n:=en) hN hy)) fun z z z=>.nh ke rfl
def dZ(P:Params)(aI nQ:Nat)(fr nT nW i:Nat)(ng o6:Data):Spec:=⟨Ll P aI fr nT nW,[aI,nQ],[AW nQ i,A0 ng],B1,fun A=>.fin (.done .next),fun A=>[BW i,A0 o6],fun A=>[]⟩
theorem QE(aI nQ:Nat)(fr nT nW i:Nat)(ng o6:Data)(vs:List Value)(e:Nat)(hL:ng=.seq ⟨vs⟩ e)(hi:vs.length≤i)(eP:o6=ng)(I:Lp→Prop):(dZ w.2 aI nQ fr nT nW i ng o6).nP (wf w b b2) (A3 (B1)) (I) (I):=by
 refine B8 (fun D=>dZ w.2 aI nQ fr nT nW i (gD D 0) o6) (fun D l=>dZ w.2 aI nQ fr nT nW i (gD D 0) (ud l 0 2)) (fun D=>(Af [Bh "list_iterator.__next__" 0 1 (.for_::B1) (fun X=>AW (A2 X 1) i) (BW i) (A0 (gD D 0))])) 1 [] [false,true] [1,4] 0 [] 1 [ng] (fun E0 ke=>?_)
 exact .cons (BE (by decide) hL hi (by simp [gD]) (fun q=>rfl)) fun u0 q g0=>.nh ke (@id (eD (u0.d 2)=o6) (g0.1.1.trans eP.symm) ▸ rfl)
def YD(P:Params)(aI aA aK:Nat)(nW fr nQ:Nat)(DA:Data):Spec:=⟨lZ P aI aA aK nW fr,[aI,aA,aK],[AW nQ 0,A0 DA,Je P none],Aa,fun A=>.fin (.again (U9 P aI aA aK nW fr)),fun A=>[AW nQ 0,A0 DA,Je P none],fun A=>[]⟩
theorem Pp(aI aA aK:Nat)(nW fr nQ:Nat)(DA:Data)(I:Lp→Prop):(YD w.2 aI aA aK nW fr nQ DA).nP (wf w b b2) (A3 (Aa)) (I) (I):=by
 refine Cz (fun D=>YD w.2 aI aA aK nW fr nQ (gD D 0)) (fun D l=>YD w.2 aI aA aK nW fr nQ (gD D 0)) (fun D=>(Af [])) 0 [] [false,true,false] (fun b2=>bif b2 then [] else [1,1,1,1]) (fun q=>1000000) (fun q=>[]) 0 [DA] (fun E0 ke=>?_)
 exact .nh ke rfl
def k3(P:Params)(aI nQ aP aA aK nW aE:Nat)(o:Option (Str×Str))(fr i:Nat)(X Y:Str)(ng DA DE:Data):Spec:=⟨U9 P aI aA aK nW fr,[aI,nQ,aP,aA,aK,nW,aE],[AW nQ i,A0 ng,El X Y,A0 DA,Je P o,AH aE,A0 DE],Aa,fun A=>.fin (.again (U9 P aI aA aK nW fr)),fun A=>[AW nQ ((i:Int)+1),A0 ng,El X Y,A0 DA,Je P (some (X,Y)),AH aE,A0 DE],fun A=>[]⟩
theorem UC(aI nQ aP aA aK nW aE:Nat)(o:Option (Str×Str))(fr i:Nat)(X Y:Str)(ng DA DE:Data)(vs:List Value)(e:Nat)(hL:ng=.seq ⟨vs⟩ e)(hi:vs[i]?=some (.ref aP))(ss:List Str)(en:Nat)(hE:DE=.seq ⟨BA ss⟩ en)(hx:decide (X∈ss)=false)(I:Lp→Prop):(k3 w.2 aI nQ aP aA aK nW aE o fr i X Y ng DA DE).nP (wf w b b2) (A3 (Aa)) (I) (I):=by
 refine B8 (fun D=>k3 w.2 aI nQ aP aA aK nW aE o fr i X Y (gD D 0) (gD D 1) (gD D 2)) (fun D l=>k3 w.2 aI nQ aP aA aK nW aE o fr i X Y (gD D 0) (gD D 1) (gD D 2)) (fun D=>(Af [Ao 0 1 i (gD D 0) (.ref aP),CD 6 (gD D 2) X false])) 2 [] [false,true,false,true,false,false,true] (hD 12 37 5406851685104252264873967776123774758141) 0 [4] 0 [ng,DA,DE] (fun E0 ke=>?_) (by cases o<;>kernel_rfl)
 exact .q (AO hL hi) fun z z z=>.q (Aq hE hx) fun z z z=>.nh ke rfl
def jz(P:Params)(aI nQ aP aA aK nW aE:Nat)(o:Option (Str×Str))(fr i:Nat)(X Y:Str)(ng DA nz DE:Data):Spec:=⟨U9 P aI aA aK nW fr,[aI,nQ,aP,aA,aK,nW,aE],[AW nQ i,A0 ng,El X Y,A0 DA,Je P o,AH aE,A0 DE],Aa,fun A=>.fin (.again (U9 P aI aA aK nW fr)),fun A=>[AW nQ ((i:Int)+1),A0 ng,El X Y,A0 nz,Je P (some (X,Y)),AH aE,A0 DE],fun A=>[]⟩
theorem UB(aI nQ aP aA aK nW aE:Nat)(o:Option (Str×Str))(fr i:Nat)(X Y:Str)(ng DA nz DE:Data)(vs:List Value)(e:Nat)(hL:ng=.seq ⟨vs⟩ e)(hi:vs[i]?=some (.ref aP))(ss:List Str)(en:Nat)(hE:DE=.seq ⟨BA ss⟩ en)(hx:decide (X∈ss)=true)(us:List Value)(eu:Nat)(hA:DA=.seq ⟨us⟩ eu)(qf:nz=.seq ⟨us++[.str Y 0]⟩ (eu+1))(hs:us.length≤sizeLine)(I:Lp→Prop):(jz w.2 aI nQ aP aA aK nW aE o fr i X Y ng DA nz DE).nP (wf w b b2) (A3 (Aa)) (I) (I):=by
 refine B8 (fun D=>jz w.2 aI nQ aP aA aK nW aE o fr i X Y (gD D 0) (gD D 1) nz (gD D 2)) (fun D l=>jz w.2 aI nQ aP aA aK nW aE o fr i X Y (gD D 0) (gD D 1) (ud l 0 0) (gD D 2)) (fun D=>(Af [Ao 0 1 i (gD D 0) (.ref aP),CD 6 (gD D 2) X true,CV 3 (gD D 1) nz (.str Y 0)])) 3 [] [false,true,false,true,false,false,true] (hD 12 38 47934964184209762987754626196697924431101) 0 [4,0] 0 [ng,DA,DE] (fun E0 ke=>?_) (by cases o<;>kernel_rfl)
 exact .q (AO hL hi) fun z z z=>.q (Aq hE hx) fun z z z=>.cons (Ab hA qf hs) fun u2 z g2=>.nh ke (@id (eD (u2.d 0)=nz) (g2.1.1) ▸ rfl)
def jy(P:Params)(aI nQ:Nat)(aA aK nW fr i:Nat)(ng o6:Data):Spec:=⟨U9 P aI aA aK nW fr,[aI,nQ],[AW nQ i,A0 ng],Aa,fun A=>.fin (.done .next),fun A=>[BW i,A0 o6],fun A=>[]⟩
theorem UA(aI nQ:Nat)(aA aK nW fr i:Nat)(ng o6:Data)(vs:List Value)(e:Nat)(hL:ng=.seq ⟨vs⟩ e)(hi:vs.length≤i)(eP:o6=ng)(I:Lp→Prop):(jy w.2 aI nQ aA aK nW fr i ng o6).nP (wf w b b2) (A3 (Aa)) (I) (I):=by
 refine B8 (fun D=>jy w.2 aI nQ aA aK nW fr i (gD D 0) o6) (fun D l=>jy w.2 aI nQ aA aK nW fr i (gD D 0) (ud l 0 2)) (fun D=>(Af [Bh "list_iterator.__next__" 0 1 (.comp::Aa) (fun X=>AW (A2 X 1) i) (BW i) (A0 (gD D 0))])) 1 [] [false,true] [1,4] 0 [] 1 [ng] (fun E0 ke=>?_)
 exact .cons (BE (by decide) hL hi (by simp [gD]) (fun q=>rfl)) fun u0 q g0=>.nh ke (@id (eD (u0.d 2)=o6) (g0.1.1.trans eP.symm) ▸ rfl)
def cC(P:Params)(aI aE fr nT nv nY:Nat)(nW nQ aN nu i er:Nat)(rs:List Value)(T:Int)(X0 X:Str)(DE DF ov qR:Data):Spec:=⟨QU P aI fr nT nW,[aI,aE,fr,nT,nv,nY],[AW aE i,A0 DE,C3 (.dict ⟨Fu P nQ aN nu X0 nY T⟩ 6),AH nv,A0 DF,A0 ov],Aa,fun A=>.fin (.again (QU P aI fr nT nW)),fun A=>[AW aE ((i:Int)+1),A0 DE,C3 (.dict ⟨Fu P nQ aN nu X nY T⟩ 6),AH nv,A0 DF,A0 qR],fun A=>[AV (.seq #[.str X 0,.int T 0] 0)]⟩
theorem QL(aI aE fr nT nv nY:Nat)(nW nQ aN nu i er:Nat)(rs:List Value)(T:Int)(X0 X:Str)(DE DF ov:Data)(I:Lp→Prop)(vs:List Value)(e:Nat)(hL:DE=.seq ⟨vs⟩ e)(hi:vs[i]?=some (.str X 0))(ss:List Str)(en:Nat)(hF:DF=.seq ⟨BA ss⟩ en)(hx:decide (X∈ss)=false)(hR:ov=.seq ⟨rs⟩ er)(rm:rs.length < 1000):Spec.oC (fun (qR:Data)=>cC w.2 aI aE fr nT nv nY nW nQ aN nu i er rs T X0 X DE DF ov qR) (fun (qR:Data) A=>qR=.seq ⟨rs++[.ref (A 0)]⟩ (er+1)) (cC w.2 aI aE fr nT nv nY nW nQ aN nu i er rs T X0 X DE DF ov .plain) (wf w b b2) (A3 (Aa)) (I) (I):=by
 refine Hz (fun D=>cC w.2 aI aE fr nT nv nY nW nQ aN nu i er rs T X0 X (gD D 0) (gD D 1) (gD D 2) .plain) (fun D l=>cC w.2 aI aE fr nT nv nY nW nQ aN nu i er rs T X0 X (gD D 0) (gD D 1) (gD D 2) (ud l 0 0)) (fun D=>[fun y=>Ao 0 1 i (gD D 0) (.str X 0),fun y=>CD 4 (gD D 1) X false,fun l=>CV 5 (gD D 2) (.seq ⟨rs++[(Value.ref (un l 0 0 0))]⟩ (er+1)) (Value.ref (un l 0 0 0))]) 3 (fun D l=>[(0,(un l 1 0 0))]) [6] [false,true,false,false,true,true] (hD 8 14 1914321684185) 0 [0,0] 0 [DE,DF,ov] (fun E0 ke=>?_)
 refine .q (AO hL hi) fun y y y=>.q (Aq hF hx) fun u1 y y=>.cons (Ab hR (by simp [un,BL,gD]) (by have:=A5; lia)) fun u2 y g2=>.nil fun P hP=>ke _ _ ⟨eD (u2.d 0),rfl,hP,fun A a=>?_⟩
 try dsimp only
 have a0:A 0=(u1.n 0 0):=a _ (.head _)
 exact g2.1.1.trans (congrArg (fun (z:Nat)=>Data.seq ⟨rs++[Value.ref z]⟩ (er+1)) a0.symm)
def dk(P:Params)(aI aE fr nT nv nY:Nat)(nW nQ aN nu i:Nat)(T:Int)(X0 X:Str)(DE DF ov:Data):Spec:=⟨QU P aI fr nT nW,[aI,aE,fr,nT,nv,nY],[AW aE i,A0 DE,C3 (.dict ⟨Fu P nQ aN nu X0 nY T⟩ 6),AH nv,A0 DF,A0 ov],Aa,fun A=>.fin (.again (QU P aI fr nT nW)),fun A=>[AW aE ((i:Int)+1),A0 DE,C3 (.dict ⟨Fu P nQ aN nu X nY T⟩ 6),AH nv,A0 DF,A0 ov],fun A=>[]⟩
theorem QK(aI aE fr nT nv nY:Nat)(nW nQ aN nu i:Nat)(T:Int)(X0 X:Str)(DE DF ov:Data)(vs:List Value)(e:Nat)(hL:DE=.seq ⟨vs⟩ e)(hi:vs[i]?=some (.str X 0))(ss:List Str)(en:Nat)(hF:DF=.seq ⟨BA ss⟩ en)(hx:decide (X∈ss)=true)(I:Lp→Prop):(dk w.2 aI aE fr nT nv nY nW nQ aN nu i T X0 X DE DF ov).nP (wf w b b2) (A3 (Aa)) (I) (I):=by
 refine B8 (fun D=>dk w.2 aI aE fr nT nv nY nW nQ aN nu i T X0 X (gD D 0) (gD D 1) (gD D 2)) (fun D l=>dk w.2 aI aE fr nT nv nY nW nQ aN nu i T X0 X (gD D 0) (gD D 1) (gD D 2)) (fun D=>(Af [Ao 0 1 i (gD D 0) (.str X 0),CD 4 (gD D 1) X true])) 2 [] [false,true,false,false,true,true] [1,3,3,3,4,5,5] 0 [0] 0 [DE,DF,ov] (fun E0 ke=>?_)
 exact .q (AO hL hi) fun z z z=>.q (Aq hF hx) fun z z z=>.nh ke rfl
def di(P:Params)(aI aE:Nat)(fr nT nW i:Nat)(ng o6:Data):Spec:=⟨QU P aI fr nT nW,[aI,aE],[AW aE i,A0 ng],Aa,fun A=>.fin (.done .next),fun A=>[BW i,A0 o6],fun A=>[]⟩
theorem QJ(aI aE:Nat)(fr nT nW i:Nat)(ng o6:Data)(vs:List Value)(e:Nat)(hL:ng=.seq ⟨vs⟩ e)(hi:vs.length≤i)(eP:o6=ng)(I:Lp→Prop):(di w.2 aI aE fr nT nW i ng o6).nP (wf w b b2) (A3 (Aa)) (I) (I):=by
 refine B8 (fun D=>di w.2 aI aE fr nT nW i (gD D 0) o6) (fun D l=>di w.2 aI aE fr nT nW i (gD D 0) (ud l 0 2)) (fun D=>(Af [Bh "list_iterator.__next__" 0 1 (.for_::Aa) (fun X=>AW (A2 X 1) i) (BW i) (A0 (gD D 0))])) 1 [] [false,true] [1,4] 0 [] 1 [ng] (fun E0 ke=>?_)
 exact .cons (BE (by decide) hL hi (by simp [gD]) (fun q=>rfl)) fun u0 q g0=>.nh ke (@id (eD (u0.d 2)=o6) (g0.1.1.trans eP.symm) ▸ rfl)
def YB(P:Params)(aI aA aK:Nat)(nT fr aN:Nat)(DA:Data):Spec:=⟨lY P aI aA aK nT fr,[aI,aA,aK],[AW aN 0,A0 DA,Jd P none],Aa,fun A=>.fin (.again (U4 P aI aA aK nT fr)),fun A=>[AW aN 0,A0 DA,Jd P none],fun A=>[]⟩
theorem Po(aI aA aK:Nat)(nT fr aN:Nat)(DA:Data)(I:Lp→Prop):(YB w.2 aI aA aK nT fr aN DA).nP (wf w b b2) (A3 (Aa)) (I) (I):=by
 refine Cz (fun D=>YB w.2 aI aA aK nT fr aN (gD D 0)) (fun D l=>YB w.2 aI aA aK nT fr aN (gD D 0)) (fun D=>(Af [])) 0 [] [false,true,false] (fun b2=>bif b2 then [] else [1,1,1,1]) (fun q=>1000000) (fun q=>[]) 0 [DA] (fun E0 ke=>?_)
 exact .nh ke rfl
def jw(P:Params)(aI aN aA aK nT nv:Nat)(o:Option Str)(fr i:Nat)(X:Str)(DN DA DF:Data):Spec:=⟨U4 P aI aA aK nT fr,[aI,aN,aA,aK,nT,nv],[AW aN i,A0 DN,A0 DA,Jd P o,AH nv,A0 DF],Aa,fun A=>.fin (.again (U4 P aI aA aK nT fr)),fun A=>[AW aN ((i:Int)+1),A0 DN,A0 DA,Jd P (some X),AH nv,A0 DF],fun A=>[]⟩
theorem U7(aI aN aA aK nT nv:Nat)(o:Option Str)(fr i:Nat)(X:Str)(DN DA DF:Data)(vs:List Value)(e:Nat)(hL:DN=.seq ⟨vs⟩ e)(hi:vs[i]?=some (.str X 0))(ss:List Str)(en:Nat)(hF:DF=.seq ⟨BA ss⟩ en)(hx:decide (X∈ss)=false)(I:Lp→Prop):(jw w.2 aI aN aA aK nT nv o fr i X DN DA DF).nP (wf w b b2) (A3 (Aa)) (I) (I):=by
 refine BZ (Cs.oo o ⟨#[]⟩) (fun z D=>jw w.2 aI aN aA aK nT nv z fr i X (gD D 0) (gD D 1) (gD D 2)) (fun z D l=>jw w.2 aI aN aA aK nT nv z fr i X (gD D 0) (gD D 1) (gD D 2)) (fun z D=>(Af [Ao 0 1 i (gD D 0) (.str X 0),CD 5 (gD D 2) X false])) 2 (fun z=>[]) [false,true,true,false,false,true] [1,4,4,4,5,6,6] 0 [0] 0 [DN,DA,DF] (fun E0 ke=>?_)
 exact .q (AO hL hi) fun y y y=>.q (Aq hF hx) fun y y y=>.nh ke rfl
def jv(P:Params)(aI aN aA aK nT nv:Nat)(o:Option Str)(fr i:Nat)(X:Str)(DN DA nz DF:Data):Spec:=⟨U4 P aI aA aK nT fr,[aI,aN,aA,aK,nT,nv],[AW aN i,A0 DN,A0 DA,Jd P o,AH nv,A0 DF],Aa,fun A=>.fin (.again (U4 P aI aA aK nT fr)),fun A=>[AW aN ((i:Int)+1),A0 DN,A0 nz,Jd P (some X),AH nv,A0 DF],fun A=>[]⟩
theorem U6(aI aN aA aK nT nv:Nat)(o:Option Str)(fr i:Nat)(X:Str)(DN DA nz DF:Data)(vs:List Value)(e:Nat)(hL:DN=.seq ⟨vs⟩ e)(hi:vs[i]?=some (.str X 0))(ss:List Str)(en:Nat)(hF:DF=.seq ⟨BA ss⟩ en)(hx:decide (X∈ss)=true)(us:List Value)(eu:Nat)(hA:DA=.seq ⟨us⟩ eu)(qf:nz=.seq ⟨us++[.str X 0]⟩ (eu+1))(hs:us.length≤sizeLine)(I:Lp→Prop):(jv w.2 aI aN aA aK nT nv o fr i X DN DA nz DF).nP (wf w b b2) (A3 (Aa)) (I) (I):=by
 refine BZ (Cs.oo o ⟨#[]⟩) (fun z D=>jv w.2 aI aN aA aK nT nv z fr i X (gD D 0) (gD D 1) nz (gD D 2)) (fun z D l=>jv w.2 aI aN aA aK nT nv z fr i X (gD D 0) (gD D 1) (ud l 0 0) (gD D 2)) (fun z D=>(Af [Ao 0 1 i (gD D 0) (.str X 0),CD 5 (gD D 2) X true,CV 2 (gD D 1) nz (.str X 0)])) 3 (fun z=>[]) [false,true,true,false,false,true] (hD 8 8 10180897) 0 [0,0] 0 [DN,DA,DF] (fun E0 ke=>?_)
 exact .q (AO hL hi) fun y y y=>.q (Aq hF hx) fun y y y=>.cons (Ab hA qf hs) fun u2 y g2=>.nh ke (@id (eD (u2.d 0)=nz) (g2.1.1) ▸ rfl)
def ju(P:Params)(aI aN:Nat)(aA aK nT fr i:Nat)(ng o6:Data):Spec:=⟨U4 P aI aA aK nT fr,[aI,aN],[AW aN i,A0 ng],Aa,fun A=>.fin (.done .next),fun A=>[BW i,A0 o6],fun A=>[]⟩
theorem U5(aI aN:Nat)(aA aK nT fr i:Nat)(ng o6:Data)(vs:List Value)(e:Nat)(hL:ng=.seq ⟨vs⟩ e)(hi:vs.length≤i)(eP:o6=ng)(I:Lp→Prop):(ju w.2 aI aN aA aK nT fr i ng o6).nP (wf w b b2) (A3 (Aa)) (I) (I):=by
 refine B8 (fun D=>ju w.2 aI aN aA aK nT fr i (gD D 0) o6) (fun D l=>ju w.2 aI aN aA aK nT fr i (gD D 0) (ud l 0 2)) (fun D=>(Af [Bh "list_iterator.__next__" 0 1 (.comp::Aa) (fun X=>AW (A2 X 1) i) (BW i) (A0 (gD D 0))])) 1 [] [false,true] [1,4] 0 [] 1 [ng] (fun E0 ke=>?_)
 exact .cons (BE (by decide) hL hi (by simp [gD]) (fun q=>rfl)) fun u0 q g0=>.nh ke (@id (eD (u0.d 2)=o6) (g0.1.1.trans eP.symm) ▸ rfl)
end
section
open PySem PySem.W PySem.W.X PyProof.Rows
theorem P6{w:World}{D:Data}{vs:List Value}{n:Nat}{v:Value}{i:Int}(a:Nat)(hD:D=.seq ⟨vs⟩ n)(h0:0≤i)(hi:vs[i.toNat]?=some v)(hs:vs.length < 5000):QA w (.builtin "list.__getitem__") [.ref a,.int i 0] a (A0 D) v:=by
 subst hD
 intro ps A s P o ha H ho hO Q E hq
 obtain ⟨u,y,rfl,e1,e2⟩:=Bb ha
 obtain rfl:=AD e1
 obtain ⟨t,rfl⟩:=E8 e2
 obtain ⟨xs,rfl,hx⟩:=Ap hO
 have hl:=B7 hx
 obtain ⟨z,hz,ez⟩:=Cy hx hi
 have hk:i.toNat < xs.size:=by
  have:=(List.getElem?_eq_some_iff.mp hi).1
  rw [hl]; exact this
 have h5:i < 5000:=by lia
 refine wpAny_call_entry slot_list_getitem ⟨_,ho,rfl⟩ entry_list_getitem ?_ (args_list_getitem _ _)
 show wpAny _ _ (Builtin.List.listSubscript? (.int i t)>>=_) _ _ s
 refine wpAny_bind (wpAny_listSubscript_int (fitsIndex_of h0 (Int.lt_trans h5 (by decide))) ?_)
 clear h5 hk
 obtain ⟨k,rfl⟩:=Int.eq_ofNat_of_zero_le h0
 have hz:xs[k]?=some z:=hz
 show wpAny _ _ ((seqItemAt a k>>=fun r=>pure (r.map (k,·)))>>=_) _ _ s
 refine wpAny_bind (wpAny_bind (wpAny_seqItemAt ho rfl (wpAny_pure ?_)))
 rw [hz]
 exact wpAny_pure ⟨z,rfl,hq z s.toks ez⟩
def OB(m:Nat)(D:Data)(i:Int)(v:Value):AA:=H0 (.builtin "list.__getitem__") (fun a=>[.ref a,.int i 0]) m (A0 D) v
theorem Fl{w:World}{D:Data}{vs:List Value}{n m:Nat}{v:Value}{i:Int}(hD:D=.seq ⟨vs⟩ n)(h0:0≤i)(hi:vs[i.toNat]?=some v)(hs:vs.length < 5000):(OB m D i v).Ok pw w (A4 w.2):=C2 fun a=>P6 a hD h0 hi hs
end
section
open PySem PySem.W PySem.W.X PySem.Builtin.Str
section
variable{p:Program}{w:World}{kt:KT}
theorem ND(x y z:Str)(t u v:Nat)(r:Str)(hu:u≠0)(hv:v≠0)(sg:u≠v)(rz:(y==z)=false)(hl:tooLong (x.length+(occurrences x y 0 x.length (x.length+1)).length*z.length)=false)
  (hr:(if ((occurrences x y 0 x.length (x.length+1)).isEmpty || (y.length==0&&z.length==0))=true then x else glued z (partsBetween x (occurrences x y 0 x.length (x.length+1)) y.length))=r) (hs:r.length≤sizeLine) :
  CT p w (.call (.builtin "str.replace") ⟨[.str x t,.str y u,.str z v],[]⟩) (Cf r):=by
 refine Bq F.slot_str_replace (fun s=>typeIs_str s x t) F.entry_str_replace (F.args_str_replace_3 _ _ _) (gives_str_replace x y z t u v fun q=>⟨by simp [hu,hv],by simp [sg],rz,hl⟩) (fun s Q hq=>?_)
 cases hc:((occurrences x y 0 x.length (x.length+1)).isEmpty || (y.length==0&&z.length==0))
 ·rw [hc] at hr
  simp only [Bool.false_eq_true,if_false] at hr ⊢
  rw [hr]
  exact ⟨hs,hq _ _ ⟨_,rfl⟩ B4⟩
 ·rw [hc] at hr
  simp only [if_true] at hr ⊢
  rw [hr]
  exact hq _ _ ⟨t,rfl⟩ (BK.refl s)
noncomputable def Rv(x y z r:Str):AA:=⟨fun q=>.call (.builtin "str.replace") ⟨[.str x 0,.str y 0,.str z 0],[]⟩,[],fun q=>[],fun q=>[],fun q X=>Nat.blt 2 X.ti,fun u q=>.ok (.ret (.str r (u.n 0 2))),fun u X=>X.grown (u.n 0 0) (u.n 0 1),fun q q=>True,none,some fun X=>[X.t+(X.ti-2),X.t+(X.ti-1)]⟩
theorem Ru{x y z r:Str}(rz:(y==z)=false)(hl:tooLong (x.length+(occurrences x y 0 x.length (x.length+1)).length*z.length)=false)
  (hr:(if ((occurrences x y 0 x.length (x.length+1)).isEmpty || (y.length==0&&z.length==0))=true then x else glued z (partsBetween x (occurrences x y 0 x.length (x.length+1)) y.length))=r) (hs:r.length≤sizeLine):(Rv x y z r).Ok p w kt:=by
 refine ⟨rfl,?_⟩
 intro c X s k g l cd pc rest hc _ _ pD D htk
 obtain ⟨ps,rfl,e⟩:=AZ hc
 cases ps with
 | nil=>cases e
 | cons a ps=>
  simp only [List.map_cons,List.cons.injEq] at e
  obtain ⟨b,c,rfl,e2,e3⟩:=Bb e.2
  obtain ⟨t,rfl⟩:=AM e.1
  obtain ⟨u,rfl⟩:=AM e2
  obtain ⟨v,rfl⟩:=AM e3
  have h3:=htk _ rfl
  simp only [Fq,List.drop_one,List.tail_cons,List.map_cons,List.map_nil,Hs,List.cons.injEq,and_true] at h3
  have h4:2 < X.ti:=by have:=pD U0; exact Nat.le_of_ble_eq_true this
  obtain ⟨s',res,⟨tk,rfl⟩,G,go⟩:=ND (p:=p) (w:=w) x y z t u v r (by lia) (by lia) (by lia) rz hl hr hs s k g l cd pc rest
  refine ⟨⟨fun q i=>if i=0 then s'.heap.objs.size else if i=1 then s'.toks else tk,fun q=>.plain⟩,s',go,?_,?_,?_,trivial⟩
  ·exact D.grown G
  ·refine ⟨fun q q o h=>⟨o,h⟩,fun q q o h=>.inl ⟨o,h⟩,?_⟩
   show X.n+X.i≤s'.heap.objs.size+0
   rw [← D.size]; exact go.size
  ·exact ⟨G.life,fun b o hb q=>G.old b o hb⟩
end
end
section
open PySem PySem.W PySem.W.X
noncomputable def Cg:List Sh:=[.comp,.func,.bi "claim.caller" 0]
noncomputable def HX:Nat→List Nat
 | 0=>[97]
 | 1=>[98,39]
 | 2=>[99,34]
 | _=>[100,32,101]
noncomputable def MY:List Nat→List Nat
 | []=>[]
 | c::l=>if c=34 then 34::34::MY l else c::MY l
def C5(i j:Nat):List Nat:=34::(MY (HX i)++(34::32::34::(MY (HX j)++[34])))
def k7(i j:Nat):Spec:=⟨.call (.ref 923) ⟨[.str ⟨⟨HX i⟩⟩ 0,.str ⟨⟨HX j⟩⟩ 0],[]⟩,[],[],Cg,fun q=>.fin (.done (.ret (.str ⟨⟨C5 i j⟩⟩ 0))),fun q=>[],fun q=>[]⟩
def gN(i:Nat):AA:=Rv ⟨⟨HX i⟩⟩ ⟨⟨[34]⟩⟩ ⟨⟨[34,34]⟩⟩ ⟨⟨MY (HX i)⟩⟩
noncomputable def l4:List (Nat×Nat):=(List.range 4).flatMap fun i=>(List.range 4).map (Prod.mk i)
@[reducible] def c4 {i j:Nat} (hi:i < 4) (hj:j < 4):Cs (Nat×Nat):=⟨(i,j),l4,List.mem_flatMap.mpr ⟨i,List.mem_range.mpr hi,List.mem_map_of_mem (List.mem_range.mpr hj)⟩⟩
noncomputable def Vl(x y z r:Str):Bool:=!Builtin.Str.tooLong (x.length+(Builtin.Str.occurrences x y 0 x.length (x.length+1)).length*z.length)&&(((if ((Builtin.Str.occurrences x y 0 x.length (x.length+1)).isEmpty || (y.length==0&&z.length==0))=true then x else Builtin.Str.glued z (Builtin.Str.partsBetween x (Builtin.Str.occurrences x y 0 x.length (x.length+1)) y.length))==r)&&decide (r.length≤sizeLine) && !(y==z))
theorem Kj{p:Program}{w:World}{kt:KT}{x y z r:Str}(h:Vl x y z r=true):(Rv x y z r).Ok p w kt:=by
 obtain ⟨h1,h⟩:=Bool.and_eq_true_iff.mp h
 obtain ⟨h,h4⟩:=Bool.and_eq_true_iff.mp h
 obtain ⟨h2,h3⟩:=Bool.and_eq_true_iff.mp h
 exact Ru (Bool.not_eq_true' _ ▸ h4) (Bool.not_eq_true' _ ▸ h1) (eq_of_beq h2) (of_decide_eq_true h3)
theorem Ny{p:Program}{w:World}{kt:KT}{i:Nat}(h:i < 4):(gN i).Ok p w kt:=
 Kj (List.all_eq_true.mp (show ((List.range 4).all fun i=>Vl ⟨⟨HX i⟩⟩ ⟨⟨[34]⟩⟩ ⟨⟨[34,34]⟩⟩ ⟨⟨MY (HX i)⟩⟩)=true by kernel_rfl) i (List.mem_range.mpr h))
variable (w:World)(b b2:Bool)
theorem UJ(i j:Nat)(hi:i < 4)(hj:j < 4)(I:Lp→Prop):(k7 i j).nP (wf w b b2) (A3 Cg) I I:=
 BZ (c4 hi hj) (fun z y=>k7 z.1 z.2) (fun z y y=>k7 z.1 z.2) (fun z y=>Af [gN z.1,gN z.2]) 2 (fun y=>[]) [] (hD 3 9 9108) 0 [2] 1 [] fun y he=>.q (Ny hi) fun y y y=>.q (Ny hj) fun y y y=>.nh he rfl
noncomputable def Hv:List Sh:=[.gcomp,.rr "generator.__next__",.bi "list.extend.loop" 1,.bi "str.join" 3,.func,.func,.bi "claim.caller" 0]
noncomputable def Z3:List Nat→List Nat
 | []=>[]
 | c::l=>if c=39 then 39::34::39::34::39::Z3 l else c::Z3 l
def Dx(i j:Nat):List Nat:=39::(Z3 (C5 i j)++[39])
def f7(i j:Nat):Spec:=⟨.call (.ref 911) ⟨[.str ⟨⟨C5 i j⟩⟩ 0],[]⟩,[],[],Hv,fun q=>.fin (.done (.ret (.str ⟨⟨Dx i j⟩⟩ 0))),fun q=>[],fun q=>[]⟩
theorem RL(i j:Nat)(hi:i < 4)(hj:j < 4)(I:Lp→Prop):(f7 i j).nP (wf w b b2) (A3 Hv) I I:=
 BZ (c4 hi hj) (fun z y=>f7 z.1 z.2) (fun z y y=>f7 z.1 z.2) (fun z y=>Af [Rv ⟨⟨C5 z.1 z.2⟩⟩ ⟨⟨[39]⟩⟩ ⟨⟨[39,34,39,34,39]⟩⟩ ⟨⟨Z3 (C5 z.1 z.2)⟩⟩]) 1 (fun y=>[]) [] (hD 3 16 14351373) 3 [] 1 [] fun y he=>.q (Kj (List.all_eq_true.mp (show (l4.all fun z=>Vl ⟨⟨C5 z.1 z.2⟩⟩ ⟨⟨[39]⟩⟩ ⟨⟨[39,34,39,34,39]⟩⟩ ⟨⟨Z3 (C5 z.1 z.2)⟩⟩)=true by kernel_rfl) _ (c4 hi hj).h)) fun y y y=>.nh he rfl
def OU(P:Params)(i:Nat):Stmt:=(Cd (Ea (Wc P))).getD i (.Pass default)
def H6(P:Params):Expr:=JT (OU P 1)
def EY(P:Params):Expr:=bq (JT (OU P 2))
def MJ(P:Params):Expr:=JT (OU P 5)
def MK(P:Params):Expr:=JT (OU P 6)
def FV(v:Bool)(P:Params):Expr:=bif v then MJ P else MK P
noncomputable def sw{α:Type}(v:Bool)(x y:α):α:=bif v then x else y
def CI(P:Params):Expr:=JT (OU P 7)
def Ut(lc:Expr)(cells:List (Str×Nat))(aK fr:Nat):Env:={ scope:=G6 (NR lc),locals:=aK,globals:=3,cells:=cells,qual:=Str.ofString "law.<locals>.",func:=none,code:=.ref 944,frame:=some fr,builtins:=0 }
def W'(lc:Expr)(cells:List (Str×Nat))(aI aA aK fr:Nat):Code:=.compStart lc 0 (.ref aI) (.ref aA) (Ut lc cells aK fr)
def EE(lc:Expr)(cells:List (Str×Nat))(aI aA aK fr:Nat):Code:=.compLoop lc 0 (.ref aI) (.ref aA) (Ut lc cells aK fr)
noncomputable def AQ:List Sh:=[.func,.bi "claim.caller" 0]
noncomputable def cN(a:Nat):List (Str×Nat):=[(Str.ofString "names",a)]
noncomputable def cT(a b:Nat):List (Str×Nat):=[(Str.ofString "fore",a),(Str.ofString "aft",b)]
def dH(X Y Z:Str):Spec:=⟨.call (.ref 923) ⟨[.str X 0,.str Y 0],[]⟩,[],[],Cg,fun q=>.fin (.done (.ret (.str Z 0))),fun q=>[],fun q=>[]⟩
def Qc(X Y:Str):Spec:=⟨.call (.ref 916) ⟨[.str X 0],[]⟩,[],[],Cg,fun q=>.fin (.done (.ret (.str Y 0))),fun q=>[],fun q=>[]⟩
def a6(X Y Z:Str):AA:=B6 (fun q=>Cg) [] [] [] (fun q=>dH X Y Z)
variable{w b b2}
theorem SM{X Y Z:Str}{I:Lp→Prop}(h:(dH X Y Z).nP (wf w b b2) (A3 Cg) I I):(a6 X Y Z).oB pw (wf w b b2) (A4 w.2) I I:=
 AF (w:=wf w b b2) (Sf:=fun q=>A3 Cg) (fun q=>h) (fun q=>Ac (by intro h; cases h)) (by decide) (fun q=>⟨rfl,rfl,fun q=>rfl⟩) (fun q q=>rfl)
def Rm(X Y:Str):AA:=B6 (fun q=>Cg) [] [] [] (fun q=>Qc X Y)
theorem I9{X Y:Str}{I:Lp→Prop}(h:(Qc X Y).nP (wf w b b2) (A3 Cg) I I):(Rm X Y).oB pw (wf w b b2) (A4 w.2) I I:=
 AF (w:=wf w b b2) (Sf:=fun q=>A3 Cg) (fun q=>h) (fun q=>Ac (by intro h; cases h)) (by decide) (fun q=>⟨rfl,rfl,fun q=>rfl⟩) (fun q q=>rfl)
def FU:Obj:=A0 (.seq #[sv "a",sv "b'",sv "c\"",sv "d e"] 0)
noncomputable def oP{α:Type}(f:Nat→α):Nat→Option α
 | 0=>none
 | j+1=>some (f j)
def kA(P:Params):Option (Str×Str)→Obj
 | none=>AR [] 0
 | some p=>AR [kE P "early" (.str p.1 0),kE P "late" (.str p.2 0)] 2
def cm(P:Params)(aI ny aA aK oF oJ:Nat)(o:Option Int)(fr i eu:Nat)(us:List Value)(xv:Int)(X Y:Str)(pB DA pX:Data):Spec:=⟨EE (H6 P) (cN oF) aI aA aK fr,[aI,ny,aA,aK,oF,oJ],[AW ny i,A0 pB,A0 DA,kI P "x" o,AH oJ,FU],AQ,fun A=>.fin (.again (EE (H6 P) (cN oF) aI aA aK fr)),fun A=>[AW ny ((i:Int)+1),A0 pB,A0 pX,AR [kE P "x" (.int xv 0)] 1,AH oJ,FU],fun A=>[El X Y]⟩
variable(w b b2)
theorem Se(aI ny aA aK oF oJ:Nat)(o:Option Int)(fr i eu:Nat)(us:List Value)(xv:Int)(X Y:Str)(pB DA:Data)(I:Lp→Prop)(vs:List Value)(e:Nat)(hL:pB=.seq ⟨vs⟩ e)(hi:vs[i]?=some (.int xv 0))(m0:0≤xv.fmod 4)(m1:([sv "a",sv "b'",sv "c\"",sv "d e"]:List Value)[(xv.fmod 4).toNat]?=some (.str X 0))(d0:0≤(xv.fmod 16).fdiv 4)(d1:([sv "a",sv "b'",sv "c\"",sv "d e"]:List Value)[((xv.fmod 16).fdiv 4).toNat]?=some (.str Y 0))(hA:DA=.seq ⟨us⟩ eu)(hs:us.length≤sizeLine):Spec.oC (fun (pX:Data)=>cm w.2 aI ny aA aK oF oJ o fr i eu us xv X Y pB DA pX) (fun (pX:Data) A=>pX=.seq ⟨us++[.ref (A 0)]⟩ (eu+1)) (cm w.2 aI ny aA aK oF oJ o fr i eu us xv X Y pB DA .plain) (wf w b b2) (A3 (AQ)) (I) (I):=by
 refine NO (Cs.oo o 0) (fun z D=>cm w.2 aI ny aA aK oF oJ z fr i eu us xv X Y (gD D 0) (gD D 1) .plain) (fun z D l=>cm w.2 aI ny aA aK oF oJ z fr i eu us xv X Y (gD D 0) (gD D 1) (ud l 0 0)) (fun z D=>[fun y=>Ao 0 1 i (gD D 0) (.int xv 0),fun y=>OB 5 (.seq #[sv "a",sv "b'",sv "c\"",sv "d e"] 0) (xv.fmod 4) (.str X 0),fun y=>OB 5 (.seq #[sv "a",sv "b'",sv "c\"",sv "d e"] 0) ((xv.fmod 16).fdiv 4) (.str Y 0),fun l=>CV 2 (gD D 1) (.seq ⟨us++[(Value.ref (un l 0 0 0))]⟩ (eu+1)) (Value.ref (un l 0 0 0))]) 4 (fun z D l=>[(0,(un l 1 0 0))]) (fun z=>[6]) [false,true,true,false,false,false] (hD 8 13 470934047521) 0 [1,2,0] 0 [pB,DA] (fun E0 ke=>?_)
 refine .q (AO (w:=wf w b b2) hL hi) fun y y y=>.q (Fl (w:=wf w b b2) rfl m0 m1 (by simp)) fun y y y=>.q (Fl (w:=wf w b b2) rfl d0 d1 (by simp)) fun u2 y y=>.cons (Ab (w:=wf w b b2) hA (by simp [un,BL,gD]) hs) fun u3 y g3=>.nil fun P hP=>ke _ _ ⟨eD (u3.d 0),rfl,hP,fun A a=>?_⟩
 try dsimp only
 have a0:A 0=(u2.n 0 0):=a _ (.head _)
 exact g3.1.1.trans (congrArg (fun (z:Nat)=>Data.seq ⟨us++[Value.ref z]⟩ (eu+1)) a0.symm)
def Wr(P:Params)(aI aA aK:Nat)(oF ny fr:Nat)(DA:Data):Spec:=⟨W' (H6 P) (cN oF) aI aA aK fr,[aI,aA,aK],[AW ny 0,A0 DA,AR [] 0],AQ,fun A=>.fin (.again (EE (H6 P) (cN oF) aI aA aK fr)),fun A=>[AW ny 0,A0 DA,AR [] 0],fun A=>[]⟩
theorem OY(aI aA aK:Nat)(oF ny fr:Nat)(DA:Data)(I:Lp→Prop):(Wr w.2 aI aA aK oF ny fr DA).nP (wf w b b2) (A3 (AQ)) (I) (I):=by
 refine Cz (fun D=>Wr w.2 aI aA aK oF ny fr (gD D 0)) (fun D l=>Wr w.2 aI aA aK oF ny fr (gD D 0)) (fun D=>(Af [])) 0 [] [false,true,false] (fun b2=>bif b2 then [] else [1,1,1,1]) (fun q=>1000000) (fun q=>[]) 0 [DA] (fun E0 ke=>?_)
 exact .nh ke rfl
def Wq(P:Params)(aI ny:Nat)(oF aA aK fr i:Nat)(ng o6:Data):Spec:=⟨EE (H6 P) (cN oF) aI aA aK fr,[aI,ny],[AW ny i,A0 ng],AQ,fun A=>.fin (.done .next),fun A=>[BW i,A0 o6],fun A=>[]⟩
theorem OX(aI ny:Nat)(oF aA aK fr i:Nat)(ng o6:Data)(vs:List Value)(e:Nat)(hL:ng=.seq ⟨vs⟩ e)(hi:vs.length≤i)(eP:o6=ng)(I:Lp→Prop):(Wq w.2 aI ny oF aA aK fr i ng o6).nP (wf w b b2) (A3 (AQ)) (I) (I):=by
 refine B8 (fun D=>Wq w.2 aI ny oF aA aK fr i (gD D 0) o6) (fun D l=>Wq w.2 aI ny oF aA aK fr i (gD D 0) (ud l 0 2)) (fun D=>(Af [Bh "list_iterator.__next__" 0 1 (.comp::AQ) (fun X=>AW (A2 X 1) i) (BW i) (A0 (gD D 0))])) 1 [] [false,true] [1,4] 0 [] 1 [ng] (fun E0 ke=>?_)
 exact .cons (BE (by decide) hL hi (by simp [gD]) (fun q=>rfl)) fun u0 q g0=>.nh ke (@id (eD (u0.d 2)=o6) (g0.1.1.trans eP.symm) ▸ rfl)
def j6(P:Params)(aI ny aP aA aK:Nat)(o:Option (Str×Str))(fr i:Nat)(X Y Zs:Str)(pB DA nz:Data):Spec:=⟨EE (EY P) [] aI aA aK fr,[aI,ny,aP,aA,aK],[AW ny i,A0 pB,El X Y,A0 DA,kA P o],AQ,fun A=>.fin (.again (EE (EY P) [] aI aA aK fr)),fun A=>[AW ny ((i:Int)+1),A0 pB,El X Y,A0 nz,AR [kE P "early" (.str X 0),kE P "late" (.str Y 0)] 2],fun A=>[]⟩
theorem Sg(aI ny aP aA aK:Nat)(o:Option (Str×Str))(fr i:Nat)(X Y Zs:Str)(pB DA nz:Data)(I:Lp→Prop)(vs:List Value)(e:Nat)(hL:pB=.seq ⟨vs⟩ e)(hi:vs[i]?=some (.ref aP))(us:List Value)(eu:Nat)(hA:DA=.seq ⟨us⟩ eu)(qf:nz=.seq ⟨us++[.str Zs 0]⟩ (eu+1))(hs:us.length≤sizeLine)(t5:(dH X Y Zs).nP (wf w b b2) (A3 Cg) I I):(j6 w.2 aI ny aP aA aK o fr i X Y Zs pB DA nz).nP (wf w b b2) (A3 (AQ)) (I) (I):=by
 refine B8 (fun D=>j6 w.2 aI ny aP aA aK o fr i X Y Zs (gD D 0) (gD D 1) nz) (fun D l=>j6 w.2 aI ny aP aA aK o fr i X Y Zs (gD D 0) (gD D 1) (ud l 0 0)) (fun D=>(Af [Ao 0 1 i (gD D 0) (.ref aP),a6 X Y Zs,CV 3 (gD D 1) nz (.str Zs 0)])) 3 [] [false,true,false,true,false] (hD 10 37 550555586636666663666666366666333311) 0 [4,0] 0 [pB,DA] (fun E0 ke=>?_) (by cases o<;>kernel_rfl)
 exact .q (AO (w:=wf w b b2) hL hi) fun z z z=>.cons (SM (w:=w) (b:=b) (b2:=b2) t5) fun z z z=>.cons (Ab (w:=wf w b b2) hA qf hs) fun u2 z g2=>.nh ke (@id (eD (u2.d 0)=nz) (g2.1.1) ▸ rfl)
def Wt(P:Params)(aI aA aK:Nat)(ny fr:Nat)(DA:Data):Spec:=⟨W' (EY P) ([]) aI aA aK fr,[aI,aA,aK],[AW ny 0,A0 DA,AR [] 0],AQ,fun A=>.fin (.again (EE (EY P) ([]) aI aA aK fr)),fun A=>[AW ny 0,A0 DA,AR [] 0],fun A=>[]⟩
theorem Oa(aI aA aK:Nat)(ny fr:Nat)(DA:Data)(I:Lp→Prop):(Wt w.2 aI aA aK ny fr DA).nP (wf w b b2) (A3 (AQ)) (I) (I):=by
 refine Cz (fun D=>Wt w.2 aI aA aK ny fr (gD D 0)) (fun D l=>Wt w.2 aI aA aK ny fr (gD D 0)) (fun D=>(Af [])) 0 [] [false,true,false] (fun b2=>bif b2 then [] else [1,1,1,1]) (fun q=>1000000) (fun q=>[]) 0 [DA] (fun E0 ke=>?_)
 exact .nh ke rfl
def Ws(P:Params)(aI ny:Nat)(aA aK fr i:Nat)(ng o6:Data):Spec:=⟨EE (EY P) ([]) aI aA aK fr,[aI,ny],[AW ny i,A0 ng],AQ,fun A=>.fin (.done .next),fun A=>[BW i,A0 o6],fun A=>[]⟩
theorem OZ(aI ny:Nat)(aA aK fr i:Nat)(ng o6:Data)(vs:List Value)(e:Nat)(hL:ng=.seq ⟨vs⟩ e)(hi:vs.length≤i)(eP:o6=ng)(I:Lp→Prop):(Ws w.2 aI ny aA aK fr i ng o6).nP (wf w b b2) (A3 (AQ)) (I) (I):=by
 refine B8 (fun D=>Ws w.2 aI ny aA aK fr i (gD D 0) o6) (fun D l=>Ws w.2 aI ny aA aK fr i (gD D 0) (ud l 0 2)) (fun D=>(Af [Bh "list_iterator.__next__" 0 1 (.comp::AQ) (fun X=>AW (A2 X 1) i) (BW i) (A0 (gD D 0))])) 1 [] [false,true] [1,4] 0 [] 1 [ng] (fun E0 ke=>?_)
 exact .cons (BE (by decide) hL hi (by simp [gD]) (fun q=>rfl)) fun u0 q g0=>.nh ke (@id (eD (u0.d 2)=o6) (g0.1.1.trans eP.symm) ▸ rfl)
def ck(P:Params)(aI ny aP aA aK:Nat)(o:Option (Str×Str))(fr i eu:Nat)(us:List Value)(S1 S2 X Y:Str)(pB DA pX:Data):Spec:=⟨EE (CI P) [] aI aA aK fr,[aI,ny,aP,aA,aK],[AW ny i,A0 pB,El S1 S2,A0 DA,kA P o],AQ,fun A=>.fin (.again (EE (CI P) [] aI aA aK fr)),fun A=>[AW ny ((i:Int)+1),A0 pB,El S1 S2,A0 pX,AR [kE P "early" (.str S1 0),kE P "late" (.str S2 0)] 2],fun A=>[El X Y]⟩
theorem Sd(aI ny aP aA aK:Nat)(o:Option (Str×Str))(fr i eu:Nat)(us:List Value)(S1 S2 X Y:Str)(pB DA:Data)(I:Lp→Prop)(vs:List Value)(e:Nat)(hL:pB=.seq ⟨vs⟩ e)(hi:vs[i]?=some (.ref aP))(sk:(Qc S2 X).nP (wf w b b2) (A3 Cg) I I)(sj:(Qc S1 Y).nP (wf w b b2) (A3 Cg) I I)(hA:DA=.seq ⟨us⟩ eu)(hs:us.length≤sizeLine):Spec.oC (fun (pX:Data)=>ck w.2 aI ny aP aA aK o fr i eu us S1 S2 X Y pB DA pX) (fun (pX:Data) A=>pX=.seq ⟨us++[.ref (A 0)]⟩ (eu+1)) (ck w.2 aI ny aP aA aK o fr i eu us S1 S2 X Y pB DA .plain) (wf w b b2) (A3 (AQ)) (I) (I):=by
 refine Hz (fun D=>ck w.2 aI ny aP aA aK o fr i eu us S1 S2 X Y (gD D 0) (gD D 1) .plain) (fun D l=>ck w.2 aI ny aP aA aK o fr i eu us S1 S2 X Y (gD D 0) (gD D 1) (ud l 0 0)) (fun D=>[fun y=>Ao 0 1 i (gD D 0) (.ref aP),fun y=>Rm S2 X,fun y=>Rm S1 Y,fun l=>CV 3 (gD D 1) (.seq ⟨us++[(Value.ref (un l 0 0 0))]⟩ (eu+1)) (Value.ref (un l 0 0 0))]) 4 (fun D l=>[(0,(un l 1 0 0))]) [8] [false,true,false,true,false] (hD 10 39 50050555586636666663666666366666333311) 0 [4,0,0] 0 [pB,DA] (fun E0 ke=>?_) (by cases o<;>kernel_rfl)
 refine .q (AO (w:=wf w b b2) hL hi) fun y y y=>.cons (I9 (w:=w) (b:=b) (b2:=b2) sk) fun y y y=>.cons (I9 (w:=w) (b:=b) (b2:=b2) sj) fun u2 y y=>.cons (Ab (w:=wf w b b2) hA (by simp [un,BL,gD]) hs) fun u3 y g3=>.nil fun P hP=>ke _ _ ⟨eD (u3.d 0),rfl,hP,fun A a=>?_⟩
 try dsimp only
 have a0:A 0=(u2.n 0 0):=a _ (.head _)
 exact g3.1.1.trans (congrArg (fun (z:Nat)=>Data.seq ⟨us++[Value.ref z]⟩ (eu+1)) a0.symm)
def Wo(P:Params)(aI aA aK:Nat)(ny fr:Nat)(DA:Data):Spec:=⟨W' (CI P) ([]) aI aA aK fr,[aI,aA,aK],[AW ny 0,A0 DA,AR [] 0],AQ,fun A=>.fin (.again (EE (CI P) ([]) aI aA aK fr)),fun A=>[AW ny 0,A0 DA,AR [] 0],fun A=>[]⟩
theorem OW(aI aA aK:Nat)(ny fr:Nat)(DA:Data)(I:Lp→Prop):(Wo w.2 aI aA aK ny fr DA).nP (wf w b b2) (A3 (AQ)) (I) (I):=by
 refine Cz (fun D=>Wo w.2 aI aA aK ny fr (gD D 0)) (fun D l=>Wo w.2 aI aA aK ny fr (gD D 0)) (fun D=>(Af [])) 0 [] [false,true,false] (fun b2=>bif b2 then [] else [1,1,1,1]) (fun q=>1000000) (fun q=>[]) 0 [DA] (fun E0 ke=>?_)
 exact .nh ke rfl
def Wn(P:Params)(aI ny:Nat)(aA aK fr i:Nat)(ng o6:Data):Spec:=⟨EE (CI P) ([]) aI aA aK fr,[aI,ny],[AW ny i,A0 ng],AQ,fun A=>.fin (.done .next),fun A=>[BW i,A0 o6],fun A=>[]⟩
theorem OV(aI ny:Nat)(aA aK fr i:Nat)(ng o6:Data)(vs:List Value)(e:Nat)(hL:ng=.seq ⟨vs⟩ e)(hi:vs.length≤i)(eP:o6=ng)(I:Lp→Prop):(Wn w.2 aI ny aA aK fr i ng o6).nP (wf w b b2) (A3 (AQ)) (I) (I):=by
 refine B8 (fun D=>Wn w.2 aI ny aA aK fr i (gD D 0) o6) (fun D l=>Wn w.2 aI ny aA aK fr i (gD D 0) (ud l 0 2)) (fun D=>(Af [Bh "list_iterator.__next__" 0 1 (.comp::AQ) (fun X=>AW (A2 X 1) i) (BW i) (A0 (gD D 0))])) 1 [] [false,true] [1,4] 0 [] 1 [ng] (fun E0 ke=>?_)
 exact .cons (BE (by decide) hL hi (by simp [gD]) (fun q=>rfl)) fun u0 q g0=>.nh ke (@id (eD (u0.d 2)=o6) (g0.1.1.trans eP.symm) ▸ rfl)
def cj(P:Params)(aI aA aK nT oD aF aG:Nat)(v:Bool)(o:Option Int)(fr nn k eu:Nat)(i:Int)(us:List Value)(S X Y:Str)(DF DG DA pX:Data):Spec:=⟨EE (FV v P) (cT nT oD) aI aA aK fr,[aI,aA,aK,nT,oD,aF,aG],[B2 i ((k+1:Nat):Int) 1,A0 DA,kI P "k" o,AH aF,AH aG,A0 DF,A0 DG],AQ,fun A=>.fin (.again (EE (FV v P) (cT nT oD) aI aA aK fr)),fun A=>[B2 (i+1) (((k+1:Nat):Int)-1) 1,A0 pX,kI P "k" (some i),AH aF,AH aG,A0 DF,A0 DG],fun A=>[El X Y]⟩
theorem Sb(aI aA aK nT oD aF aG:Nat)(v:Bool)(o:Option Int)(fr nn k eu:Nat)(i:Int)(us:List Value)(S X Y:Str)(DF DG DA:Data)(I:Lp→Prop)(fs gs:List Value)(ef eg:Nat)(hF:sw v DF DG=.seq ⟨fs⟩ ef)(hG:sw v DG DF=.seq ⟨gs⟩ eg)(uE:fs.length < 5000)(uD:gs.length < 5000)(hn:(fs.length:Int)=nn)(i0:0≤i)(hX:fs[i.toNat]?=some (.str X 0))(j0:0≤(nn:Int)-1-i)(hS:gs[((nn:Int)-1-i).toNat]?=some (.str S 0))(ht:(Qc S Y).nP (wf w b b2) (A3 Cg) I I)(hA:DA=.seq ⟨us⟩ eu)(hs:us.length≤sizeLine):Spec.oC (fun (pX:Data)=>cj w.2 aI aA aK nT oD aF aG v o fr nn k eu i us S X Y DF DG DA pX) (fun (pX:Data) A=>pX=.seq ⟨us++[.ref (A 0)]⟩ (eu+1)) (cj w.2 aI aA aK nT oD aF aG v o fr nn k eu i us S X Y DF DG DA .plain) (wf w b b2) (A3 (AQ)) (I) (I):=by
 refine Hz (fun D=>cj w.2 aI aA aK nT oD aF aG v o fr nn k eu i us S X Y (gD D 1) (gD D 2) (gD D 0) .plain) (fun D l=>cj w.2 aI aA aK nT oD aF aG v o fr nn k eu i us S X Y (gD D 1) (gD D 2) (gD D 0) (ud l 0 0)) (fun D=>[fun y=>OB (sw v 5 6) (sw v (gD D 1) (gD D 2)) i (.str X 0),fun y=>GG (sw v 5 6) (sw v (gD D 1) (gD D 2)) nn,fun y=>OB (sw v 6 5) (sw v (gD D 2) (gD D 1)) ((nn:Int)-1-i) (.str S 0),fun y=>Rm S Y,fun l=>CV 1 (gD D 0) (.seq ⟨us++[(Value.ref (un l 0 0 0))]⟩ (eu+1)) (Value.ref (un l 0 0 0))]) 5 (fun D l=>[(0,(un l 1 0 0))]) [7] [false,true,false,false,false,true,true] (bif v then hD 9 26 627676037094942844628617 else hD 9 26 538074026215852751136226) 1 [0,2,0,0] 0 [DA,DF,DG] (fun E0 ke=>?_) (by cases v<;>cases o<;>kernel_rfl)
 refine .q (Fl (w:=wf w b b2) hF i0 hX (by lia)) fun y y y=>.q (Ca (w:=wf w b b2) hF hn (by lia)) fun y y y=>.q (Fl (w:=wf w b b2) hG j0 hS (by lia)) fun y y y=>.cons (I9 (w:=w) (b:=b) (b2:=b2) ht) fun u3 y y=>.cons (Ab (w:=wf w b b2) hA (by simp [un,BL,gD]) hs) fun u4 y g4=>.nil fun P hP=>ke _ _ ⟨eD (u4.d 0),rfl,hP,fun A a=>?_⟩
 try dsimp only
 have a0:A 0=(u3.n 0 0):=a _ (.head _)
 exact g4.1.1.trans (congrArg (fun (z:Nat)=>Data.seq ⟨us++[Value.ref z]⟩ (eu+1)) a0.symm)
def Wm(P:Params)(aI aA aK:Nat)(v:Bool)(nT oD fr:Nat)(i j:Int)(DA:Data):Spec:=⟨W' (FV v P) (cT nT oD) aI aA aK fr,[aI,aA,aK],[B2 i j 1,A0 DA,AR [] 0],AQ,fun A=>.fin (.again (EE (FV v P) (cT nT oD) aI aA aK fr)),fun A=>[B2 i j 1,A0 DA,AR [] 0],fun A=>[]⟩
theorem OT(aI aA aK:Nat)(v:Bool)(nT oD fr:Nat)(i j:Int)(DA:Data)(I:Lp→Prop):(Wm w.2 aI aA aK v nT oD fr i j DA).nP (wf w b b2) (A3 (AQ)) (I) (I):=by
 refine Cz (fun D=>Wm w.2 aI aA aK v nT oD fr i j (gD D 0)) (fun D l=>Wm w.2 aI aA aK v nT oD fr i j (gD D 0)) (fun D=>(Af [])) 0 [] [false,true,false] (fun b2=>bif b2 then [] else [1,1,1,1]) (fun q=>1000000) (fun q=>[]) 0 [DA] (fun E0 ke=>?_) (by cases v<;>kernel_rfl)
 exact .nh ke rfl
def Wl(P:Params)(aI aK:Nat)(v:Bool)(nT oD aA fr:Nat)(i k0:Int):Spec:=⟨EE (FV v P) (cT nT oD) aI aA aK fr,[aI,aK],[B2 i 0 1,kI P "k" (some k0)],AQ,fun A=>.fin (.done .next),fun A=>[B2 i 0 1,kI P "k" (some k0)],fun A=>[]⟩
theorem OS(aI aK:Nat)(v:Bool)(nT oD aA fr:Nat)(i k0:Int)(I:Lp→Prop):(Wl w.2 aI aK v nT oD aA fr i k0).nP (wf w b b2) (A3 (AQ)) (I) (I):=by
 refine BZ (Cs.bb v) (fun z D=>Wl w.2 aI aK z nT oD aA fr i k0) (fun z D l=>Wl w.2 aI aK z nT oD aA fr i k0) (fun z D=>(Af [])) 0 (fun z=>[]) [] [1,1,1,1,1,4] 1000000 [] 1 [] (fun E0 ke=>?_)
 exact .nh ke rfl
def T6(P:Params)(fl:Flow)(r r2:Bool)(aS aN aE nS A6 nR fr aT aU aB:Nat)(X Y:Str)(DT DU DB og pA oh:Data):Spec:=
 ⟨KC P fr,[fr,aT,aU,aB],[FY r P aS aN aT aU aE aB nS X,A0 DT,A0 DU,A7 DB],F7 P fr nS A6 nR,fun q=>.fin (.done fl),fun q=>[FY r2 P aS aN aT aU aE aB nS Y,A0 og,A0 pA,A7 oh],fun q=>[]⟩
noncomputable def Up(D:Data):Obj:={ cls:=.type "list_iterator",data:=D }
def T5(P:Params)(fl:Flow)(r r2:Bool)(aS aN aE nS A6 nR fr aT aU aB aM nZ aL:Nat)(X Y:Str)(DT DU DB og pA oh oZ DL:Data):Spec:=
 ⟨KC P fr,[fr,aT,aU,aB,aM,nZ,aL],[FY r P aS aN aT aU aE aB nS X,A0 DT,A0 DU,A7 DB,GN nZ,AW aL 0,A0 DL],F7 P fr nS A6 nR,fun q=>.fin (.done fl),fun q=>[FY r2 P aS aN aT aU aE aB nS Y,A0 og,A0 pA,A7 oh,GN nZ,Up oZ,A0 DL],fun q=>[]⟩
def Zv(P:Params)(fl:Flow)(r r2:Bool)(aS aN aE nS A6 nR fr aT aU aB:Nat)(X Y:Str)(DT DU DB og pA oh:Data)(tr:List Nat):AA:=Ck (F7 P fr nS A6 nR) tr [false,true,true,true] [] (fun q=>T6 P fl r r2 aS aN aE nS A6 nR fr aT aU aB X Y DT DU DB og pA oh)
variable{w b b2}
theorem SD{fl:Flow}{r r2:Bool}{aS aN aE nS A6 nR fr aT aU aB:Nat}{X Y:Str}{DT DU DB og pA oh:Data}{tr:List Nat}{I O:Lp→Prop}(h:(T6 w.2 fl r r2 aS aN aE nS A6 nR fr aT aU aB X Y DT DU DB og pA oh).nP (wf w b b2) (A3 (F7 w.2 fr nS A6 nR)) I O)(nd:tr.Nodup)(hl:tr.length=4):(Zv w.2 fl r r2 aS aN aE nS A6 nR fr aT aU aB X Y DT DU DB og pA oh tr).oB pw (wf w b b2) (A4 w.2) I O:=
 An (w:=wf w b b2) (Sf:=A3 (F7 w.2 fr nS A6 nR)) (fun q=>h) (Ac (by intro h; cases h)) nd (fun q=>⟨hl.symm,hl.symm,fun q=>hl.symm⟩) (fun q q=>rfl)
def Zu(P:Params)(fl:Flow)(r r2:Bool)(aS aN aE nS A6 nR fr aT aU aB aM nZ aL:Nat)(X Y:Str)(DT DU DB og pA oh oZ DL:Data)(tr:List Nat):AA:=Ck (F7 P fr nS A6 nR) tr [false,true,true,true,false,true,true] [] (fun q=>T5 P fl r r2 aS aN aE nS A6 nR fr aT aU aB aM nZ aL X Y DT DU DB og pA oh oZ DL)
theorem S9{fl:Flow}{r r2:Bool}{aS aN aE nS A6 nR fr aT aU aB aM nZ aL:Nat}{X Y:Str}{DT DU DB og pA oh oZ DL:Data}{tr:List Nat}{I O:Lp→Prop}(h:(T5 w.2 fl r r2 aS aN aE nS A6 nR fr aT aU aB aM nZ aL X Y DT DU DB og pA oh oZ DL).nP (wf w b b2) (A3 (F7 w.2 fr nS A6 nR)) I O)(nd:tr.Nodup)(hl:tr.length=7):(Zu w.2 fl r r2 aS aN aE nS A6 nR fr aT aU aB aM nZ aL X Y DT DU DB og pA oh oZ DL tr).oB pw (wf w b b2) (A4 w.2) I O:=
 An (w:=wf w b b2) (Sf:=A3 (F7 w.2 fr nS A6 nR)) (fun q=>h) (Ac (by intro h; cases h)) nd (fun q=>⟨hl.symm,hl.symm,fun q=>hl.symm⟩) (fun q q=>rfl)
noncomputable def bB:Bool→Flow
 | true=>.next
 | false=>.brk
def Xo(P:Params)(fr:Nat):Bool→End
 | true=>.fin (.again (QI P fr))
 | false=>.fin (.done .next)
def dp(P:Params)(fr aT aE aB:Nat)(r:Bool)(aS aN aU nS A6 nR:Nat)(X:Str)(k:Nat)(DT DE DB DS DR:Data):Spec:=⟨QI P fr,[fr,aT,aE,aB],[FY r P aS aN aT aU aE aB nS X,A0 DT,Bp DE,A7 DB],Hu P fr nS A6 nR,fun A=>.fin (.done (.ret (.ref (A 0)))),fun A=>[FY r P aS aN aT aU aE aB nS X,A0 DT,Bp DE,A7 DB],fun A=>[A0 DR]⟩
variable(w b b2)
theorem QO(fr aT aE aB:Nat)(r:Bool)(aS aN aU nS A6 nR:Nat)(X:Str)(k:Nat)(DT DE DB DS DR:Data)(ts:List Value)(e1 e4:Nat)(Ss:List Str)(M:List (Str×Value))(hT:DT=.seq ⟨ts⟩ e1)(hk:k≤ts.length)(rj:ts.length < 1000)(hE:C6 (wf w b b2) Ss DE)(hX:X∈Ss)(ro:Ss.length < 1000)(hB:DB=A8 w.2 M e4)(hM:BI M X=some (.int k 0))(hS:DS=.seq ⟨ts.drop k⟩ 0)(hR:DR=.seq ⟨ts.drop k++[.str X 0]⟩ 0)(I:Lp→Prop):(dp w.2 fr aT aE aB r aS aN aU nS A6 nR X k DT DE DB DS DR).nP (wf w b b2) (A3 (Hu w.2 fr nS A6 nR)) (I) (I):=by
 refine BZ (Cs.bb r) (fun z D=>dp w.2 fr aT aE aB z aS aN aU nS A6 nR X k (gD D 0) (gD D 1) (gD D 2) DS DR) (fun z D l=>dp w.2 fr aT aE aB z aS aN aU nS A6 nR X k (gD D 0) (gD D 1) (gD D 2) (ud l 1 0) (ud l 0 0)) (fun z D=>[fun y=>HS 2 (gD D 1) X true,fun y=>WJ 3 (gD D 2) X true,fun y=>HT 3 (gD D 2) X (.int k 0),fun y=>Zh 1 4 k (gD D 0) DS,fun l=>O7 5 6 (ud l 0 0) (.seq #[.str X 0] 0) DR]) 5 (fun z=>[7]) [false,true,true,true] (hD 9 21 83323374774405256603) 0 [0,0,0,0] 0 [DT,DE,DB] (fun E0 ke=>?_)
 refine .q (D8 (w:=wf w b b2) hE (by simpa using hX) (by have:scanBound=4096:=rfl; lia)) fun y y y=>.q (Kx (w:=wf w b b2) hB (by rw [hM]; rfl)) fun y y y=>.q (D9 (w:=wf w b b2) hB hM) fun y y y=>.q (Rq hT hk hS (by have:=A5; lia)) fun u3 y g3=>?_
 obtain rfl:eD (u3.d 0)=DS:=(g3 rfl)
 exact .q (J4 hS rfl hR (by have:=A5; simp [ud,BL]; lia)) fun u4 y g4=>.nh ke (@id (eD (u4.d 0)=DR) ((g4 rfl)) ▸ rfl)
def dm(P:Params)(fr aT aU aE aB:Nat)(o r r2:Bool)(aS aN nS A6 nR:Nat)(X Y:Str)(DT DU DE DB og pA oh:Data):Spec:=⟨QI P fr,[fr,aT,aU,aE,aB],[FY r P aS aN aT aU aE aB nS X,A0 DT,A0 DU,Bp DE,A7 DB],Hu P fr nS A6 nR,fun A=>Xo P fr o,fun A=>[FY r2 P aS aN aT aU aE aB nS Y,A0 og,A0 pA,Bp DE,A7 oh],fun A=>[]⟩
theorem QN(fr aT aU aE aB:Nat)(o r r2:Bool)(aS aN nS A6 nR:Nat)(X Y:Str)(DT DU DE DB og pA oh:Data)(I O:Lp→Prop)(Ss:List Str)(M:List (Str×Value))(e4:Nat)(hE:C6 (wf w b b2) Ss DE)(hX:X∈Ss)(ro:Ss.length < 1000)(hB:DB=A8 w.2 M e4)(hM:BI M X=none)(pq:(T6 w.2 (bB o) r r2 aS aN aE nS A6 nR fr aT aU aB X Y DT DU DB og pA oh).nP (wf w b b2) (A3 (F7 w.2 fr nS A6 nR)) I O):(dm w.2 fr aT aU aE aB o r r2 aS aN nS A6 nR X Y DT DU DE DB og pA oh).nP (wf w b b2) (A3 (Hu w.2 fr nS A6 nR)) (I) (O):=by
 refine BZ ((Cs.bb o).pp ((Cs.bb r).pp (Cs.bb r2))) (fun z D=>dm w.2 fr aT aU aE aB z.1 z.2.1 z.2.2 aS aN nS A6 nR X Y (gD D 0) (gD D 1) (gD D 2) (gD D 3) og pA oh) (fun z D l=>dm w.2 fr aT aU aE aB z.1 z.2.1 z.2.2 aS aN nS A6 nR X Y (gD D 0) (gD D 1) (gD D 2) (gD D 3) (ud l 0 2) (ud l 0 4) (ud l 0 6)) (fun z D=>(Af [HS 3 (gD D 2) X true,WJ 4 (gD D 3) X false,Zv w.2 (bB z.1) z.2.1 z.2.2 aS aN aE nS A6 nR fr aT aU aB X Y (gD D 0) (gD D 1) (gD D 3) og pA oh [0,1,2,4]])) 3 (fun z=>[]) [false,true,true,true,true] (hD 7 8 4726744) 0 [0,0] 0 [DT,DU,DE,DB] (fun E0 ke=>?_)
 exact .q (D8 (w:=wf w b b2) hE (by simpa using hX) (by have:scanBound=4096:=rfl; lia)) fun y y y=>.q (Kx (w:=wf w b b2) hB (by rw [hM]; rfl)) fun y y y=>.cons (SD pq (by decide) rfl) fun u2 y g2=>.nh ke (@id (eD (u2.d 2)=og) (g2.1.1) ▸ @id (eD (u2.d 4)=pA) (g2.1.2.1) ▸ @id (eD (u2.d 6)=oh) (g2.1.2.2.1) ▸ rfl)
def cD(P:Params)(fr aT aU aE aB aN aI aL:Nat)(o r r2:Bool)(aS nS A6 nR xI:Nat)(np:Int)(X Y:Str)(us:List Value)(k cU:Nat)(gU:Nat→Data)(pE:Data→Prop)(DT oy DU pN pA DE oc DB p6 DN og oh oZ DL oR:Data):Spec:=⟨QI P fr,[fr,aT,aU,aE,aB,aN,aI,aL],[FY r P aS aN aT aU aE aB nS X,A0 DT,A0 DU,Bp DE,A7 DB,A7 DN,AG X np xI aL,A0 DL],Hu P fr nS A6 nR,fun A=>Xo P fr o,fun A=>[FY r2 P aS aN aT aU aE aB nS Y,A0 og,A0 pA,Bp oc,A7 oh,A7 DN,AG X np xI aL,A0 oR],fun A=>[GN (A 1),Up oZ]⟩
theorem QM(fr aT aU aE aB aN aI aL:Nat)(o r r2:Bool)(aS nS A6 nR xI:Nat)(np:Int)(X Y:Str)(us:List Value)(k cU:Nat)(gU:Nat→Data)(pE:Data→Prop)(DT oy DU DE DB p6 DN og oh oZ DL oR:Data)(I O:Lp→Prop)(Ss:List Str)(M N:List (Str×Value))(ts:List Value)(e1 e4 en:Nat)(hE:C6 (wf w b b2) Ss DE)(hX:X∉Ss)(ro:Ss.length < 1000)(hp:pE=C6 (wf w b b2) (X::Ss))(hN:DN=A8 w.2 N en)(hI:BI N X=some (.ref aI))(hU:DU=.seq ⟨us⟩ cU)(ri:us.length < 1000)(hT:DT=.seq ⟨ts⟩ e1)(hk:ts.length=k)(rQ:k < 1000)(rU:oy=.seq ⟨ts++[.str X 0]⟩ (e1+1))(hB:DB=A8 w.2 M e4)(hM:BI M X=none)(r5:p6=A8 w.2 (M++[(X,.int k 0)]) (e4+1))(uF:M.length < 1000)(eL:oR=DL)(pq:∀ (aM nZ:Nat) (pN:Data),pN=.seq ⟨us++[.ref aM]⟩ (cU+1)→(T5 w.2 (bB o) r r2 aS aN aE nS A6 nR fr aT aU aB aM nZ aL X Y oy pN p6 og (gU aM) oh oZ DL).nP (wf w b b2) (A3 (F7 w.2 fr nS A6 nR)) I O):Spec.oC (fun (z:Data×Data)=>cD w.2 fr aT aU aE aB aN aI aL o r r2 aS nS A6 nR xI np X Y us k cU gU pE DT oy DU .plain z.2 DE z.1 DB p6 DN og oh oZ DL oR) (fun (z:Data×Data) A=>C6 (wf w b b2) (X::Ss) z.1∧z.2=gU (A 0)) (cD w.2 fr aT aU aE aB aN aI aL o r r2 aS nS A6 nR xI np X Y us k cU gU pE DT oy DU .plain .plain DE .plain DB p6 DN og oh oZ DL oR) (wf w b b2) (A3 (Hu w.2 fr nS A6 nR)) (I) (O):=by
 refine NO ((Cs.bb o).pp ((Cs.bb r).pp (Cs.bb r2))) (fun z D=>cD w.2 fr aT aU aE aB aN aI aL z.1 z.2.1 z.2.2 aS nS A6 nR xI np X Y us k cU gU pE (gD D 0) oy (gD D 1) .plain .plain (gD D 2) .plain (gD D 3) p6 (gD D 4) og oh oZ (gD D 5) oR) (fun z D l=>cD w.2 fr aT aU aE aB aN aI aL z.1 z.2.1 z.2.2 aS nS A6 nR xI np X Y us k cU gU pE (gD D 0) (ud l 1 0) (gD D 1) (ud l 4 0) (ud l 0 4) (gD D 2) (ud l 6 0) (gD D 3) (ud l 2 0) (gD D 4) (ud l 0 2) (ud l 0 6) (ud l 0 10) (gD D 5) (ud l 0 12)) (fun z D=>[fun y=>HS 3 (gD D 2) X false,fun y=>Uj 3 (gD D 2) X pE,fun y=>HT 5 (gD D 4) X (.ref aI),fun l=>CV 2 (gD D 1) (.seq ⟨us++[Value.ref (un l 0 0 0+1)]⟩ (cU+1)) (Value.ref (un l 0 0 0+1)),fun y=>GG 1 (gD D 0) k,fun y=>J' 4 (gD D 3) p6 X (.int k 0),fun y=>CV 1 (gD D 0) oy (.str X 0),fun l=>Zu w.2 (bB z.1) z.2.1 z.2.2 aS aN aE nS A6 nR fr aT aU aB (un l 4 0 0+1) (un l 4 0 0) aL X Y (ud l 0 0) (ud l 3 0) (ud l 1 0) og (gU (un l 4 0 0+1)) oh oZ (gD D 5) [0,1,2,4,9,8,7]]) 8 (fun z D l=>[(0,un l 5 0 0+1)]) (fun z=>[9,8]) [false,true,true,true,true,true,false,true] (hD 11 70 861538999409844676672357764004337607831530515982189127132481261638664566) 0 [0,0,8,0,0,0,0] 0 [DT,DU,DE,DB,DN,DL] (fun E0 ke=>?_)
 refine .q (D8 (w:=wf w b b2) hE (by simpa using hX) (by have:scanBound=4096:=rfl; lia)) fun y y y=>.cons (by rw [hp]; exact Nw (w:=wf w b b2) hE hX (by have:scanBound=4096:=rfl; lia)) fun u1 y g1=>.q (D9 (w:=wf w b b2) hN hI) fun u2 y y=>.cons (Ab (v:=.ref (u2.n 0 0+1)) hU rfl (by have:=A5; lia)) fun y y g3=>.q (Ca hT (by rw [hk]) (by lia)) fun y y y=>.cons (Dk (w:=wf w b b2) hB hM r5 (by have:=A5; lia)) fun u5 y g5=>?_
 obtain rfl:eD (u5.d 0)=p6:=g5.1.1
 refine .cons (Ab hT rU (by have:=A5; lia)) fun u6 y g6=>?_
 obtain rfl:eD (u6.d 0)=oy:=g6.1.1
 refine .cons (S9 (pq _ _ _ g3.1.1) (by decide) rfl) fun u7 y g7=>.nil fun P hP=>ke _ _ ⟨(eD (u1.d 0),eD (u7.d 4)),@id (eD (u7.d 2)=og) (g7.1.1) ▸ @id (eD (u7.d 6)=oh) (g7.1.2.2.1) ▸ @id (eD (u7.d 10)=oZ) (g7.1.2.2.2.1) ▸ @id (eD (u7.d 12)=oR) (g7.1.2.2.2.2.1.trans eL.symm) ▸ rfl,hP,fun A a=>?_⟩
 try dsimp only
 have a0:A 0=u2.n 0 0+1:=a _ (.head _)
 obtain ⟨z,hz,hz2,_⟩:=g1.1
 rw [hp] at hz
 have hz2:eD (u1.d 0)=z:=hz2
 refine ⟨by rw [hz2]; exact hz,g7.1.2.1.trans (congrArg gU a0.symm)⟩
def XQ(P:Params)(aI nQ aA aK nW aE fr:Nat)(XA XB:Str)(ng DF DE DI:Data):Spec:=
 ⟨lZ P aI aA aK nW fr,[aI,nQ,aA,aK,nW,aE],[AW nQ 0,A0 ng,A0 (.seq #[] 0),AR [] 0,AH aE,A0 DE],Aa,fun q=>.fin (.done .next),fun q=>[Up DI,A0 ng,A0 DF,AR [kE P "early" (.str XA 0),kE P "late" (.str XB 0)] 2,AH aE,A0 DE],fun q=>[]⟩
def gT(P:Params)(fr nQ nW aE:Nat)(XA XB:Str)(ng DF DE DI:Data)(mI mA mK:Nat)(nums:List Nat):AA:=B6 (fun q=>Aa) nums [true,true,true,false,false,true] [] (fun x=>XQ P (A2 x mI) nQ (A2 x mA) (A2 x mK) nW aE fr XA XB ng DF DE DI)
variable{w b b2}
theorem O9{fr nQ nW aE:Nat}{XA XB:Str}{ng DF DE DI:Data}{mI mA mK:Nat}{nums:List Nat}{I O:Lp→Prop}(h:∀ aI aA aK:Nat,(XQ w.2 aI nQ aA aK nW aE fr XA XB ng DF DE DI).nP (wf w b b2) (A3 Aa) I O)(nd:nums.Nodup)(hl:nums.length=6):(gT w.2 fr nQ nW aE XA XB ng DF DE DI mI mA mK nums).oB pw (wf w b b2) (A4 w.2) I O:=
 AF (w:=wf w b b2) (Sf:=fun q=>A3 Aa) (fun q=>h _ _ _) (fun q=>Ac (by intro h; cases h)) nd (fun q=>⟨hl.symm,hl.symm,fun q=>hl.symm⟩) (fun q q=>rfl)
def bH(P:Params)(nQ aN nu:Nat)(T:Int)(X0 X1:Str)(aI aE fr nT nv nW nY:Nat)(DE DF DI:Data):Spec:=
 ⟨QU P aI fr nT nW,[aI,aE,fr,nT,nv],[AW aE 0,A0 DE,C3 (.dict ⟨Fu P nQ aN nu X0 nY T⟩ 6),AH nv,A0 DF],Aa,fun q=>.fin (.done .next),fun q=>[Up DI,A0 DE,C3 (.dict ⟨Fu P nQ aN nu X1 nY T⟩ 6),AH nv,A0 DF],fun q=>[]⟩
def gX(P:Params)(nQ aN nu:Nat)(T:Int)(X0 X1:Str)(aE fr nT nW nY:Nat)(DE DF DI:Data)(mI mF:Nat)(nums:List Nat):AA:=B6 (fun q=>Aa) nums [true,true,false,false,true] [] (fun x=>bH P nQ aN nu T X0 X1 (A2 x mI) aE fr nT (A2 x mF) nW nY DE DF DI)
theorem OE{nQ aN nu:Nat}{T:Int}{X0 X1:Str}{aE fr nT nW nY:Nat}{DE DF DI:Data}{mI mF:Nat}{nums:List Nat}{I O:Lp→Prop}(h:∀ aI nv:Nat,(bH w.2 nQ aN nu T X0 X1 aI aE fr nT nv nW nY DE DF DI).nP (wf w b b2) (A3 Aa) I O)(nd:nums.Nodup)(hl:nums.length=5):(gX w.2 nQ aN nu T X0 X1 aE fr nT nW nY DE DF DI mI mF nums).oB pw (wf w b b2) (A4 w.2) I O:=
 AF (w:=wf w b b2) (Sf:=fun q=>A3 Aa) (fun q=>h _ _) (fun q=>Ac (by intro h; cases h)) nd (fun q=>⟨hl.symm,hl.symm,fun q=>hl.symm⟩) (fun q q=>rfl)
def XO(P:Params)(aI aN aA aK nT nv fr:Nat)(XN:Str)(DN oc DF DI:Data):Spec:=
 ⟨lY P aI aA aK nT fr,[aI,aN,aA,aK,nT,nv],[AW aN 0,A0 DN,A0 (.seq #[] 0),AR [] 0,AH nv,A0 DF],Aa,fun q=>.fin (.done .next),fun q=>[Up DI,A0 DN,A0 oc,AR [kE P "name" (.str XN 0)] 1,AH nv,A0 DF],fun q=>[]⟩
def gS(P:Params)(fr aN nT:Nat)(XN:Str)(DN oc DF DI:Data)(mI mA mK mF:Nat)(nums:List Nat):AA:=B6 (fun q=>Aa) nums [true,true,true,false,false,true] [] (fun x=>XO P (A2 x mI) aN (A2 x mA) (A2 x mK) nT (A2 x mF) fr XN DN oc DF DI)
theorem O8{fr aN nT:Nat}{XN:Str}{DN oc DF DI:Data}{mI mA mK mF:Nat}{nums:List Nat}{I O:Lp→Prop}(h:∀ aI aA aK nv:Nat,(XO w.2 aI aN aA aK nT nv fr XN DN oc DF DI).nP (wf w b b2) (A3 Aa) I O)(nd:nums.Nodup)(hl:nums.length=6):(gS w.2 fr aN nT XN DN oc DF DI mI mA mK mF nums).oB pw (wf w b b2) (A4 w.2) I O:=
 AF (w:=wf w b b2) (Sf:=fun q=>A3 Aa) (fun q=>h _ _ _ _) (fun q=>Ac (by intro h; cases h)) nd (fun q=>⟨hl.symm,hl.symm,fun q=>hl.symm⟩) (fun q q=>rfl)
def cH(P:Params)(nZ fr nQ aN nT nW:Nat)(nu nY qZ:Nat)(T0 i:Int)(k:Nat)(X0 X1 XA XB XN:Str)(qC qB oZ:Data)(ng o6 DN oE tI tH sW sV DF qE oc:Data):Spec:=⟨Mi P nZ fr nT nW,[nZ,fr,nQ,aN,nT,nW],[B2 i ((k+1:Nat):Int) 1,C3 (.dict ⟨QH P nQ aN nu X0 nY⟩ 5),A0 ng,A0 DN,Y8 (.cell none),AH aN],B1,fun A=>.fin (.again (Mi P nZ fr nT nW)),fun A=>[B2 (i+1) (((k+1:Nat):Int)-1) 1,C3 (.dict ⟨Fu P nQ aN nu X1 nY i⟩ 6),A0 o6,A0 oE,AH (A 0),AH (A 1)],fun A=>[A0 qE,A0 oc]⟩
variable(w b b2)
theorem QW(nZ fr nQ aN nT nW:Nat)(nu nY qZ:Nat)(T0 i:Int)(k:Nat)(X0 X1 XA XB XN:Str)(qC qB oZ:Data)(ng o6 DN oE DF qE oc:Data)(I J:Lp→Prop)(eP:o6=ng)(eN:oE=DN)(eF:qE=DF)(qx:∀ aI aA aK:Nat,(XQ w.2 aI nQ aA aK nW aN fr XA XB ng DF DN qC).nP (wf w b b2) (A3 Aa) I I)(qd:∀ aI nv:Nat,(bH w.2 nQ aN nu i X0 X1 aI aN fr nT nv nW nY DN DF qB).nP (wf w b b2) (A3 Aa) I J)(pO:∀ aI aA aK nv:Nat,(XO w.2 aI aN aA aK nT nv fr XN DN oc DF oZ).nP (wf w b b2) (A3 Aa) J J):(cH w.2 nZ fr nQ aN nT nW nu nY qZ T0 i k X0 X1 XA XB XN qC qB oZ ng o6 DN oE .plain .plain .plain .plain DF qE oc).nP (wf w b b2) (A3 (B1)) (I) (J):=by
 refine Cz (fun D=>cH w.2 nZ fr nQ aN nT nW nu nY qZ T0 i k X0 X1 XA XB XN qC qB oZ (gD D 0) o6 (gD D 1) oE .plain .plain .plain .plain DF qE oc) (fun D l=>cH w.2 nZ fr nQ aN nT nW nu nY qZ T0 i k X0 X1 XA XB XN qC qB oZ (gD D 0) (ud l 2 2) (gD D 1) (ud l 0 2) (ud l 2 4) (ud l 1 8) (ud l 2 10) (ud l 1 2) DF (ud l 0 10) (ud l 0 4)) (fun D=>[fun q=>gT w.2 fr nQ nW aN XA XB (gD D 0) DF (gD D 1) qC 6 7 8 [6,2,7,8,5,3],fun l=>gX w.2 nQ aN nu i X0 X1 aN fr nT nW nY (ud l 0 10) (ud l 0 4) qB 9 7 [9,3,1,4,7],fun l=>gS w.2 fr aN nT XN (ud l 0 2) oc (ud l 0 8) oZ 10 11 12 7 [10,3,11,12,4,7]]) 3 [7,11] [false,false,true,true,false,false] (fun q=>(hD 15 39 3175617328679500641728278110013059418187360491)) (fun q=>2) (fun q=>[1,1]) 0 [ng,DN] (fun E0 ke=>?_)
 exact .cons (O9 qx (by decide) rfl) fun u0 q g0=>.cons (by (try simp only [un,ud,BL]); rw [show eD (u0.d 10)=DN from g0.1.2.2.2.1,show eD (u0.d 4)=DF from g0.1.2.2.1]; exact OE qd (by decide) rfl) fun u1 q g1=>.cons (by (try simp only [un,ud,BL]); rw [show eD (u1.d 2)=DN from g1.1.2.1.trans g0.1.2.2.2.1,show eD (u1.d 8)=DF from g1.1.2.2.1.trans g0.1.2.2.1]; exact O8 pO (by decide) rfl) fun u2 q g2=>.nh ke (@id (eD (u0.d 2)=o6) (g0.1.2.1.trans eP.symm) ▸ @id (eD (u2.d 4)=oc) (g2.1.2.2.1) ▸ @id (eD (u2.d 2)=oE) (g2.1.2.1.trans ((g1.1.2.1.trans g0.1.2.2.2.1).trans eN.symm)) ▸ @id (eD (u2.d 10)=qE) (g2.1.2.2.2.1.trans ((g1.1.2.2.1.trans g0.1.2.2.1).trans eF.symm)) ▸ rfl)
def cG(P:Params)(nZ fr nQ aN nT nW aE:Nat)(nu nY qZ:Nat)(T0 i:Int)(k:Nat)(X0 X1 XA XB XN:Str)(qC qB oZ:Data)(ng o6 DN oE DE rJ tI tH uP DF qE oc:Data):Spec:=⟨Mi P nZ fr nT nW,[nZ,fr,nQ,aN,nT,nW,aE],[B2 i ((k+1:Nat):Int) 1,C3 (.dict ⟨Fu P nQ aN nu X0 nY T0⟩ 6),A0 ng,A0 DN,AH qZ,AH aE,A0 DE],B1,fun A=>.fin (.again (Mi P nZ fr nT nW)),fun A=>[B2 (i+1) (((k+1:Nat):Int)-1) 1,C3 (.dict ⟨Fu P nQ aN nu X1 nY i⟩ 6),A0 o6,A0 oE,AH (A 0),AH (A 1),A0 rJ],fun A=>[A0 qE,A0 oc]⟩
theorem QV(nZ fr nQ aN nT nW aE:Nat)(nu nY qZ:Nat)(T0 i:Int)(k:Nat)(X0 X1 XA XB XN:Str)(qC qB oZ:Data)(ng o6 DN oE DE rJ DF qE oc:Data)(I J:Lp→Prop)(eP:o6=ng)(eN:oE=DN)(eF:qE=DF)(eE:rJ=DE)(qx:∀ aI aA aK:Nat,(XQ w.2 aI nQ aA aK nW aE fr XA XB ng DF DE qC).nP (wf w b b2) (A3 Aa) I I)(qd:∀ aI nv:Nat,(bH w.2 nQ aN nu i X0 X1 aI aE fr nT nv nW nY DE DF qB).nP (wf w b b2) (A3 Aa) I J)(pO:∀ aI aA aK nv:Nat,(XO w.2 aI aN aA aK nT nv fr XN DN oc DF oZ).nP (wf w b b2) (A3 Aa) J J):(cG w.2 nZ fr nQ aN nT nW aE nu nY qZ T0 i k X0 X1 XA XB XN qC qB oZ ng o6 DN oE DE rJ .plain .plain .plain DF qE oc).nP (wf w b b2) (A3 (B1)) (I) (J):=by
 refine Cz (fun D=>cG w.2 nZ fr nQ aN nT nW aE nu nY qZ T0 i k X0 X1 XA XB XN qC qB oZ (gD D 0) o6 (gD D 1) oE (gD D 2) rJ .plain .plain .plain DF qE oc) (fun D l=>cG w.2 nZ fr nQ aN nT nW aE nu nY qZ T0 i k X0 X1 XA XB XN qC qB oZ (gD D 0) (ud l 2 2) (gD D 1) (ud l 0 2) (gD D 2) (ud l 1 2) (ud l 2 4) (ud l 1 8) (ud l 2 10) DF (ud l 0 10) (ud l 0 4)) (fun D=>[fun q=>gT w.2 fr nQ nW aE XA XB (gD D 0) DF (gD D 2) qC 7 8 9 [7,2,8,9,5,6],fun l=>gX w.2 nQ aN nu i X0 X1 aE fr nT nW nY (ud l 0 10) (ud l 0 4) qB 10 8 [10,6,1,4,8],fun l=>gS w.2 fr aN nT XN (gD D 1) oc (ud l 0 8) oZ 11 12 13 8 [11,3,12,13,4,8]]) 3 [8,12] [false,false,true,true,false,false,true] (fun q=>(hD 16 39 36727826106790276594078364935593175381122814225)) (fun q=>2) (fun q=>[1,1]) 0 [ng,DN,DE] (fun E0 ke=>?_)
 exact .cons (O9 qx (by decide) rfl) fun u0 q g0=>.cons (by (try simp only [un,ud,BL]); rw [show eD (u0.d 10)=DE from g0.1.2.2.2.1,show eD (u0.d 4)=DF from g0.1.2.2.1]; exact OE qd (by decide) rfl) fun u1 q g1=>.cons (by (try simp only [un,ud,BL]); rw [show eD (u1.d 8)=DF from g1.1.2.2.1.trans g0.1.2.2.1]; exact O8 pO (by decide) rfl) fun u2 q g2=>.nh ke (@id (eD (u0.d 2)=o6) (g0.1.2.1.trans eP.symm) ▸ @id (eD (u1.d 2)=rJ) (g1.1.2.1.trans (g0.1.2.2.2.1.trans eE.symm)) ▸ @id (eD (u2.d 4)=oc) (g2.1.2.2.1) ▸ @id (eD (u2.d 2)=oE) (g2.1.2.1.trans eN.symm) ▸ @id (eD (u2.d 10)=qE) (g2.1.2.2.2.1.trans ((g1.1.2.2.1.trans g0.1.2.2.1).trans eF.symm)) ▸ rfl)
def m4(P:Params)(nZ:Nat)(fr nT nW:Nat)(i:Int):Spec:=⟨Mi P nZ fr nT nW,[nZ],[B2 i 0 1],B1,fun A=>.fin (.done .next),fun A=>[B2 i 0 1],fun A=>[]⟩
theorem QZ(nZ:Nat)(fr nT nW:Nat)(i:Int)(I:Lp→Prop):(m4 w.2 nZ fr nT nW i).nP (wf w b b2) (A3 (B1)) (I) (I):=by
 refine BQ (Af []) 0 [] [1,1,1,1,1,3] 1000000 [] 1 (fun E0 ke=>?_)
 exact .nh ke rfl
section
noncomputable abbrev bT{α β:Type}(m:Sem α)(f:α→Sem β):Sem β:=@bind Sem (@Monad.toBind Sem PySem.W.Fast.tw12456147031677567982) α β m f
noncomputable abbrev jT(t:Value)(s:String):Bool:=@BEq.beq Value (@instBEqOfDecidableEq Value PySem.W.Fast.tw7966671052430208091) t (.type s)
noncomputable def Xg(c:Bool)(self it result:Value):Sem Fin:=
 bT (PySem.W.Fast.tw14684505520029207082 it) fun t=>
  if ((c.or (jT t PySem.W.SL.s9222952809800978799x4)).or (jT t PySem.W.SL.s2766695959194262286x5))=true then
   bT (PySem.W.Fast.tw10557518346328741659 it) fun xs=>bT (PySem.W.Fast.tw10557518346328741659 self) fun ry=>
    have jp:Unit→Sem Fin:=fun q=>bT (PySem.W.Fast.tw2060155186595164805 self fun x=>@HAppend.hAppend (Array Value) (Array Value) (Array Value) (@instHAppendOfAppend (Array Value) (@PySem.W.Fast.tw494991955013373658 Value)) x xs) fun q=>PySem.W.Fast.tw6905046200447255374 result
    if (!ry.isEmpty&&Builtin.List.listTooLong (ry.size+xs.size))=true then bT (unsupported "list.extend:memory") fun r=>jp r else jp ()
  else
   bT (PySem.W.Fast.tw8711993805878244202 it) fun iter=>bT (PySem.W.Fast.tw17359229931016689406 [iter] (PySem.W.Fast.tw15112759502256325868 it)) fun room=>
    have jp:Unit→Sem Fin:=fun q=>PySem.W.Fast.tw12377390311714414960 (Code.builtin PySem.W.SL.s9316426964554523096x16 { pos:=[self,iter,result] })
    if (room || PySem.W.R.anyR PySem.W.Fast.tw16271295295120926622 fun x=>jT t x)=true then bT (rule "list.extend.makes-room") fun q=>bT (PySem.W.Fast.tw922294955767894045 self) fun r=>jp r else jp ()
theorem LU(self it result:Value):PySem.W.Fast.tw8938917530802602619 self it result=Xg (Builtin.List.listSameRef self it) self it result:=rfl
noncomputable def Zy:AA:=Vv [0,1] (fun x=>PySem.W.Fast.tw8938917530802602619 (.ref (A2 x 0)) (.ref (A2 x 1)) .none) (fun x=>Xg false (.ref (A2 x 0)) (.ref (A2 x 1)) .none)
theorem SI{p:Program}{w:World}{kt:KT}:Zy.qQ p w kt:=Kn fun x s D hk=>by
 have ne:=IX D (i:=0) (j:=1) (hk 0 (by decide)) (hk 1 (by decide)) (by decide)
 rw [LU]
 have:Builtin.List.listSameRef (.ref (A2 x 0)) (.ref (A2 x 1))=false:=by
  show (A2 x 0==A2 x 1)=false
  simpa using ne
 rw [this]
def cK(P:Params)(fS fF fW:Nat):List Sh:=(Qq P fS fF fW).tail
noncomputable def MG(ws:List (List Nat))(n:Nat):Obj:={ cls:=.type "list",data:=.seq ⟨ws.map (fun t=>.str ⟨⟨t⟩⟩ 0)⟩ n }
def Zj(P:Params)(aL aD aS aE aP aQ:Nat)(buf:Str)(p:Nat)(T:List Nat)(p':Nat):AA:=Ck Uc [1,2,3,4,5,6] [] [] (fun x=>lF P aL aD aS aE aP aQ buf p T p')
variable{w b b2}
theorem Rx{aL aD aS aE aP aQ:Nat}{buf:Str}{p:Nat}{T:List Nat}{p':Nat}{I:Lp→Prop}(h2:buf.length≤sizeLine)(hz:CH (buf.cps.toList.drop p) p=some (T,p',true)):(Zj w.2 aL aD aS aE aP aQ buf p T p').oB pw (wf w b b2) (A4 w.2) (I) (I):=
 An (w:=wf w b b2) (Sf:=A3 Uc) (fun x=>SP w b b2 aL aD aS aE aP aQ buf p T p' h2 hz I) (Ac (by intro h; cases h)) (by decide) (fun q=>⟨rfl,rfl,fun q=>rfl⟩) (fun q q=>rfl)
def Zm(P:Params)(aL aD aS aE aP aQ:Nat)(buf:Str)(p:Nat)(T:List Nat)(p':Nat):AA:=Ck Uc [1,2,3,4,5,6] [] [] (fun x=>lG P aL aD aS aE aP aQ buf p T p')
theorem S4{aL aD aS aE aP aQ:Nat}{buf:Str}{p:Nat}{T:List Nat}{p':Nat}{I:Lp→Prop}(h2:buf.length≤sizeLine)(hz:CH (buf.cps.toList.drop p) p=some (T,p',false)):(Zm w.2 aL aD aS aE aP aQ buf p T p').oB pw (wf w b b2) (A4 w.2) (I) (I):=
 An (w:=wf w b b2) (Sf:=A3 Uc) (fun x=>SU w b b2 aL aD aS aE aP aQ buf p T p' h2 hz I) (Ac (by intro h; cases h)) (by decide) (fun q=>⟨rfl,rfl,fun q=>rfl⟩) (fun q q=>rfl)
def Zl(P:Params)(aL aD aS aE aP aQ fS fF fW:Nat)(buf:Str)(p:Nat)(DS DF DW:Data):AA:=Ck (Qq P fS fF fW) [1,2,3,4,5,6,7,8,9] [false,false,false,false,false,false,true,true,true] [] (fun x=>cY P aL aD aS aE aP aQ fS fF fW buf p DS DF DW)
theorem Rz{aL aD aS aE aP aQ fS fF fW:Nat}{buf:Str}{p:Nat}{DS DF DW:Data}{I:Lp→Prop}(h:buf.length≤p)(h2:buf.length≤sizeLine):(Zl w.2 aL aD aS aE aP aQ fS fF fW buf p DS DF DW).oB pw (wf w b b2) (A4 w.2) (I) (I):=
 An (w:=wf w b b2) (Sf:=A3 (Qq w.2 fS fF fW)) (fun x=>SS w b b2 aL aD aS aE aP aQ fS fF fW buf p DS DF DW h h2 I) (Ac (by intro h; cases h)) (by decide) (fun q=>⟨rfl,rfl,fun q=>rfl⟩) (fun q q=>rfl)
def Zk(P:Params)(aL aD aS aE aP aQ fS fF fW:Nat)(buf:Str)(p:Nat)(DS DF DW:Data):AA:=Ck (Qq P fS fF fW) [1,2,3,4,5,6,7,8,9] [false,false,false,false,false,false,true,true,true] [] (fun x=>cX P aL aD aS aE aP aQ fS fF fW buf p DS DF DW)
theorem Ry{aL aD aS aE aP aQ fS fF fW:Nat}{buf:Str}{p:Nat}{DS DF DW:Data}{I:Lp→Prop}(h:buf.length≤p)(h2:buf.length≤sizeLine):(Zk w.2 aL aD aS aE aP aQ fS fF fW buf p DS DF DW).oB pw (wf w b b2) (A4 w.2) (I) (I):=
 An (w:=wf w b b2) (Sf:=A3 (Qq w.2 fS fF fW)) (fun x=>SQ w b b2 aL aD aS aE aP aQ fS fF fW buf p DS DF DW h h2 I) (Ac (by intro h; cases h)) (by decide) (fun q=>⟨rfl,rfl,fun q=>rfl⟩) (fun q q=>rfl)
theorem Bv.rW{E:List U→Lp→Prop}{p:Program}{w:World}{kt:KT}{I:Lp→Prop}{rest:List (List U→AA)}:∀ {os:List AA},(∀ o∈os,o.oB p w kt I I)→∀ l,(∀ us,us.length=os.length→Bv E p w kt I rest (us++l))→Bv E p w kt I (Af os++rest) l
 | [],_,l,he=>he [] rfl
 | o::os,h,l,he=>.cons (h o (.head _)) fun u q q=>Bv.rW (fun o m=>h o (.tail _ m)) (u::l) fun us e=>by
  have:=he (us++[u]) (by simp [e])
  rwa [List.append_assoc] at this
def DK:Nat→List Nat→Nat→Option (List (List Nat)×Nat)
 | 0,_,_=>none
 | k+1,buf,p=>match CH (buf.drop p) p with
  | some (T,p',true)=>match DK k buf p' with
   | some (l,q)=>some (T::l,q)
   | none=>none
  | some (T,p',false)=>some ([T],p')
  | none=>none
theorem K8(k:Nat)(buf:List Nat)(p:Nat):DK (k+1) buf p=(match CH (buf.drop p) p with
  | some (T,p',true)=>match DK k buf p' with
   | some (l,q)=>some (T::l,q)
   | none=>none
  | some (T,p',false)=>some ([T],p')
  | none=>none):=rfl
theorem J9:∀ (rest:List Nat) (st:Nat) (tok:List Nat) (p:Nat) (T:List Nat) (p':Nat),CW rest st tok p=some (T,p',false)→p'=p+rest.length
 | [],st,tok,p,T,p',h=>by
  rw [Oq] at h
  by_cases e:st=97
  ·rw [if_pos e] at h; cases h; rfl
  ·rw [if_neg e] at h; cases h
 | c::r,st,tok,p,T,p',h=>by
  have ih:=fun st tok=>J9 r st tok (p+1) T p'
  have fin:∀ st tok,CW r st tok (p+1)=some (T,p',false)→p'=p+(c::r).length:=fun st tok e=>by
   rw [ih st tok e,List.length_cons]; lia
  rw [Ot] at h
  repeat' split at h
  all_goals first | cases h | exact fin _ _ h
theorem Om{buf:List Nat}{p:Nat}{T:List Nat}{p':Nat}(h:CH (buf.drop p) p=some (T,p',false)):buf.length≤p':=by
 obtain ⟨r,e,h⟩:=J7 h
 have l:=congrArg List.length e
 rw [List.length_drop] at l
 rw [J9 _ _ _ _ _ _ h,Nat.add_assoc,Nat.add_comm 2]
 exact Nat.sub_le_iff_le_add'.mp (Nat.le_of_eq l)
def dW(nm:Bool)(P:Params)(aW aL aD aS aE aP aQ fS fF fW:Nat)(buf:Str)(ws:List (List Nat))(pe:Nat)(DS DF DW:Data):Spec:=
 ⟨.call (.builtin "list.__init__") ⟨[.ref aW,.ref aL],[]⟩,[aW,aL,aD,aS,aE,aP,aQ,fS,fF,fW],[MG [] 0,Av aD,Ax P aS aP aQ (cv 32) ⟨⟨[]⟩⟩,Ag aE,Ah P buf 0,BM,BM,C3 DS,C3 DF,if nm then C3 DW else Dp fW DW],cK P fS fF fW,fun A=>.fin (.done (.ret .none)),
  fun A=>[MG ws (ws.length+2),Av aD,Ax P aS aP aQ (.none) ⟨⟨[]⟩⟩,Ag aE,Ah P buf pe,BM,BM,jJ DS fF,b8 DF fW,Dp fW DW],fun A=>[]⟩
noncomputable abbrev Pz:=List (List Nat×Nat)
def YT(buf:List Nat):Nat→Pz→Prop
 | _,[]=>False
 | p,[x]=>CH (buf.drop p) p=some (x.1,x.2,false)
 | p,x::y::r=>CH (buf.drop p) p=some (x.1,x.2,true)∧YT buf x.2 (y::r)
def PX:Pz→Nat
 | []=>0
 | [x]=>x.2
 | _::y::r=>PX (y::r)
theorem Oo{buf:List Nat}:∀ (k p:Nat) (ws:List (List Nat)) (pe:Nat),DK k buf p=some (ws,pe)→∃ l:Pz,l.map (·.1)=ws∧YT buf p l∧PX l=pe∧buf.length≤pe∧l.length≤k
 | 0,_,_,_,h=>by cases h
 | k+1,p,ws,pe,h=>by
  rw [K8] at h
  rcases e:CH (buf.drop p) p with _ | ⟨T,p',_ | _⟩<;>rw [e] at h
  ·cases h
  ·cases h
   exact ⟨[(T,pe)],rfl,e,rfl,Om e,Nat.le_add_left 1 k⟩
  ·dsimp only at h
   rcases e':DK k buf p' with _ | ⟨l',q'⟩<;>rw [e'] at h
   ·cases h
   ·cases h
    obtain ⟨l,h1,h2,h3,h4,h5⟩:=Oo k p' l' pe e'
    cases l with
    | nil=>exact h2.elim
    | cons y r=>exact ⟨(T,p')::y::r,by rw [List.map_cons,h1],⟨e,h2⟩,h3,h4,Nat.succ_le_succ h5⟩
section
variable(P:Params)(aL aD aS aE aP aQ:Nat)(buf:Str)
def aO:Nat→Pz→List AA
 | _,[]=>[]
 | p,[x]=>[Zm P aL aD aS aE aP aQ buf p x.1 x.2]
 | p,x::y::r=>Zj P aL aD aS aE aP aQ buf p x.1 x.2::aO x.2 (y::r)
end
theorem L5{P:Params}{aL aD aS aE aP aQ:Nat}{buf:Str}:∀ (p:Nat) (l:Pz),(aO P aL aD aS aE aP aQ buf p l).length=l.length
 | _,[]=>rfl
 | _,[_]=>rfl
 | _,x::y::r=>congrArg (· + 1) (L5 x.2 (y::r))
theorem OK{w:World}{b b2:Bool}{aL aD aS aE aP aQ:Nat}{buf:Str}{I:Lp→Prop}(h2:buf.length≤sizeLine):∀ (p:Nat) (l:Pz),YT buf.cps.toList p l→∀ o∈aO w.2 aL aD aS aE aP aQ buf p l,o.oB pw (wf w b b2) (A4 w.2) I I
 | _,[],h,_,_=>h.elim
 | p,[x],h,o,m=>by cases List.mem_singleton.mp m; exact S4 h2 h
 | p,x::y::r,h,o,m=>by
  rcases List.mem_cons.mp m with rfl | m
  ·exact Rx h2 h.1
  ·exact OK h2 x.2 (y::r) h.2 o m
def Zn(t:Bool)(P:Params)(aL aD aS aE aP aQ fS fF fW:Nat)(buf:Str)(p:Nat)(DS DF DW:Data):AA:=bif t then Zl P aL aD aS aE aP aQ fS fF fW buf p DS DF DW else Zk P aL aD aS aE aP aQ fS fF fW buf p DS DF DW
theorem W7{t:Bool}{P:Params}{aL aD aS aE aP aQ fS fF fW:Nat}{buf:Str}{p:Nat}{DS DF DW:Data}{u:U}{x:SX}(g:(Zn t P aL aD aS aE aP aQ fS fF fW buf p DS DF DW).good u x):eD (u.d 12)=DS∧eD (u.d 14)=DF∧eD (u.d 16)=DW:=by
 cases t<;>exact ⟨g.1.1,g.1.2.1,g.1.2.2.1⟩
noncomputable def c9(n:Nat):List Nat:=[1,1,1,1,1,1000000,2,2,0,0,0,2,0,0,0,0,0,0,11,11,0,11,2,0,0,0,2,0,0,0,2,0,0,0,1,1,1,1,1,1]++(List.replicate n [2,0,0,0,0,1,1,1]).flatten++[2,0,0,0,0,12]
section
variable(w:World)(b b2 t:Bool)(aW aL aD aS aE aP aQ fS fF fW:Nat)(buf:Str)
noncomputable def cA(l:Pz)(DS DF DW:Data):List (List U→AA):=(fun q=>Zy)::(Af (aO w.2 aL aD aS aE aP aQ buf 0 l)++[fun q=>Zn t w.2 aL aD aS aE aP aQ fS fF fW buf (PX l) DS DF DW])
def UZ(l:Pz)(DS DF DW:Data):Spec:=dW t w.2 aW aL aD aS aE aP aQ fS fF fW buf (l.map (·.1)) (PX l) DS DF DW
theorem QB(x:Bool)(l:Pz)(h2:2≤l.length)(h5:l.length≤5):Mq w x b2 (fun D=>UZ w t aW aL aD aS aE aP aQ fS fF fW buf l (gD D 0) (gD D 1) (gD D 2)) (fun D=>cA w t aL aD aS aE aP aQ fS fF fW buf l (gD D 0) (gD D 1) (gD D 2)) (l.length+2) (fun q q=>[]) [] [false,false,false,false,false,false,false,true,true,true] (c9 l.length) 1 (List.replicate l.length 0) 20=Mp w x b2 (fun D=>UZ w t aW aL aD aS aE aP aQ fS fF fW buf l (gD D 0) (gD D 1) (gD D 2)) (fun q us=>UZ w t aW aL aD aS aE aP aQ fS fF fW buf l (ud us 0 12) (ud us 0 14) (ud us 0 16)) (fun D=>cA w t aL aD aS aE aP aQ fS fF fW buf l (gD D 0) (gD D 1) (gD D 2)) (l.length+2) (fun q q=>[]) [] [false,false,false,false,false,false,false,true,true,true] (c9 l.length) 1 (List.replicate l.length 0) 20:=
 IW (List.range' 2 4) ((Cs.bb x).pp (Cs.bb t)) (F:=fun (l:Pz) z=>Mq w z.1 b2 (fun D=>UZ w z.2 aW aL aD aS aE aP aQ fS fF fW buf l (gD D 0) (gD D 1) (gD D 2)) (fun D=>cA w z.2 aL aD aS aE aP aQ fS fF fW buf l (gD D 0) (gD D 1) (gD D 2)) (l.length+2) (fun q q=>[]) [] [false,false,false,false,false,false,false,true,true,true] (c9 l.length) 1 (List.replicate l.length 0) 20) (G:=fun (l:Pz) z=>Mp w z.1 b2 (fun D=>UZ w z.2 aW aL aD aS aE aP aQ fS fF fW buf l (gD D 0) (gD D 1) (gD D 2)) (fun q us=>UZ w z.2 aW aL aD aS aE aP aQ fS fF fW buf l (ud us 0 12) (ud us 0 14) (ud us 0 16)) (fun D=>cA w z.2 aL aD aS aE aP aQ fS fF fW buf l (gD D 0) (gD D 1) (gD D 2)) (l.length+2) (fun q q=>[]) [] [false,false,false,false,false,false,false,true,true,true] (c9 l.length) 1 (List.replicate l.length 0) 20) (fun f=>by kernel_rfl) (List.mem_range'_1.mpr ⟨h2,Nat.lt_succ_of_le h5⟩)
end
theorem QC(t:Bool)(w:World)(b b2:Bool)(aW aL aD aS aE aP aQ fS fF fW:Nat)(buf:Str)(ws:List (List Nat))(pe:Nat)(DS DF DW:Data)(h2:buf.length≤sizeLine)(hw:DK 5 buf.cps.toList 0=some (ws,pe))(h1:2≤ws.length)(I:Lp→Prop) :
  (dW t w.2 aW aL aD aS aE aP aQ fS fF fW buf ws pe DS DF DW).nP (wf w b b2) (A3 (cK w.2 fS fF fW)) I I:=by
 obtain ⟨l,rfl,hc,rfl,hp,h5⟩:=Oo _ _ _ _ hw
 rw [List.length_map] at h1
 have hp:buf.length≤PX l:=by simpa [Str.length] using hp
 exact (NP (fun _:Unit=>UZ w t aW aL aD aS aE aP aQ fS fF fW buf l DS DF DW) (fun q q=>True) _ _ _ _ _ _ _ _ _ _ _ [DS,DF,DW]
  (fun q ke=>.note SI fun q q q=>.rW (OK h2 0 l hc) _ fun us q=>.cons (by cases t; exact Ry hp h2; exact Rz hp h2) fun u q g=>.nh ke (by
   obtain ⟨g1,g2,g3⟩:=W7 g
   show UZ w t aW aL aD aS aE aP aQ fS fF fW buf l (eD (u.d 12)) (eD (u.d 14)) (eD (u.d 16))=_
   rw [g1,g2,g3]; rfl))
  (QB w b2 t aW aL aD aS aE aP aQ fS fF fW buf b l h1 h5) (by cases t<;>rfl) rfl (by show (Af (aO w.2 aL aD aS aE aP aQ buf 0 l)++[_]).length+1=_; unfold Af; simp [L5]) (fun q=>rfl) rfl (fun q q=>rfl) rfl (by decide)).pp
end
noncomputable def VY:List Sh:=[.func,.func,.bi "claim.caller" 0]
noncomputable def Cx:List Sh:=[.whil,.func,.func,.bi "claim.caller" 0]
noncomputable def GK(nl m:Nat):AA:=Vv [nl,m] (fun x=>PySem.W.Fast.tw8938917530802602619 (.ref (A2 x nl)) (.ref (A2 x m)) (.ref (A2 x nl))) (fun x=>Xg false (.ref (A2 x nl)) (.ref (A2 x m)) (.ref (A2 x nl)))
theorem ES{p:Program}{w:World}{kt:KT}{nl m:Nat}(h:nl≠m):(GK nl m).qQ p w kt:=Kn fun x s D hk=>by
 have ne:=IX D (i:=nl) (j:=m) (hk nl (by simp)) (hk m (by simp)) h
 rw [LU]
 have:Builtin.List.listSameRef (.ref (A2 x nl)) (.ref (A2 x m))=false:=by
  show (A2 x nl==A2 x m)=false
  simpa using ne
 rw [this]
noncomputable def Wi:Bool→Nat→Str
 | false,0=>"a" | false,1=>"b'" | false,2=>"c\"" | false,_=>"d e"
 | true,0=>"\"c" | true,1=>"'b" | true,2=>"a" | true,_=>"e d"
noncomputable def T4(x:Nat×Nat):List (Nat×Nat)→List (Nat×Nat)
 | []=>[x]
 | y::ys=>bif Nat.ble x.1 y.1 then x::y::ys else y::T4 x ys
def Lv(l:List (Nat×Nat)):List Value:=(l.foldr T4 []).map fun x=>.ref x.2
def Vg(f:Bool)(c:Nat)(k:Int):Obj:=AV (.seq #[.str (Wi f c) 0,.int k 0] 0)
noncomputable def FN:List Sh:=[.func,.func,.bi "claim.caller" 0]
noncomputable def kh:List (Nat×Nat×Nat)→Nat
 | []=>0
 | _=>2
def Q8(P:Params)(aR:Nat)(f:Bool)(q:List (Nat×Nat×Nat)):Spec:=⟨.call (.builtin "sorted") ⟨[.ref aR],[]⟩,aR::q.map (·.2.2),A0 (.seq ⟨q.map fun x=>.ref x.2.2⟩ q.length)::q.map (fun x=>Vg f x.1 (x.2.1:Nat)),FN,fun A=>.fin (.done (.ret (.ref (A 0)))),fun z=>A0 (.seq ⟨q.map fun x=>.ref x.2.2⟩ q.length)::q.map (fun x=>Vg f x.1 (x.2.1:Nat)),fun z=>[A0 (.seq ⟨Lv (q.map fun x=>(x.1,x.2.2))⟩ (kh q))]⟩
def m6(n:Nat):Nat→List Nat
 | 9 | 24=>hD 6 10 27927015
 | 18=>hD 6 8 782295
 | 30=>hD 7 12 9475177988
 | 33=>hD 6 12 1357912023
 | 39 | 54=>hD 7 14 369301914551
 | 45 | 108=>hD 7 12 5520524502
 | 57 | 120=>hD 7 14 272412904144
 | 75=>hD 7 10 192431788
 | 78=>hD 7 14 462321939152
 | 99 | 114=>hD 7 14 365347261065
 | 135 | 198=>hD 7 16 13350168702762
 | 141 | 156=>hD 7 14 365432928745
 | 147=>hD 7 10 114200005
 | 177 | 180=>hD 7 14 462236271472
 | 201 | 216=>hD 7 16 18097730212705
 | 210=>hD 7 14 270443013298
 | 225=>hD 7 14 464221034112
 | _=>(List.range (n-1)).flatMap fun i=>[i+3,i+2]
def eY(L:List Nat):List Nat:=
 let n:=L.length
 [1000000,1,1]++List.replicate 5 (n+2)++List.replicate 6 (n+3)++(bif Nat.ble 2 n then ((List.range n).flatMap fun i=>[i+2,i+2])++m6 n ((L.map fun c=>L.countP fun d=>Nat.blt d c).foldl (fun a c=>a*4+c) 0) else [])++List.replicate 4 (n+3)
noncomputable def Si:Nat→List (List Nat)
 | 0=>[[]]
 | n+1=>[]::(List.range 4).flatMap fun c=>(Si n).map (c::·)
theorem J6:∀ n (L:List Nat),L.length≤n→(∀ c∈L,c < 4)→L∈Si n
 | 0,[],_,_=>.head _
 | _+1,[],_,_=>.head _
 | n+1,c::L,h,k=>.tail _ (List.mem_flatMap.mpr ⟨c,List.mem_range.mpr (k c (.head _)),List.mem_map_of_mem (J6 n L (Nat.le_of_succ_le_succ h) fun d m=>k d (.tail _ m))⟩)
noncomputable def Z5:List Nat→Bool
 | []=>true
 | c::L=>L.all (fun d=>!Nat.beq c d)&&Z5 L
theorem NQ:∀ L:List Nat,L.Nodup→Z5 L=true
 | [],_=>rfl
 | c::L,h=>by
  have h:=List.nodup_cons.mp h
  simp only [Z5,NQ L h.2,Bool.and_true,List.all_eq_true]
  intro d m
  cases e:Nat.beq c d with
  | false=>rfl
  | true=>exact absurd (Nat.eq_of_beq_eq_true e ▸ m) h.1
noncomputable def qL(ka:Nat→Nat×Nat)(L:List Nat):List (Nat×Nat×Nat):=L.zipIdx.map fun x=>(x.1,ka x.2)
noncomputable def m8(aR:Nat)(f:Bool)(ka:Nat→Nat×Nat)(L:List Nat):=Mq w b b2 (fun q=>Q8 w.2 aR f (qL ka L)) (fun q=>Af [GK (L.length+1) 0]) 1 (fun q q=>[]) [L.length+2] [] (eY L) 1000000 [] 1
noncomputable def m7(aR:Nat)(f:Bool)(ka:Nat→Nat×Nat)(L:List Nat):=Mp w b b2 (fun q=>Q8 w.2 aR f (qL ka L)) (fun q=>(fun q=>Q8 w.2 aR f (qL ka L))) (fun q=>Af [GK (L.length+1) 0]) 1 (fun q q=>[]) [L.length+2] [] (eY L) 1000000 [] 1
theorem Qz(aR:Nat)(f:Bool)(ka:Nat→Nat×Nat):((Si 4).filter Z5).map (m8 w b b2 aR f ka)=((Si 4).filter Z5).map (m7 w b b2 aR f ka):=by
 cases f<;>cases b<;>kernel_rfl
theorem ZC(q:List (Nat×Nat×Nat)):q=qL (fun i=>(q.getD i (0,0,0)).2) (q.map (·.1)):=by
 apply List.ext_getElem
 ·simp [qL]
 ·intro i h1 h2
  simp [qL,h1]
theorem Vb(aR:Nat)(f:Bool)(q:List (Nat×Nat×Nat))(h4:q.length≤4)(oX:∀ c∈q.map (·.1),c < 4)(qH:(q.map (·.1)).Nodup)(I:Lp→Prop):(Q8 w.2 aR f q).nP (wf w b b2) (A3 FN) I I:=by
 have m:=List.mem_filter.mpr ⟨J6 4 (q.map (·.1)) (by rw [List.length_map]; exact h4) oX,NQ _ qH⟩
 have k:=fun b=>List.map_inj_left.mp (Qz w b b2 aR f (fun i=>(q.getD i (0,0,0)).2)) _ m
 rw [ZC q]
 generalize (fun i=>(q.getD i (0,0,0)).2)=ka at k
 generalize q.map (·.1)=L at k
 exact BQ (Af [GK (L.length+1) 0]) 1 [L.length+2] (eY L) 1000000 [] 1 (fun z he=>.note (ES (by lia)) fun z z z=>.nh he rfl) (Prod.ext (k false) (k true)) rfl (by simp [Q8,qL]) (fun z=>by simp [Q8,qL]) (by simp [Q8,qL]) (by simp)
def Ia(aR:Nat)(z z2:Data):Spec:=⟨.call (.builtin "sorted") ⟨[.ref aR],[]⟩,[aR],[A0 z],FN,fun A=>.fin (.done (.ret (.ref (A 0)))),fun q=>[A0 z],fun q=>[A0 z2]⟩
def Zf(z:Data)(m:Nat):AA:=Rj (fun q=>FN) [m] [true] [true] (fun x=>Ia (A2 x m) z .plain) (fun x=>Ia (A2 x m) z)
variable{w b b2}
theorem IA{z:Data}{m:Nat}{Q:Lp→Prop}{J:Data→Lp→Prop}(h:∀ aR:Nat,Spec.nX (Ia aR z) (fun z2 q P=>J z2 P) (Ia aR z .plain) (wf w b b2) (A3 FN) Q):(Zf z m).pP pw (wf w b b2) (A4 w.2) Q (fun u q=>J (eD (u.d 1))):=
 (I6 (w:=wf w b b2) (Sf:=fun q=>A3 FN) (ss:=fun q=>FN) (tr:=[m]) (fl:=[true]) (fn:=[true]) (S:=fun x=>Ia (A2 x m) z .plain) (F0:=fun x=>Ia (A2 x m) z) (O:=fun q z2 q P=>J z2 P) (fun q=>h _) (fun q q=>⟨rfl,rfl⟩) (fun q q q q q=>rfl) (fun q q q=>rfl) (fun q q q q q=>rfl) (fun x=>Ac (by intro h; cases h)) (by simp) (fun q=>⟨rfl,rfl,fun q q=>rfl⟩) (fun q q=>rfl)).mono (fun q h=>h) (fun u x P _ ⟨z,_,ok,h⟩=>by
  have e:eD (u.d 1)=z:=ok.1
  rw [e]; exact h)
def Yt(P:Params)(aI nQ fr nT nW aN nu:Nat)(X:Str)(ng DN DI:Data):Spec:=
 ⟨Ll P aI fr nT nW,[aI,nQ,fr,aN],[AW nQ 0,A0 ng,C3 (.dict ⟨VK P nQ aN⟩ 2),A0 (.seq #[] 0)],B1,fun q=>.fin (.done .next),fun q=>[Up DI,A0 ng,C3 (.dict ⟨Mx P nQ aN nu X⟩ 4),A0 DN],fun q=>[]⟩
def gK(P:Params)(nQ nu:Nat)(X:Str)(ng DN DI:Data)(mI mR mF mE mN:Nat):AA:=B6 (fun q=>B1) [mI,0,mR,mN] [true,true,false,true] [] (fun x=>Yt P (A2 x mI) nQ (A2 x mR) (A2 x mF) (A2 x mE) (A2 x mN) nu X ng DN DI)
theorem Nu{nQ nu:Nat}{X:Str}{ng DN DI:Data}{mI mR mF mE mN:Nat}{I O:Lp→Prop}(h:∀ aI fr nT nW aN:Nat,(Yt w.2 aI nQ fr nT nW aN nu X ng DN DI).nP (wf w b b2) (A3 B1) I O)(nd:[mI,0,mR,mN].Nodup):(gK w.2 nQ nu X ng DN DI mI mR mF mE mN).oB pw (wf w b b2) (A4 w.2) I O:=
 AF (w:=wf w b b2) (Sf:=fun q=>A3 B1) (fun q=>h _ _ _ _ _) (fun q=>Ac (by intro h; cases h)) nd (fun q=>⟨rfl,rfl,fun q=>rfl⟩) (fun q q=>rfl)
def Mh(P:Params)(nZ fr nQ aN nY nT nW nu m:Nat)(X0 X1:Str)(T:Int)(ng DN DE DF z:Data):Spec:=
 ⟨Mi P nZ fr nT nW,[nZ,fr,nQ,aN,nY,nT,nW],[B2 0 m 1,C3 (.dict ⟨QH P nQ aN nu X0 nY⟩ 5),A0 ng,A0 DN,A0 (.seq #[] 0),Y8 (.cell none),AH aN],B1,fun q=>.fin (.done .next),
  fun A=>[B2 m 0 1,C3 (.dict ⟨Fu P nQ aN nu X1 nY T⟩ 6),A0 ng,A0 DN,A0 z,AH (A 1),AH (A 0)],fun q=>[A0 DE,A0 DF]⟩
def gJ(P:Params)(nQ nu m:Nat)(X0 X1:Str)(T:Int)(ng DN DE DF:Data)(mI mR mN mO mF mE:Nat):AA:=Jx (fun q=>B1) [mI,mR,0,mN,mO,mF,mE] [false,false,true,true,true,false,false] [false,true] (fun x=>Mh P (A2 x mI) (A2 x mR) nQ (A2 x mN) (A2 x mO) (A2 x mF) (A2 x mE) nu m X0 X1 T ng DN DE DF .plain) (fun x=>Mh P (A2 x mI) (A2 x mR) nQ (A2 x mN) (A2 x mO) (A2 x mF) (A2 x mE) nu m X0 X1 T ng DN DE DF)
theorem Nt{nQ nu m:Nat}{X0 X1:Str}{T:Int}{ng DN DE DF:Data}{mI mR mN mO mF mE:Nat}{I:Lp→Prop}{Q:Data→Lp→Prop}(h:∀ nZ fr aN nY nT nW:Nat,Spec.nX (Mh w.2 nZ fr nQ aN nY nT nW nu m X0 X1 T ng DN DE DF) (fun z q P=>Q z P) (Mh w.2 nZ fr nQ aN nY nT nW nu m X0 X1 T ng DN DE DF .plain) (wf w b b2) (A3 B1) I)(nd:[mI,mR,0,mN,mO,mF,mE].Nodup):(gJ w.2 nQ nu m X0 X1 T ng DN DE DF mI mR mN mO mF mE).pP pw (wf w b b2) (A4 w.2) I (fun u q=>Q (eD (u.d 8))):=
 (Dh (w:=wf w b b2) (Sf:=fun q=>A3 B1) (ss:=fun q=>B1) (tr:=[mI,mR,0,mN,mO,mF,mE]) (fl:=[false,false,true,true,true,false,false]) (fn:=[false,true]) (S:=fun x=>Mh w.2 (A2 x mI) (A2 x mR) nQ (A2 x mN) (A2 x mO) (A2 x mF) (A2 x mE) nu m X0 X1 T ng DN DE DF .plain) (F0:=fun x=>Mh w.2 (A2 x mI) (A2 x mR) nQ (A2 x mN) (A2 x mO) (A2 x mF) (A2 x mE) nu m X0 X1 T ng DN DE DF) (O:=fun q z q P=>Q z P) (fun q=>h _ _ _ _ _ _) (fun q q=>⟨rfl,rfl,rfl⟩) (fun q q q q q=>rfl) (fun x=>Ac (by intro h; cases h)) nd (fun q=>⟨rfl,rfl,fun q q=>rfl⟩) (fun q q=>rfl)).mono (fun q h=>h) (fun u x P _ ⟨z,ok,h⟩=>by
  have e:eD (u.d 8)=z:=ok.2.2.1
  rw [e]; exact h)
theorem Ir(m:Nat):Builtin.Range.rangeSize 0 (m:Int) 1=(m:Int):=by
 unfold Builtin.Range.rangeSize
 rw [if_pos (by lia)]
 split
 ·rw [Int.ediv_one]; lia
 ·lia
theorem Kg(m:Nat)(h:m≤1000):(Builtin.Range.rangeFitsLong 0&&Builtin.Range.rangeFitsLong (m:Int)&&Builtin.Range.rangeFitsLong 1&&Builtin.Range.rangeFitsLong (m:Int)&&((m:Int)==0 || if (1:Int) > 0 then Builtin.Range.rangeFitsLong ((m:Int)+(1-1)) else Builtin.Range.rangeFitsLong ((m:Int)+(1+1))))=true:=by
 unfold Builtin.Range.rangeFitsLong
 simp
 lia
def cE(P:Params)(nQ:Nat)(nu m eE:Nat)(X0 X1:Str)(T:Int)(ng tF qS o6 DN sW sV DI DF Dz pW:Data):Spec:=⟨.call (.ref 940) ⟨[.ref nQ],[]⟩,[nQ],[A0 ng],[.func,.bi "claim.caller" 0],fun A=>.fin (.done (.ret (.ref (A 0)))),fun A=>[A0 o6],fun A=>[AV (.seq #[.bool true,.ref (A 1)] 0),A0 pW]⟩
variable(w b b2)
theorem QP(nQ:Nat)(nu m eE:Nat)(X0 X1:Str)(T:Int)(ng qS o6 DN DI DF:Data)(I:Lp→Prop)(Q J:Data→Lp→Prop)(eP:o6=ng)(ns:List Value)(en:Nat)(hN:DN=.seq ⟨ns⟩ en)(rC:(ns.length:Int)=m)(hm:m≤1000)(rA:∀ aI fr nT nW aN:Nat,(Yt w.2 aI nQ fr nT nW aN nu X0 ng DN DI).nP (wf w b b2) (A3 B1) I I)(qk:∀ nZ fr aN nY nT nW:Nat,Spec.nX (Mh w.2 nZ fr nQ aN nY nT nW nu m X0 X1 T ng DN (.seq #[] eE) DF) (fun z y P=>Q z P) (Mh w.2 nZ fr nQ aN nY nT nW nu m X0 X1 T ng DN (.seq #[] eE) DF .plain) (wf w b b2) (A3 B1) I)(q6:∀ (z:Data) (aR:Nat),Spec.nX (Ia aR z) (fun z2 y P=>J z2 P) (Ia aR z .plain) (wf w b b2) (A3 FN) (Q z)):Spec.nX (fun (pW:Data)=>cE w.2 nQ nu m eE X0 X1 T ng .plain qS o6 DN .plain .plain DI DF .plain pW) (fun (pW:Data) A P'=>(True)∧(J pW) P') (cE w.2 nQ nu m eE X0 X1 T ng .plain qS o6 DN .plain .plain DI DF .plain .plain) (wf w b b2) (A3 ([.func,.bi "claim.caller" 0])) (I):=by
 refine Yb (K0:=fun (pW:Data)=>J pW) _ (fun (pW:Data) A=>True) (fun D=>cE w.2 nQ nu m eE X0 X1 T (gD D 0) .plain qS o6 DN .plain .plain DI DF .plain .plain) (fun D l=>cE w.2 nQ nu m eE X0 X1 T (gD D 0) (ud l 4 2) qS (ud l 1 4) DN (ud l 4 6) (ud l 4 6) DI DF (ud l 1 8) (ud l 0 1)) (fun D=>[fun y=>gK w.2 nQ nu X0 (gD D 0) DN DI 5 1 3 2 4,fun l=>GG 4 (ud l 0 6) m,fun y=>Rt 7 0 m 1 m,fun l=>gJ w.2 nQ nu m X0 X1 T (ud l 2 2) (ud l 2 6) (.seq #[] eE) DF 8 1 4 6 3 2,fun l=>Zf (ud l 0 8) 6]) 5 (fun D l=>[]) [13,12] [true] (hD 14 44 38507530016596482500140413535070739511407066252088) 1 [0,3,0,1] 1 [ng] (fun E0 ke=>?_)
 exact .cons (Nu rA (by decide)) fun u0 y g0=>.q (Ca (by (try simp only [un,ud,BL]); rw [show eD (u0.d 6)=DN from g0.1.2.2.1]; exact hN) rC (by lia)) fun y y y=>.cons (IB (Ir m) (Kg m hm)) fun y y y=>.oG (by (try simp only [un,ud,BL]); rw [show eD (u0.d 2)=ng from g0.1.2.1,show eD (u0.d 6)=DN from g0.1.2.2.1]; exact Nt qk (by decide)) fun u3 y g3=>.oG (IA (fun y=>q6 _ _)) fun u4 y y=>.nil fun P hP=>ke _ _ ⟨eD (u4.d 1),@id (eD (u3.d 4)=o6) ((let ⟨z,h⟩:=g3.1; h.1.trans (g0.1.2.1.trans eP.symm))) ▸ rfl,hP,fun y y=>trivial⟩
def cF(P:Params)(nQ:Nat)(XE:Str)(qa:List Value)(nu m eE:Nat)(X0 X1:Str)(T:Int)(ng tF qS o6 DN sW sV DI DF Dz pW:Data):Spec:=⟨.call (.ref 940) ⟨[.ref nQ],[]⟩,[nQ],[A0 ng],[.func,.bi "claim.caller" 0],fun A=>.fin (.done (.ret (.ref (A 0)))),fun A=>[A0 o6],fun A=>[AV (.seq #[.bool false,.ref (A 1)] 0),A0 pW]⟩
theorem QQ(nQ:Nat)(XE:Str)(qa:List Value)(nu m eE:Nat)(X0 X1:Str)(T:Int)(ng qS o6 DN DI DF:Data)(I:Lp→Prop)(Q J:Data→Lp→Prop)(eP:o6=ng)(ns:List Value)(en:Nat)(hN:DN=.seq ⟨ns⟩ en)(rC:(ns.length:Int)=m)(hm:m≤1000)(rA:∀ aI fr nT nW aN:Nat,(Yt w.2 aI nQ fr nT nW aN nu X0 ng DN DI).nP (wf w b b2) (A3 B1) I I)(qk:∀ nZ fr aN nY nT nW:Nat,Spec.nX (Mh w.2 nZ fr nQ aN nY nT nW nu m X0 X1 T ng DN (.seq ⟨.str XE 0::qa⟩ eE) DF) (fun z y P=>Q z P) (Mh w.2 nZ fr nQ aN nY nT nW nu m X0 X1 T ng DN (.seq ⟨.str XE 0::qa⟩ eE) DF .plain) (wf w b b2) (A3 B1) I)(q6:∀ (z:Data) (aR:Nat),Spec.nX (Ia aR z) (fun z2 y P=>J z2 P) (Ia aR z .plain) (wf w b b2) (A3 FN) (Q z)):Spec.nX (fun (pW:Data)=>cF w.2 nQ XE qa nu m eE X0 X1 T ng .plain qS o6 DN .plain .plain DI DF .plain pW) (fun (pW:Data) A P'=>(True)∧(J pW) P') (cF w.2 nQ XE qa nu m eE X0 X1 T ng .plain qS o6 DN .plain .plain DI DF .plain .plain) (wf w b b2) (A3 ([.func,.bi "claim.caller" 0])) (I):=by
 refine Yb (K0:=fun (pW:Data)=>J pW) _ (fun (pW:Data) A=>True) (fun D=>cF w.2 nQ XE qa nu m eE X0 X1 T (gD D 0) .plain qS o6 DN .plain .plain DI DF .plain .plain) (fun D l=>cF w.2 nQ XE qa nu m eE X0 X1 T (gD D 0) (ud l 4 2) qS (ud l 1 4) DN (ud l 4 6) (ud l 4 6) DI DF (ud l 1 8) (ud l 0 1)) (fun D=>[fun y=>gK w.2 nQ nu X0 (gD D 0) DN DI 5 1 3 2 4,fun l=>GG 4 (ud l 0 6) m,fun y=>Rt 7 0 m 1 m,fun l=>gJ w.2 nQ nu m X0 X1 T (ud l 2 2) (ud l 2 6) (.seq ⟨.str XE 0::qa⟩ eE) DF 8 1 4 6 3 2,fun l=>Zf (ud l 0 8) 6]) 5 (fun D l=>[]) [13,12] [true] (hD 14 40 1002382592561618811392021111606804536006574904) 1 [0,3,0,1] 1 [ng] (fun E0 ke=>?_)
 exact .cons (Nu rA (by decide)) fun u0 y g0=>.q (Ca (by (try simp only [un,ud,BL]); rw [show eD (u0.d 6)=DN from g0.1.2.2.1]; exact hN) rC (by lia)) fun y y y=>.cons (IB (Ir m) (Kg m hm)) fun y y y=>.oG (by (try simp only [un,ud,BL]); rw [show eD (u0.d 2)=ng from g0.1.2.1,show eD (u0.d 6)=DN from g0.1.2.2.1]; exact Nt qk (by decide)) fun u3 y g3=>.oG (IA (fun y=>q6 _ _)) fun u4 y y=>.nil fun P hP=>ke _ _ ⟨eD (u4.d 1),@id (eD (u3.d 4)=o6) ((let ⟨z,h⟩:=g3.1; h.1.trans (g0.1.2.1.trans eP.symm))) ▸ rfl,hP,fun y y=>trivial⟩
def lW(r:Bool)(P:Params)(aS aN aT aU aE aB nS:Nat):Obj:=Xd r (.dict ⟨[kE P "self" (.ref aS),kE P "n2i" (.ref aN),kE P "stack" (.ref aT),kE P "itstack" (.ref aU),kE P "seen" (.ref aE),kE P "node2stacki" (.ref aB)]⟩ 6) (.ref 181) (.ref nS) (.ref 182)
def jS(r:Bool)(P:Params)(aS aN aT aU aE aB nS:Nat):Option Str→Obj
 | none=>lW r P aS aN aT aU aE aB nS
 | some X=>FY r P aS aN aT aU aE aB nS X
noncomputable def MT(e:End):Option Data→(Nat→Nat)→End
 | none,_=>e
 | some _,A=>.fin (.done (.ret (.ref (A 0))))
def Wf:Option Data→List Obj
 | none=>[]
 | some D=>[A0 D]
noncomputable def Xf{α:Type}(x:α):Option Data→List α
 | none=>[]
 | some _=>[x]
theorem PR{x:Nat}{rd:Option Data}:(Xf x rd).Nodup:=by cases rd<;>simp [Xf]
def Ua(P:Params)(rd:Option Data)(r r2:Bool)(aS aN aT aU aB nS A6 nR fr aE:Nat)(X Y:Str)(DN DE oc:Data):Spec:=
 ⟨QI P fr,[fr,aE,aN],[FY r P aS aN aT aU aE aB nS X,Bp DE,A7 DN],Hu P fr nS A6 nR,MT (.fin (.done .next)) rd,fun q=>[FY r2 P aS aN aT aU aE aB nS Y,Bp oc,A7 DN],fun q=>Wf rd⟩
def ko(P:Params)(rd:Option Data)(r r2:Bool)(aS aN aT aU aB nS A6 nR fr aE:Nat)(X Y:Str)(DN DE:Data)(pE:Data→Prop):AA:=Nk (fun q=>Hu P fr nS A6 nR) [2,3,1] [false,true,true] (Xf true rd) (fun q=>Ua P rd r r2 aS aN aT aU aB nS A6 nR fr aE X Y DN DE .plain) (fun q=>Ua P rd r r2 aS aN aT aU aB nS A6 nR fr aE X Y DN DE) (fun z q=>pE z)
theorem Vy{w:World}{b b2:Bool}{rd:Option Data}{r r2:Bool}{aS aN aT aU aB nS A6 nR fr aE:Nat}{X Y:Str}{DN DE:Data}{pE:Data→Prop}{I O:Lp→Prop}(h:Spec.oC (Ua w.2 rd r r2 aS aN aT aU aB nS A6 nR fr aE X Y DN DE) (fun z q=>pE z) (Ua w.2 rd r r2 aS aN aT aU aB nS A6 nR fr aE X Y DN DE .plain) (wf w b b2) (A3 (Hu w.2 fr nS A6 nR)) I O):(ko w.2 rd r r2 aS aN aT aU aB nS A6 nR fr aE X Y DN DE pE).oB pw (wf w b b2) (A4 w.2) I O:=
 Fg (w:=wf w b b2) (Sf:=fun q=>A3 (Hu w.2 fr nS A6 nR)) (fun q=>h) (fun q q=>⟨rfl,rfl,rfl⟩) (fun q q q q q=>rfl) (fun q=>Ac (by intro h; cases h)) (by decide) (fun q=>⟨rfl,rfl,fun q q=>rfl⟩) (fun q q=>by cases rd<;>rfl)
def ff(P:Params)(aI aN fr aE:Nat)(rd:Option Data)(r r2:Bool)(o:Option Str)(aS aT aU aB nS A6 nR i ln:Nat)(X Y:Str)(v:Value)(N:List (Str×Value))(en:Nat)(pE:Data→Prop)(DN oE DE oc:Data):Spec:=⟨Es P aI fr,[aI,aN,fr,aE],[Cu aN i ln en,A7 DN,jS r P aS aN aT aU aE aB nS o,Bp DE],HE P fr nS A6 nR,fun A=>MT (.fin (.again (Es P aI fr))) rd A,fun A=>[Cu aN ((i:Int)+1) ln en,A7 oE,FY r2 P aS aN aT aU aE aB nS Y,Bp oc],fun A=>Wf rd⟩
theorem PU(aI aN fr aE:Nat)(rd:Option Data)(r r2:Bool)(o:Option Str)(aS aT aU aB nS A6 nR i ln:Nat)(X Y:Str)(v:Value)(N:List (Str×Value))(en:Nat)(pE:Data→Prop)(DN oE DE:Data)(I O:Lp→Prop)(Ss:List Str)(hN:DN=A8 w.2 N en)(q8:N.length=ln)(hi:N[i]?=some (X,v))(hE:C6 (wf w b b2) Ss DE)(ro:Ss.length < 1000)(hX:X∉Ss)(eN:oE=DN)(qT:Spec.oC (Ua w.2 rd r r2 aS aN aT aU aB nS A6 nR fr aE X Y DN DE) (fun z y=>pE z) (Ua w.2 rd r r2 aS aN aT aU aB nS A6 nR fr aE X Y DN DE .plain) (wf w b b2) (A3 (Hu w.2 fr nS A6 nR)) I O):Spec.oC (fun (oc:Data)=>ff w.2 aI aN fr aE rd r r2 o aS aT aU aB nS A6 nR i ln X Y v N en pE DN oE DE oc) (fun (oc:Data) A=>pE oc) (ff w.2 aI aN fr aE rd r r2 o aS aT aU aB nS A6 nR i ln X Y v N en pE DN oE DE .plain) (wf w b b2) (A3 (HE w.2 fr nS A6 nR)) (I) (O):=by
 refine NO ((Cs.oo o ⟨#[]⟩).pp ((Cs.bb r).pp ((Cs.bb r2).pp (Cs.oo rd .plain)))) (fun z D=>ff w.2 aI aN fr aE z.2.2.2 z.2.1 z.2.2.1 z.1 aS aT aU aB nS A6 nR i ln X Y v N en pE (gD D 0) oE (gD D 1) .plain) (fun z D l=>ff w.2 aI aN fr aE (z.2.2.2.map fun y=>ud l 0 1) z.2.1 z.2.2.1 z.1 aS aT aU aB nS A6 nR i ln X Y v N en pE (gD D 0) (ud l 0 4) (gD D 1) (ud l 0 2)) (fun z D=>(Af [GI 0 1 i ln en (gD D 0) (.str X 0),HS 3 (gD D 1) X false,ko w.2 z.2.2.2 z.2.1 z.2.2.1 aS aN aT aU aB nS A6 nR fr aE X Y (gD D 0) (gD D 1) pE])) 3 (fun z D l=>[]) (fun z=>(Xf 4 z.2.2.2)) [false,true,false,true] [1,3,3,3,3,4,4] 0 [0,0] 0 [DN,DE] (fun E0 ke=>?_) (h2:=by cases rd<;>rfl) (h3:=PR)
 refine .q ((by subst q8; exact FA (w:=wf w b b2) hN hi)) fun y y y=>.q (D8 (w:=wf w b b2) hE (by simpa using hX) (by have:scanBound=4096:=rfl; lia)) fun y y y=>.cons (Vy qT) fun u2 y g2=>.nil fun P hP=>ke _ _ ⟨eD (u2.d 2),@id (eD (u2.d 4)=oE) ((let ⟨z,_,h⟩:=g2.1; h.2.1).trans eN.symm) ▸ (by
  cases rd with
  | none=>rfl
  | some D=>exact @id (eD (u2.d 1)=D) g2.2.1 ▸ rfl),hP,fun A a=>?_⟩
 try dsimp only
 obtain ⟨z,hz,hz2,_⟩:=g2.1
 have hz2:eD (u2.d 2)=z:=hz2
 rw [hz2]; exact hz
def jQ(P:Params)(aI aN fr aE:Nat)(r:Bool)(o:Option Str)(aS aT aU aB nS A6 nR i ln:Nat)(X:Str)(v:Value)(N:List (Str×Value))(en:Nat)(DN DE:Data):Spec:=⟨Es P aI fr,[aI,aN,fr,aE],[Cu aN i ln en,A7 DN,jS r P aS aN aT aU aE aB nS o,Bp DE],HE P fr nS A6 nR,fun A=>.fin (.again (Es P aI fr)),fun A=>[Cu aN ((i:Int)+1) ln en,A7 DN,FY r P aS aN aT aU aE aB nS X,Bp DE],fun A=>[]⟩
theorem Tc(aI aN fr aE:Nat)(r:Bool)(o:Option Str)(aS aT aU aB nS A6 nR i ln:Nat)(X:Str)(v:Value)(N:List (Str×Value))(en:Nat)(DN DE:Data)(Ss:List Str)(hN:DN=A8 w.2 N en)(q8:N.length=ln)(hi:N[i]?=some (X,v))(hE:C6 (wf w b b2) Ss DE)(ro:Ss.length < 1000)(hX:X∈Ss)(I:Lp→Prop):(jQ w.2 aI aN fr aE r o aS aT aU aB nS A6 nR i ln X v N en DN DE).nP (wf w b b2) (A3 (HE w.2 fr nS A6 nR)) (I) (I):=by
 refine BZ ((Cs.oo o ⟨#[]⟩).pp (Cs.bb r)) (fun z D=>jQ w.2 aI aN fr aE z.2 z.1 aS aT aU aB nS A6 nR i ln X v N en (gD D 0) (gD D 1)) (fun z D l=>jQ w.2 aI aN fr aE z.2 z.1 aS aT aU aB nS A6 nR i ln X v N en (gD D 0) (gD D 1)) (fun z D=>(Af [GI 0 1 i ln en (gD D 0) (.str X 0),HS 3 (gD D 1) X true])) 2 (fun z=>[]) [false,true,false,true] [1,3,3,3,3,4,4] 0 [0] 0 [DN,DE] (fun E0 ke=>?_)
 exact .q ((by subst q8; exact FA (w:=wf w b b2) hN hi)) fun y y y=>.q (D8 (w:=wf w b b2) hE (by simpa using hX) (by have:scanBound=4096:=rfl; lia)) fun y y y=>.nh ke rfl
def jR(P:Params)(aI aN:Nat)(fr nS A6 nR i ln:Nat)(N:List (Str×Value))(en:Nat)(DN oE:Data):Spec:=⟨Es P aI fr,[aI,aN],[Cu aN i ln en,A7 DN],HE P fr nS A6 nR,fun A=>.fin (.done .next),fun A=>[LZ i ln en,A7 oE],fun A=>[]⟩
theorem Td(aI aN:Nat)(fr nS A6 nR i ln:Nat)(N:List (Str×Value))(en:Nat)(DN oE:Data)(hN:DN=A8 w.2 N en)(q8:N.length=ln)(hi:N.length≤i)(eN:oE=DN)(I:Lp→Prop):(jR w.2 aI aN fr nS A6 nR i ln N en DN oE).nP (wf w b b2) (A3 (HE w.2 fr nS A6 nR)) (I) (I):=by
 refine B8 (fun D=>jR w.2 aI aN fr nS A6 nR i ln N en (gD D 0) oE) (fun D l=>jR w.2 aI aN fr nS A6 nR i ln N en (gD D 0) (ud l 0 2)) (fun D=>(Af [Bh "dict_keyiterator.__next__" 0 1 (.for_::HE w.2 fr nS A6 nR) (fun X=>Cu (A2 X 1) i ln en) (LZ i ln en) (A7 (gD D 0))])) 1 [] [false,true] [1,4] 0 [] 1 [DN] (fun E0 ke=>?_)
 exact .cons (by subst q8; exact M9 (w:=wf w b b2) (by decide) hN hi (by simp [gD]) (fun q=>rfl)) fun u0 q g0=>.nh ke (@id (eD (u0.d 2)=oE) (g0.1.1.trans eN.symm) ▸ rfl)
noncomputable def lM(D:Data):Obj:={ cls:=.type "dict_keyiterator",data:=D }
def JI(P:Params)(rd:Option Data)(r2:Bool)(aS nS A6 nR aN aI fr aT aU aE aB len en:Nat)(DN DE:Data)(z:Nat→Data):Spec:=
 ⟨Es P aI fr,[aI,aN,fr,aT,aU,aE,aB],[Cu aN 0 len en,A7 DN,lW false P aS aN aT aU aE aB nS,A0 (.seq #[] 0),A0 (.seq #[] 0),Bp DE,AR [] 0],HE P fr nS A6 nR,MT (.fin (.done .next)) rd,
  fun q=>[lM (z 0),A7 DN,Xd r2 (z 1) (.ref 181) (.ref nS) (.ref 182),A0 (z 2),A0 (z 3),Bp (z 4),A7 (z 5)],fun q=>Wf rd⟩
noncomputable def z0:Nat→Data:=fun q=>.plain
def lA(P:Params)(rd:Option Data)(r2:Bool)(aS nS A6 nR aN len en:Nat)(DN DE:Data):AA:=Nk (fun x=>HE P (A2 x 3) nS A6 nR) [8,2,3,4,5,6,7] [true,true,true,true,true,true,true] (Xf true rd) (fun x=>JI P rd r2 aS nS A6 nR aN (A2 x 8) (A2 x 3) (A2 x 4) (A2 x 5) (A2 x 6) (A2 x 7) len en DN DE z0) (fun x=>JI P rd r2 aS nS A6 nR aN (A2 x 8) (A2 x 3) (A2 x 4) (A2 x 5) (A2 x 6) (A2 x 7) len en DN DE) (fun q q=>True)
theorem WM{w:World}{b b2:Bool}{rd:Option Data}{r2:Bool}{aS nS A6 nR aN len en:Nat}{DN DE:Data}{I O:Lp→Prop}(h:∀ aI fr aT aU aE aB:Nat,Spec.oC (JI w.2 rd r2 aS nS A6 nR aN aI fr aT aU aE aB len en DN DE) (fun q q=>True) (JI w.2 rd r2 aS nS A6 nR aN aI fr aT aU aE aB len en DN DE z0) (wf w b b2) (A3 (HE w.2 fr nS A6 nR)) I O):(lA w.2 rd r2 aS nS A6 nR aN len en DN DE).oB pw (wf w b b2) (A4 w.2) I O:=
 Fg (w:=wf w b b2) (Sf:=fun x=>A3 (HE w.2 (A2 x 3) nS A6 nR)) (fun q=>h _ _ _ _ _ _) (fun q q=>⟨rfl,rfl,rfl⟩) (fun q q q q q=>rfl) (fun x=>Ac (by intro h; cases h)) (by decide) (fun q=>⟨rfl,rfl,fun q q=>rfl⟩) (fun q q=>by cases rd<;>rfl)
def NJ(P:Params)(nS A6 nR:Nat):List Sh:=(HE P 0 nS A6 nR).tail
def fy(P:Params)(aS aD aN:Nat)(rd:Option Data)(r2:Bool)(nS A6 nR:Nat)(rn:Nat)(po nf:Int)(N:List (Str×Value))(ln en:Nat)(pS:Data→Prop)(DN oE uQ:Data):Spec:=⟨.call (.ref 182) ⟨[.ref aS],[]⟩,[aS,aD,aN],[AJ aD,AK P aN (.ref rn) po nf,A7 DN],NJ P nS A6 nR,fun A=>MT (.fin (.done (.ret .none))) rd A,fun A=>[AJ aD,AK P aN (.ref rn) po nf,A7 oE],fun A=>Wf rd⟩
theorem Xa(aS aD aN:Nat)(rd:Option Data)(r2:Bool)(nS A6 nR:Nat)(rn:Nat)(po nf:Int)(N:List (Str×Value))(ln en:Nat)(pS:Data→Prop)(DN oE:Data)(I O:Lp→Prop)(hN:DN=A8 w.2 N en)(q8:N.length=ln)(eN:oE=DN)(hp:pS=C6 (wf w b b2) [])(qu:∀ (DE:Data),C6 (wf w b b2) [] DE→∀ aI fr aT aU aE aB:Nat,Spec.oC (JI w.2 rd r2 aS nS A6 nR aN aI fr aT aU aE aB ln en DN DE) (fun y y=>True) (JI w.2 rd r2 aS nS A6 nR aN aI fr aT aU aE aB ln en DN DE z0) (wf w b b2) (A3 (HE w.2 fr nS A6 nR)) I O):(fy w.2 aS aD aN rd r2 nS A6 nR rn po nf N ln en pS DN oE .plain).nP (wf w b b2) (A3 (NJ w.2 nS A6 nR)) (I) (O):=by
 refine BZ ((Cs.bb r2).pp (Cs.oo rd .plain)) (fun z D=>fy w.2 aS aD aN z.2 z.1 nS A6 nR rn po nf N ln en pS (gD D 0) oE .plain) (fun z D l=>fy w.2 aS aD aN (z.2.map fun y=>ud l 0 1) z.1 nS A6 nR rn po nf N ln en pS (gD D 0) (ud l 0 2) (ud l 2 0)) (fun z D=>[fun y=>Ks pS,fun y=>OG 2 (gD D 0) ln en,fun l=>lA w.2 z.2 z.1 aS nS A6 nR aN ln en (gD D 0) (ud l 1 0)]) 3 (fun z=>(Xf 9 z.2)) [false,false,true] (hD 11 34 216013129974665221112085678188175747) 1 [0,0] 1 [DN] (fun E0 ke=>?_) (h2:=by cases rd<;>rfl) (h3:=PR)
 exact .q (by rw [hp]; exact Jz) fun y y g0=>.q ((by subst q8; exact MB (w:=wf w b b2) hN)) fun y y y=>.cons (WM (qu _ (by have h:=g0; rw [hp] at h; exact h rfl))) fun u2 y g2=>.nh ke (@id (eD (u2.d 2)=oE) ((let ⟨z,_,h⟩:=g2.1; h.2.1).trans eN.symm) ▸ (by
  cases rd with
  | none=>rfl
  | some D=>exact @id (eD (u2.d 1)=D) g2.2.1 ▸ rfl))
def ZY(P:Params)(aS:Nat):Data:=.dict ⟨[kE P "self" (.ref aS)]⟩ 1
def Yd(P:Params)(aI aN aA aK fr len nn o9:Nat)(DN nz:Data):Spec:=
 ⟨NI P aI aA aK fr,[aI,aN,aA,aK],[CK aN 0 len nn,A7 DN,A0 (.seq #[] 0),AR [] 0],(.func::Hw),fun q=>.fin (.done .next),
  fun q=>[JL len len nn,A7 DN,A0 nz,AR [kE P "i" (.ref o9)] 1],fun q=>[]⟩
def cS(P:Params)(f aN len nn o9:Nat)(DN nz:Data):AA:=B6 (fun q=>.func::Hw) [f+2,2,f+3,f+4] [false,true,true] [] (fun x=>Yd P (A2 x (f+2)) aN (A2 x (f+3)) (A2 x (f+4)) (A2 x f) len nn o9 DN nz)
variable{w b b2}
theorem K4{f aN len nn o9:Nat}{DN nz:Data}{I:Lp→Prop}(h:∀ aI aA aK fr:Nat,(Yd w.2 aI aN aA aK fr len nn o9 DN nz).nP (wf w b b2) (A3 (.func::Hw)) I I)(nd:[f+2,2,f+3,f+4].Nodup):(cS w.2 f aN len nn o9 DN nz).oB pw (wf w b b2) (A4 w.2) I I:=
 AF (w:=wf w b b2) (Sf:=fun q=>A3 (.func::Hw)) (fun q=>h _ _ _ _) (fun q=>Ac (by intro h; cases h)) nd (fun q=>⟨rfl,rfl,fun q=>rfl⟩) (fun q q=>rfl)
def Yl(P:Params)(rd:Option Data)(r2:Bool)(aS aD aN nS A6 nR rn:Nat)(po nf:Int)(DN:Data):Spec:=
 ⟨.call (.ref 182) ⟨[.ref aS],[]⟩,[aS,aD,aN,nS],[AJ aD,AK P aN (.ref rn) po nf,A7 DN,RM false (ZY P aS) A6],NJ P nS A6 nR,MT (.fin (.done (.ret .none))) rd,fun q=>[AJ aD,AK P aN (.ref rn) po nf,A7 DN,RM r2 (ZY P aS) A6],fun q=>Wf rd⟩
def cW(P:Params)(rd:Option Data)(f:Nat)(r2:Bool)(aS aD aN A6 nR:Nat)(po nf:Int)(DN:Data):AA:=B6 (fun x=>NJ P (A2 x f) A6 nR) [0,1,2,f] [false,false,true,false] (Xf true rd) (fun x=>Yl P rd r2 aS aD aN (A2 x f) A6 nR (A2 x (f+3)) po nf DN)
theorem K7{rd:Option Data}{f:Nat}{r2:Bool}{aS aD aN A6 nR:Nat}{po nf:Int}{DN:Data}{I O:Lp→Prop}(h:∀ nS rn:Nat,(Yl w.2 rd r2 aS aD aN nS A6 nR rn po nf DN).nP (wf w b b2) (A3 (NJ w.2 nS A6 nR)) I O)(nd:[0,1,2,f].Nodup):(cW w.2 rd f r2 aS aD aN A6 nR po nf DN).oB pw (wf w b b2) (A4 w.2) I O:=
 AF (w:=wf w b b2) (Sf:=fun x=>A3 (NJ w.2 (A2 x f) A6 nR)) (fun q=>h _ _) (fun q=>Ac (by intro h; cases h)) nd (fun q=>⟨rfl,rfl,fun q=>rfl⟩) (fun q q=>by cases rd<;>rfl)
def Ls(P:Params)(A6 nR:Nat):List Sh:=(NJ P 0 A6 nR).tail
noncomputable def ZF:Pos:=⟨71,12,71,60⟩
def vP(P:Params)(b c d:Nat):List Vw:=[JF (AS P 147 E2 b),JF (AS P 935 Cb c),JF (BO P d),Yo "claim.caller"]
theorem bj(P:Params)(b c d:Nat):Am b (vP P b c d)=some ["claim.caller"]:=by
 unfold Am vP
 rw [List.dropWhile_cons_of_neg (by simp [JF,Cr])]
 rfl
noncomputable def kx(P:Params):AA:=Iw (fun x=>Pl (.ref (A2 x 12))) 12 (fun x=>AS P 147 E2 (A2 x 5)) (fun x=>A2 x 5) [⟨5,AS P 147 E2⟩,⟨3,AS P 935 Cb⟩] (fun x=>[BO P (A2 x 4)]) [4] (fun x=>vP P (A2 x 5) (A2 x 3) (A2 x 4)) ZF ["claim.caller"]
noncomputable def Zo(P:Params)(c d:Nat):AA:=Iw (fun x=>Pl (.ref (A2 x 10))) 10 (fun x=>AS P 147 E2 (A2 x 3)) (fun x=>A2 x 3) [] (fun x=>[AS P 147 E2 (A2 x 3),AS P 935 Cb c,BO P d]) [3] (fun x=>vP P (A2 x 3) c d) ZF ["claim.caller"]
theorem W8{p:Program}{w:World}{kt:KT}{P:Params}:(kx P).qQ p w kt:=
 Dg (fun x=>Ct _) (fun x=>rfl) (by decide) (fun x=>rfl) (fun x=>List.dropWhile_cons_of_neg (by simp)) (fun x=>rfl) (fun x=>rfl) (fun x=>bj P _ _ _) (by decide)
  (fun x q hq=>by
   simp only [List.mem_cons,List.not_mem_nil,or_false] at hq
   rcases hq with rfl | rfl
   ·exact ⟨rfl,(kC P _).2.1⟩
   ·exact ⟨rfl,(kC P _).2.2⟩) (by simp only [List.map_cons,List.map_nil,List.cons_append,List.nil_append]; decide) (fun x=>.inr ⟨4,_,[],rfl,rfl,rfl⟩)
theorem S5{p:Program}{w:World}{kt:KT}{P:Params}{c d:Nat}:(Zo P c d).qQ p w kt:=
 Dg (fun x=>Ct _) (fun x=>rfl) (by decide) (fun x=>rfl) (fun x=>List.dropWhile_cons_of_neg (by simp)) (fun x=>rfl) (fun x=>rfl) (fun x=>bj P _ _ _) (by decide)
  (fun x q hq=>by simp at hq) (by simp only [List.map_nil,List.append_nil,List.nil_append]; decide) (fun x=>.inr ⟨3,_,_,rfl,rfl,rfl⟩)
def fA(P:Params)(aS aD aN:Nat)(r2:Bool)(A6 nR:Nat)(N:List (Str×Value))(nn o9:Nat)(DN sU oE nz:Data):Spec:=⟨.call (.ref 147) ⟨[.ref aS],[]⟩,[aS,aD,aN],[AJ aD,AK P aN .none 0 0,A7 DN],Ls P A6 nR,fun A=>.fin (.done (.ret .none)),fun A=>[AJ aD,AK P aN (.ref (A 0)) 0 0,A7 oE],fun A=>[A0 nz]⟩
variable(w b b2)
theorem RN(aS aD aN:Nat)(r2:Bool)(A6 nR:Nat)(N:List (Str×Value))(nn o9:Nat)(DN oE nz:Data)(I J O:Lp→Prop)(hN:DN=A8 w.2 N nn)(eN:oE=DN)(rP:∀ aI aA aK fr:Nat,(Yd w.2 aI aN aA aK fr N.length nn o9 DN nz).nP (wf w b b2) (A3 (.func::Hw)) I I)(rR:∀ nS rn:Nat,(Yl w.2 none r2 aS aD aN nS A6 nR rn 0 0 DN).nP (wf w b b2) (A3 (NJ w.2 nS A6 nR)) I O):(fA w.2 aS aD aN r2 A6 nR N nn o9 DN .plain oE nz).nP (wf w b b2) (A3 (Ls w.2 A6 nR)) (I) (O):=by
 refine BZ (Cs.bb r2) (fun z D=>fA w.2 aS aD aN z A6 nR N nn o9 (gD D 0) .plain oE nz) (fun z D l=>fA w.2 aS aD aN z A6 nR N nn o9 (gD D 0) (ud l 1 2) (ud l 0 4) (ud l 1 4)) (fun z D=>[fun y=>Kq 2 (gD D 0),fun y=>I8 4 2 (gD D 0) N.length nn,fun y=>cS w.2 3 aN N.length nn o9 (gD D 0) nz,fun l=>cW w.2 none 3 z aS aD aN A6 nR 0 0 (ud l 0 2)]) 4 (fun z=>[6]) [false,false,true] (hD 10 79 4440210000100010001422201000101010001488865533332011000100014201100010001404400) 2 [0,0,1] 1 [DN] (fun E0 ke=>?_)
 exact .q (GD (w:=wf w b b2) hN) fun y y y=>.q (En (w:=wf w b b2) hN) fun y y y=>.cons (K4 rP (by decide)) fun u2 y g2=>.cons (K7 (by (try simp only [un,ud,BL]); rw [show eD (u2.d 2)=DN from g2.1.1]; exact rR) (by decide)) fun u3 y g3=>.nh ke (@id (eD (u2.d 4)=nz) (g2.1.2.1) ▸ @id (eD (u3.d 4)=oE) ((g3.1.1.trans g2.1.1).trans eN.symm) ▸ rfl)
def Vq(P:Params)(aS aD aN:Nat)(A6 nR:Nat)(N:List (Str×Value))(nn o9 k:Nat)(DN sU oE nz DR:Data):Spec:=⟨.call (.ref 147) ⟨[.ref aS],[]⟩,[aS,aD,aN],[AJ aD,AK P aN .none 0 0,A7 DN],Ls P A6 nR,fun A=>.err (.ref (A 0)),fun A=>[AJ aD,AK P aN (.ref (A 1)) 0 0,A7 oE],fun A=>[{ cls:=.ref 110,data:=.fields #[.ref (A 3),.ref (A 2),.none,.none,.bool false,.none] },A0 nz,{ cls:=.type "traceback",data:=.fields #[.none,.ref (A 4),.none,.none,.none,.int 71 0,.int 71 0,.int 12 0,.int 60 0,sv "claim.caller",.bool false] },{ cls:=.type "tuple",data:=.seq #[sv "nodes are in a cycle",.ref (A 5)] 0 },RM true (.dict ⟨[kE P "self" (.ref aS),kE P "cycle" (.ref (A 5))]⟩ 2) A6,A0 DR]⟩
theorem Na(aS aD aN:Nat)(A6 nR:Nat)(N:List (Str×Value))(nn o9 k:Nat)(DN oE nz DR:Data)(I J O:Lp→Prop)(rs:List Value)(k er:Nat)(hN:DN=A8 w.2 N nn)(eN:oE=DN)(hR:DR=.seq ⟨rs⟩ er)(hk:rs.length=k+1)(rQ:k < 1000)(rP:∀ aI aA aK fr:Nat,(Yd w.2 aI aN aA aK fr N.length nn o9 DN nz).nP (wf w b b2) (A3 (.func::Hw)) I I)(rR:∀ nS rn:Nat,(Yl w.2 (some DR) true aS aD aN nS A6 nR rn 0 0 DN).nP (wf w b b2) (A3 (NJ w.2 nS A6 nR)) I O):(Vq w.2 aS aD aN A6 nR N nn o9 k DN .plain oE nz DR).nP (wf w b b2) (A3 (Ls w.2 A6 nR)) (I) (O):=by
 refine B8 (fun D=>Vq w.2 aS aD aN A6 nR N nn o9 k (gD D 0) .plain oE nz DR) (fun D l=>Vq w.2 aS aD aN A6 nR N nn o9 k (gD D 0) (ud l 3 2) (ud l 2 4) (ud l 3 4) (ud l 2 1)) (fun D=>[fun z=>Kq 2 (gD D 0),fun z=>I8 4 2 (gD D 0) N.length nn,fun z=>cS w.2 3 aN N.length nn o9 (gD D 0) nz,fun l=>cW w.2 (some DR) 3 true aS aD aN A6 nR 0 0 (ud l 0 2),fun l=>Dy 8 (ud l 0 1) (Int.ofNat (Nat.succ k)),fun z=>Zo w.2 A6 nR]) 6 [10,6,12,11,3,8] [false,false,true] (hD 15 132 162776512173173161629154580688738733314147532270643671253935537602226301107262023320267925219513735892263519058350445047581238328335079725536061697270301900) 2 [0,0,1,0] 1 [DN] (fun E0 ke=>?_)
 refine .q (GD (w:=wf w b b2) hN) fun z z z=>.q (En (w:=wf w b b2) hN) fun z z z=>.cons (K4 rP (by decide)) fun u2 z g2=>.cons (K7 (by (try simp only [un,ud,BL]); rw [show eD (u2.d 2)=DN from g2.1.1]; exact rR) (by decide)) fun u3 z g3=>?_
 obtain rfl:eD (u3.d 1)=DR:=g3.2.1
 exact .q (C7 hR (by (try simp only [un,ud,BL]); rw [hk]; rfl) (by lia)) fun z z z=>.note S5 fun z z z=>.nh ke (@id (eD (u2.d 4)=nz) (g2.1.2.1) ▸ @id (eD (u3.d 4)=oE) ((g3.1.1.trans g2.1.1).trans eN.symm) ▸ rfl)
def Vr(P:Params)(aS aD aN A6 nR:Nat)(N:List (Str×Value))(nn o9 k:Nat)(DN sU oE nz DR DF DW:Data):Spec:=⟨.call (.ref 147) ⟨[.ref aS],[]⟩,[aS,aD,aN,A6,nR],[AJ aD,AK P aN .none 0 0,A7 DN,I3 false DF nR,Dp nR DW],Ls P A6 nR,fun A=>.err (.ref (A 0)),fun A=>[AJ aD,AK P aN (.ref (A 1)) 0 0,A7 oE,I3 true DF nR,Dp nR DW],fun A=>[{ cls:=.ref 110,data:=.fields #[.ref (A 3),.ref (A 2),.none,.none,.bool false,.none] },A0 nz,{ cls:=.type "traceback",data:=.fields #[.none,.ref (A 4),.none,.none,.none,.int 71 0,.int 71 0,.int 12 0,.int 60 0,sv "claim.caller",.bool false] },{ cls:=.type "tuple",data:=.seq #[sv "nodes are in a cycle",.ref (A 5)] 0 },RM true (.dict ⟨[kE P "self" (.ref aS),kE P "cycle" (.ref (A 5))]⟩ 2) A6,A0 DR]⟩
theorem Nb(aS aD aN A6 nR:Nat)(N:List (Str×Value))(nn o9 k:Nat)(DN oE nz DR DF DW:Data)(I J O:Lp→Prop)(rs:List Value)(k er:Nat)(hN:DN=A8 w.2 N nn)(eN:oE=DN)(hR:DR=.seq ⟨rs⟩ er)(hk:rs.length=k+1)(rQ:k < 1000)(rP:∀ aI aA aK fr:Nat,(Yd w.2 aI aN aA aK fr N.length nn o9 DN nz).nP (wf w b b2) (A3 (.func::Hw)) I I)(rR:∀ nS rn:Nat,(Yl w.2 (some DR) false aS aD aN nS A6 nR rn 0 0 DN).nP (wf w b b2) (A3 (NJ w.2 nS A6 nR)) I O):(Vr w.2 aS aD aN A6 nR N nn o9 k DN .plain oE nz DR DF DW).nP (wf w b b2) (A3 (Ls w.2 A6 nR)) (I) (O):=by
 refine B8 (fun D=>Vr w.2 aS aD aN A6 nR N nn o9 k (gD D 0) .plain oE nz DR (gD D 1) (gD D 2)) (fun D l=>Vr w.2 aS aD aN A6 nR N nn o9 k (gD D 0) (ud l 3 2) (ud l 2 4) (ud l 3 4) (ud l 2 1) (gD D 1) (gD D 2)) (fun D=>[fun z=>Kq 2 (gD D 0),fun z=>I8 6 2 (gD D 0) N.length nn,fun z=>cS w.2 5 aN N.length nn o9 (gD D 0) nz,fun l=>cW w.2 (some DR) 5 false aS aD aN A6 nR 0 0 (ud l 0 2),fun l=>Dy 10 (ud l 0 1) (Int.ofNat (Nat.succ k)),fun z=>kx w.2]) 6 [12,8,14,13,5,10] [false,false,true,true,true] (hD 17 132 2460621887014484260295443017257069669187579826456474709152021940330057260421316664249670505866205491859938423523094146755380999030664391204170684132437362092698550) 2 [0,0,1,0] 1 [DN,DF,DW] (fun E0 ke=>?_)
 refine .q (GD (w:=wf w b b2) hN) fun z z z=>.q (En (w:=wf w b b2) hN) fun z z z=>.cons (K4 rP (by decide)) fun u2 z g2=>.cons (K7 (by (try simp only [un,ud,BL]); rw [show eD (u2.d 2)=DN from g2.1.1]; exact rR) (by decide)) fun u3 z g3=>?_
 obtain rfl:eD (u3.d 1)=DR:=g3.2.1
 exact .q (C7 hR (by (try simp only [un,ud,BL]); rw [hk]; rfl) (by lia)) fun z z z=>.note W8 fun z z z=>.nh ke (@id (eD (u2.d 4)=nz) (g2.1.2.1) ▸ @id (eD (u3.d 4)=oE) ((g3.1.1.trans g2.1.1).trans eN.symm) ▸ rfl)
def NX(P:Params):Stmt:=(Cd (Ea (Cb P))).getD 1 (.Pass default)
def Vi(P:Params):Stmt:=(Cd (Ea (Cb P))).getD 7 (.Pass default)
def DQ(P:Params)(fr:Nat):Env:=AS P 935 Cb fr
def TY(P:Params)(aI fr:Nat):Code:=.forLoop (KG (NX P)) (.ref aI) (FX (NX P)) (KH (NX P)) (DQ P fr)
def Lz(P:Params)(fr:Nat):Code:=.whileLoop (dg (Vi P)) (Yr (Vi P)) (dh (Vi P)) (DQ P fr)
def EI(P:Params)(nR:Nat):List Sh:=[.fun1 (BO P nR),.bi "claim.caller" 0]
noncomputable def Ar:List Sh:=[.func,.func,.bi "claim.caller" 0]
def R8(P:Params)(nQ aS:Nat):List (DictEntry):=[kE P "pairs" (.ref nQ),kE P "sorter" (.ref aS)]
def Jq(P:Params)(nQ aS:Nat)(X Y:Str):List (DictEntry):=R8 P nQ aS++[kE P "early" (.str X 0),kE P "late" (.str Y 0)]
def Gx(P:Params)(nQ aS:Nat)(X Y:Str)(wh:Bool)(nY:Nat)(T:Int)(aG:Nat):List (DictEntry):=Jq P nQ aS X Y++[kE P "whole" (.bool wh),kE P "rows" (.ref nY),kE P "turn" (.int T 0),kE P "group" (.ref aG)]
def Mo(P:Params)(X Y:Str)(aI nQ fr aS aD aN:Nat)(ng:Data)(z:Nat→Data):Spec:=
 ⟨TY P aI fr,[aI,nQ,fr,aS,aD,aN],[AW nQ 0,A0 ng,C3 (.dict ⟨R8 P nQ aS⟩ 2),AJ aD,AK P aN .none 0 0,AR [] 0],Ar,fun q=>.fin (.done .next),
  fun q=>[{ cls:=.type "list_iterator",data:=z 1 },A0 ng,C3 (.dict ⟨Jq P nQ aS X Y⟩ 4),AJ aD,AK P aN .none 0 0,A7 (z 0)],fun q=>[]⟩
def gW(P:Params)(X Y:Str)(nQ:Nat)(ng:Data):AA:=Jx (fun q=>Ar) [7,0,2,4,3,6] [true,true,false,false,false,true] [] (fun x=>Mo P X Y (A2 x 7) nQ (A2 x 2) (A2 x 4) (A2 x 3) (A2 x 6) ng z0) (fun x=>Mo P X Y (A2 x 7) nQ (A2 x 2) (A2 x 4) (A2 x 3) (A2 x 6) ng)
variable{w b b2}
theorem OD{X Y:Str}{nQ:Nat}{ng:Data}{I:Lp→Prop}{Q:Data→Lp→Prop}(h:∀ aI fr aS aD aN:Nat,Spec.nX (Mo w.2 X Y aI nQ fr aS aD aN ng) (fun z q P=>Q (z 0) P) (Mo w.2 X Y aI nQ fr aS aD aN ng z0) (wf w b b2) (A3 Ar) I):(gW w.2 X Y nQ ng).pP pw (wf w b b2) (A4 w.2) I (fun u q=>Q (eD (u.d 10))):=
 (Dh (w:=wf w b b2) (Sf:=fun q=>A3 Ar) (ss:=fun q=>Ar) (tr:=[7,0,2,4,3,6]) (fl:=[true,true,false,false,false,true]) (fn:=[]) (S:=fun x=>Mo w.2 X Y (A2 x 7) nQ (A2 x 2) (A2 x 4) (A2 x 3) (A2 x 6) ng z0) (F0:=fun x=>Mo w.2 X Y (A2 x 7) nQ (A2 x 2) (A2 x 4) (A2 x 3) (A2 x 6) ng) (O:=fun q z q P=>Q (z 0) P) (fun q=>h _ _ _ _ _) (fun q q=>⟨rfl,rfl,rfl⟩) (fun q q q q q=>rfl) (fun x=>Ac (by intro h; cases h)) (by decide) (fun q=>⟨rfl,rfl,fun q q=>rfl⟩) (fun q q=>rfl)).mono (fun q h=>h) (fun u x P _ ⟨z,ok,h⟩=>by
  have e:eD (u.d 10)=z 0:=ok.2.2.1
  rw [e]; exact h)
def ZD(P:Params)(aS aD aN fr nR:Nat)(D DF DW nz:Data):Spec:=
 ⟨.call (.ref 147) ⟨[.ref aS],[]⟩,[aS,aD,aN,fr,nR],[AJ aD,AK P aN .none 0 0,A7 D,I3 false DF nR,Dp nR DW],[.fun1 (DQ P fr),.fun1 (BO P nR),.bi "claim.caller" 0],fun q=>.fin (.done (.ret .none)),
  fun A=>[AJ aD,AK P aN (.ref (A 0)) 0 0,A7 D,I3 true DF nR,Dp nR DW],fun q=>[A0 nz]⟩
def Ud(P:Params)(nQ aS:Nat)(X Y:Str):Data:=.dict ⟨Jq P nQ aS X Y++[kE P "whole" (.bool true)]⟩ 5
def ks(P:Params)(X Y:Str)(nQ nR:Nat)(D DW nz:Data):AA:=B6 (fun x=>[.fun1 (DQ P (A2 x 2)),.fun1 (BO P nR),.bi "claim.caller" 0]) [4,3,6,2,1] [false,false,true,false,true] [true] (fun x=>ZD P (A2 x 4) (A2 x 3) (A2 x 6) (A2 x 2) nR D (Ud P nQ (A2 x 4) X Y) DW nz)
theorem W4{X Y:Str}{nQ nR:Nat}{D DW nz:Data}{I O:Lp→Prop}(h:∀ aS aD aN fr:Nat,(ZD w.2 aS aD aN fr nR D (Ud w.2 nQ aS X Y) DW nz).nP (wf w b b2) (A3 [.fun1 (DQ w.2 fr),.fun1 (BO w.2 nR),.bi "claim.caller" 0]) I O):(ks w.2 X Y nQ nR D DW nz).oB pw (wf w b b2) (A4 w.2) I O:=
 AF (w:=wf w b b2) (Sf:=fun x=>A3 [.fun1 (DQ w.2 (A2 x 2)),.fun1 (BO w.2 nR),.bi "claim.caller" 0]) (fun q=>h _ _ _ _) (fun q=>Ac (by intro h; cases h)) (by decide) (fun q=>⟨rfl,rfl,fun q=>rfl⟩) (fun q q=>rfl)
def Yj(P:Params)(aS aD aN aR:Nat)(g:Int)(D nz oT DG:Data):Spec:=
 ⟨.call (.ref 154) ⟨[.ref aS],[]⟩,[aS,aD,aN,aR],[AJ aD,AK P aN (.ref aR) 0 0,A7 D,A0 nz],Ar,fun A=>.fin (.done (.ret (.ref (A 0)))),fun q=>[AJ aD,AK P aN (.ref aR) g 0,A7 D,A0 oT],fun q=>[AV DG]⟩
def gV(P:Params)(m:Nat)(g:Int)(D nz oT DG:Data):AA:=B6 (fun q=>Ar) [4,3,6,m] [false,false,true,true] [true] (fun x=>Yj P (A2 x 4) (A2 x 3) (A2 x 6) (A2 x m) g D nz oT DG)
theorem OC{m:Nat}{g:Int}{D nz oT DG:Data}{I O:Lp→Prop}(h:∀ aS aD aN aR:Nat,(Yj w.2 aS aD aN aR g D nz oT DG).nP (wf w b b2) (A3 Ar) I O)(nd:[4,3,6,m].Nodup):(gV w.2 m g D nz oT DG).oB pw (wf w b b2) (A4 w.2) I O:=
 AF (w:=wf w b b2) (Sf:=fun q=>A3 Ar) (fun q=>h _ _ _ _) (fun q=>Ac (by intro h; cases h)) nd (fun q=>⟨rfl,rfl,fun q=>rfl⟩) (fun q q=>rfl)
def mJ(P:Params)(X Y:Str)(wh:Bool)(nQ aS nY aG sH:Nat)(T:Int):Option Str→Data
 | none=>.dict ⟨Gx P nQ aS X Y wh nY 0 aG⟩ 8
 | some Z=>.dict ⟨Gx P nQ aS X Y wh nY T sH++[kE P "name" (.str Z 0)]⟩ 9
def mH:Option Str→List Obj
 | none=>[]
 | some _=>[AV (.seq #[] 0)]
def Ml(P:Params)(X Y:Str)(wh:Bool)(o:Option Str)(T g po nf:Int)(nQ nR fr aS aD aN aR nY aG:Nat)(D oT DG oi z:Data):Spec:=
 ⟨Lz P fr,[fr,aS,aD,aN,aR,nY,aG],[I3 true (.dict ⟨Gx P nQ aS X Y wh nY 0 aG⟩ 8) nR,AJ aD,AK P aN (.ref aR) g 0,A7 D,A0 oT,A0 (.seq #[] 0),AV DG],Ar,fun q=>.fin (.done .next),
  fun A=>[I3 true (mJ P X Y wh nQ aS nY aG (A 0) T o) nR,AJ aD,AK P aN (.ref aR) po nf,A7 D,A0 oi,A0 z,AV DG],fun q=>mH o⟩
def gM(P:Params)(X Y:Str)(wh:Bool)(o:Option Str)(T g po nf:Int)(nQ nR m m1 m2:Nat)(D oT DG oi:Data):AA:=Jx (fun q=>Ar) [2,4,3,6,m,m1,m2] [false,false,false,true,true,true,true] [] (fun x=>Ml P X Y wh o T g po nf nQ nR (A2 x 2) (A2 x 4) (A2 x 3) (A2 x 6) (A2 x m) (A2 x m1) (A2 x m2) D oT DG oi .plain) (fun x=>Ml P X Y wh o T g po nf nQ nR (A2 x 2) (A2 x 4) (A2 x 3) (A2 x 6) (A2 x m) (A2 x m1) (A2 x m2) D oT DG oi)
theorem Nx{X Y:Str}{wh:Bool}{o:Option Str}{T g po nf:Int}{nQ nR m m1 m2:Nat}{D oT DG oi:Data}{I:Lp→Prop}{R:Data→Lp→Prop}(h:∀ fr aS aD aN aR nY aG:Nat,Spec.nX (Ml w.2 X Y wh o T g po nf nQ nR fr aS aD aN aR nY aG D oT DG oi) (fun z q P=>R z P) (Ml w.2 X Y wh o T g po nf nQ nR fr aS aD aN aR nY aG D oT DG oi .plain) (wf w b b2) (A3 Ar) I)(nd:[2,4,3,6,m,m1,m2].Nodup):(gM w.2 X Y wh o T g po nf nQ nR m m1 m2 D oT DG oi).pP pw (wf w b b2) (A4 w.2) I (fun u q=>R (eD (u.d 10))):=
 (Dh (w:=wf w b b2) (Sf:=fun q=>A3 Ar) (ss:=fun q=>Ar) (tr:=[2,4,3,6,m,m1,m2]) (fl:=[false,false,false,true,true,true,true]) (fn:=[]) (S:=fun x=>Ml w.2 X Y wh o T g po nf nQ nR (A2 x 2) (A2 x 4) (A2 x 3) (A2 x 6) (A2 x m) (A2 x m1) (A2 x m2) D oT DG oi .plain) (F0:=fun x=>Ml w.2 X Y wh o T g po nf nQ nR (A2 x 2) (A2 x 4) (A2 x 3) (A2 x 6) (A2 x m) (A2 x m1) (A2 x m2) D oT DG oi) (O:=fun q z q P=>R z P) (fun q=>h _ _ _ _ _ _ _) (fun q q=>⟨rfl,rfl,rfl⟩) (fun q q q q q=>rfl) (fun x=>Ac (by intro h; cases h)) nd (fun q=>⟨rfl,rfl,fun q q=>rfl⟩) (fun q q=>rfl)).mono (fun q h=>h) (fun u x P _ ⟨z,ok,h⟩=>by
  have e:eD (u.d 10)=z:=ok.2.2.1
  rw [e]; exact h)
noncomputable def sl(n:Nat):Option Str→Nat
 | none=>n
 | some _=>n+1
theorem kf(n:Nat)(o:Option Str):[sl n o+1,sl n o].Nodup:=by simp
def cP(P:Params)(nQ nR:Nat)(X Y:Str)(o:Option Str)(T g po nf:Int)(ng o6 DW pg D1 D2 D3 nz sJ oT sI DG tG oi Dz DS:Data):Spec:=⟨.call (.ref 935) ⟨[.ref nQ],[]⟩,[nQ,nR],[A0 ng,Dp nR DW],EI P nR,fun A=>.fin (.done (.ret (.ref (A 0)))),fun A=>[A0 o6,Dp nR pg],fun A=>[AV (.seq #[.bool true,.ref (A 1)] 0),A0 DS]⟩
theorem R9(w:World)(b b2:Bool)(nQ nR:Nat)(X Y:Str)(o:Option Str)(T g po nf:Int)(ng o6 DW pg nz oT DG oi:Data)(eP:o6=ng)(eW:pg=DW)(I:Lp→Prop)(Q1 Q2 Q3 R J:Data→Lp→Prop)(rF:∀ aI fr aS aD aN:Nat,Spec.nX (Mo w.2 X Y aI nQ fr aS aD aN ng) (fun z q P=>Q1 (z 0) P) (Mo w.2 X Y aI nQ fr aS aD aN ng z0) (wf w b b2) (A3 Ar) I)(s7:∀ (D:Data) (aS aD aN fr:Nat),(ZD w.2 aS aD aN fr nR D (Ud w.2 nQ aS X Y) DW nz).nP (wf w b b2) (A3 [.fun1 (DQ w.2 fr),.fun1 (BO w.2 nR),.bi "claim.caller" 0]) (Q1 D) (Q2 D))(rE:∀ (D:Data) (aS aD aN aR:Nat),(Yj w.2 aS aD aN aR g D nz oT DG).nP (wf w b b2) (A3 Ar) (Q2 D) (Q3 D))(ql:∀ (D:Data) (fr aS aD aN aR nY aG:Nat),Spec.nX (Ml w.2 X Y true o T g po nf nQ nR fr aS aD aN aR nY aG D oT DG oi) (fun z q P=>R z P) (Ml w.2 X Y true o T g po nf nQ nR fr aS aD aN aR nY aG D oT DG oi .plain) (wf w b b2) (A3 Ar) (Q3 D))(q6:∀ (z:Data) (aR:Nat),Spec.nX (Ia aR z) (fun z2 q P=>J z2 P) (Ia aR z .plain) (wf w b b2) (A3 FN) (R z)):Spec.nX (fun (DS:Data)=>cP w.2 nQ nR X Y o T g po nf ng o6 DW pg .plain .plain .plain nz .plain oT .plain DG .plain oi .plain DS) (fun (DS:Data) A P'=>(True)∧(J DS) P') (cP w.2 nQ nR X Y o T g po nf ng o6 DW pg .plain .plain .plain nz .plain oT .plain DG .plain oi .plain .plain) (wf w b b2) (A3 (EI w.2 nR)) (I):=by
 refine Yb (K0:=fun (DS:Data)=>J DS) _ (fun (DS:Data) A=>True) (fun D=>cP w.2 nQ nR X Y o T g po nf (gD D 0) o6 (gD D 1) pg .plain .plain .plain nz .plain oT .plain DG .plain oi .plain .plain) (fun D l=>cP w.2 nQ nR X Y o T g po nf (gD D 0) (ud l 4 2) (gD D 1) (ud l 3 8) (ud l 4 10) (ud l 3 4) (ud l 2 4) nz (ud l 3 1) oT (ud l 2 6) DG (ud l 2 1) oi (ud l 1 10) (ud l 0 1)) (fun D=>[fun q=>gW w.2 X Y nQ (gD D 0),fun l=>ks w.2 X Y nQ nR (ud l 0 10) (gD D 1) nz,fun l=>gV w.2 8 g (ud l 0 4) (ud l 0 1) oT DG,fun l=>gM w.2 X Y true o T g po nf nQ nR 8 9 10 (ud l 0 4) (ud l 0 6) (ud l 0 1) oi,fun l=>Zf (ud l 0 10) 9]) 5 (fun D l=>[]) [sl 11 o+1,sl 11 o] [true,true] (hD 10 170 30033304500005000500053333304500005000500053338111333644405000505050005644405000505050005644405000505050005644405000505050005606666000000050500000000000000000000000003300) 8 [0,0,0,0] 1 [ng,DW] (fun E0 ke=>?_) (by cases o<;>kernel_rfl) (h2:=by cases o<;>rfl) (h3:=kf _ o)
 exact .oG (OD rF) fun u0 q g0=>.cons (W4 (fun q q q q=>s7 _ _ _ _ _)) fun u1 q g1=>.cons (by (try simp only [un,ud,BL]); rw [show eD (u1.d 4)=eD (u0.d 10) from g1.1.1,show eD (u1.d 1)=nz from g1.2.1]; exact OC (fun q q q q=>rE _ _ _ _ _) (by decide)) fun u2 q g2=>.oG (by (try simp only [un,ud,BL]); rw [show eD (u2.d 4)=eD (u0.d 10) from g2.1.1.trans g1.1.1,show eD (u2.d 6)=oT from g2.1.2.1,show eD (u2.d 1)=DG from g2.2.1]; exact Nx (fun q q q q q q q=>ql _ _ _ _ _ _ _ _) (by decide)) fun q q q=>.oG (IA (fun q=>q6 _ _)) fun u4 q q=>.nil fun P hP=>ke _ _ ⟨eD (u4.d 1),@id (eD (u0.d 2)=o6) ((let ⟨z,h⟩:=g0.1; h.2.1).trans eP.symm) ▸ @id (eD (u1.d 8)=pg) (g1.1.2.1.trans eW.symm) ▸ rfl,hP,fun q q=>trivial⟩
noncomputable def Nm(C:SX→Sem Unit→Sem Fin)(je jb:Nat)(env:SX→Env)(f:SX→Nat)(tl:SX→List Env)(jt:Nat)(V:SX→List Vw)(ps:Pos)(ids:List String)(E TB:SX→Obj):AA where
 C:=fun q=>.builtin "" {}
 tr:=[je,jb]
 pre:=fun x=>[some (A2 x je,E x),some (A2 x jb,TB x)]
 ss:=fun q=>[]
 ok:=fun q x=>Pm true x jt&&(((x.T.set jb (Obj.mapFields (·.setIfInBounds 3 .none))).ins x.m (x.n+x.i) (CY (.ref (A2 x jb)) (f x) (rawInt (f x)) ps ids true)).get x.m).isSome
 res:=fun q q=>.ok .next
 upd:=fun q x=>⟨((x.T.set jb (Obj.mapFields (·.setIfInBounds 3 .none))).ins x.m (x.n+x.i) (CY (.ref (A2 x jb)) (f x) (rawInt (f x)) ps ids true)).set je (Obj.mapFields (·.setIfInBounds 1 (.ref (x.n+x.i)))),x.m+1,x.n,x.i+1,x.gens,x.drawn,x.t,x.ti,x.os⟩
 nt:=some ⟨fun x=>C x (Wj (.ref (A2 x je)) (env x)),fun x=>C x (.pure ()),some (V,ps)⟩
theorem Hk{o:Obj}{vs:Array Value}{i:Nat}{v:Value}(h:(eO o).data=.fields vs)(hv:vs[i]?=some v):∃ sM v',o.data=.fields sM∧sM[i]?=some v'∧eV v'=v:=by
 obtain ⟨c,d,dt,sl⟩:=o
 cases dt with
 | fields ws=>
  have e:vs=⟨ws.toList.map eV⟩:=by
   have:Data.fields ⟨ws.toList.map eV⟩=.fields vs:=h
   cases this; rfl
  subst e
  have hv:(ws.toList.map eV)[i]?=some v:=by simpa using hv
  rw [List.getElem?_map] at hv
  cases hw:ws.toList[i]? with
  | none=>rw [hw] at hv; cases hv
  | some v'=>rw [hw] at hv; exact ⟨ws,v',rfl,by simpa using hw,by simpa using hv⟩
 | _=>cases h
theorem Nl{p:Program}{w:World}{kt:KT}{C:SX→Sem Unit→Sem Fin}{je jb jt:Nat}{env:SX→Env}{f:SX→Nat}{tl:SX→List Env}{V:SX→List Vw}{ps:Pos}{ids:List String}{E TB:SX→Obj}
  (hC:∀ x,Hq (C x)) (hf:∀ x,(env x).frame=some (f x)) (hl:ps.line≠0) (own:∀ x,(V x).head?.bind (fun v=>v.2.1.bind (·.frame))=some (f x))
  (envs:∀ x,(Gf (V x)).dropWhile (·.frame != (env x).frame)=tl x) (top:∀ x,(tl x).head?.bind (·.frame)=some (f x))
  (caller:∀ x,(V x).any (fun v=>v.2.2==some "claim.caller")=true) (qo:∀ x,Am (f x) (V x)=some ids) (size:¬ (EntryCells.make ids).length > sizeLine)
  (nd:[je,jb,jt].Nodup) (ht:∀ x,∃ e l,tl x=e::l∧e.frame=some (A2 x jt))
  (hE:∀ x,∃ vs,(E x).data=.fields vs∧vs[1]?=some (.ref (A2 x jb))) (hB:∀ x,∃ vs,(TB x).data=.fields vs∧vs[3]?=some .none) :
  (Nm C je jb env f tl jt V ps ids E TB).qi p w kt:=by
 refine ⟨_,rfl,?_⟩
 intro x s cd ps' nj hvp pD p8 D
 obtain ⟨hv,hps⟩:=hvp _ rfl
 rw [show ps'=ps from hps]
 have ok:=pD U0
 simp only [Nm,Bool.and_eq_true] at ok
 obtain ⟨ok3,ok4⟩:=ok
 obtain ⟨oe,he,eoe⟩:=Gh (List.cons.inj p8).1
 obtain ⟨ob,hb,eob⟩:=Gh (List.cons.inj (List.cons.inj p8).2).1
 obtain ⟨qa,hE1,hE2⟩:=hE x
 obtain ⟨vsB,hB1,r5⟩:=hB x
 obtain ⟨vs,v1,hd,h1,ev1⟩:=Hk (o:=oe) (by rw [eoe]; exact hE1) hE2
 obtain ⟨ts,v3,rl,h3,ev3⟩:=Hk (o:=ob) (by rw [eob]; exact hB1) r5
 have h1:vs[1]?=some (.ref (A2 x jb)):=by rw [h1,AD ev1]
 have h3:ts[3]?=some .none:=by rw [h3,GW (v:=v3) (by cases v3<;>first | rfl | cases ev3)]
 obtain ⟨of,hof,hof2⟩:=Ee ok3
 have nd:=List.nodup_cons.mp nd
 have hbe:=IX D (by rw [hb]; rfl) (by rw [he]; rfl) fun e:jb=je=>nd.1 (by rw [e]; exact .head _)
 have hbf:jt≠jb:=fun e=>(List.nodup_cons.mp nd.2).1 (by rw [e]; exact .head _)
 obtain ⟨D1,K1,X1⟩:=CC (f:=Obj.mapFields (·.setIfInBounds 3 .none)) D hb (by rw [L8]; exact EZ (D.own _ _ _ hb))
 have N:F5 cd ps nj { s with heap:=s.heap.update (A2 x jb) (Obj.mapFields (·.setIfInBounds 3 .none)) } (env x) (f x) [] (tl x) ids:=Uo hv (hf x) (own x) hl (envs x) (top x) (caller x) (qo x) size (fun q hq=>nomatch hq) .nil (by
  obtain ⟨e,l,et,ef⟩:=ht x
  rw [et]
  exact ⟨A2 x jt,of,ef,D1.own jt _ _ (by rw [TT.get_set,if_neg hbf]; exact hof),hof2,fun m=>nomatch m⟩)
 have go:=(MC (D.own _ _ _ hb) rl h3 N (D.own _ _ _ he) hd h1 (fun m=>nomatch m) hbe).go (p:=p) (w:=w) (hC x)
 obtain ⟨o1,g1⟩:=X1.fwd je _ _ he
 obtain ⟨D2,K2,X2⟩:=Iu (o:=CY (.ref (A2 x jb)) (f x) (rawInt (f x)) ps ids true) (g:=(·.setIfInBounds 1 (.ref (x.n+x.i)))) D1 rfl ok4 g1
 rw [show s.heap.objs.size=x.n+x.i from D.size] at go
 refine ⟨U0,_,?_,D2,X1.trans X2,(K1.ext X2).trans K2,trivial⟩
 show Go p w s ⟨C x (Wj (.ref (A2 x je)) (env x)),cd,_,nj⟩ _ ⟨C x (.pure ()),cd,_,nj⟩
 rw [OP]
 exact go
noncomputable def bI(a tb:Nat):Obj:={ cls:=.ref 110,data:=.fields #[.ref a,.ref tb,.none,.none,.bool false,.none] }
def Y'(a:Nat):Obj:={ cls:=.type "traceback",data:=.fields #[.none,.ref a,.none,.none,.none,.int 71 0,.int 71 0,.int 12 0,.int 60 0,sv "claim.caller",.bool false] }
def Yc(P:Params)(aS aD aN fr nR:Nat)(D DF DW nz:Data):Spec:=
 ⟨.call (.ref 147) ⟨[.ref aS],[]⟩,[aS,aD,aN,fr,nR],[AJ aD,AK P aN .none 0 0,A7 D,I3 false DF nR,Dp nR DW],[.fun1 (DQ P fr),.fun1 (BO P nR),.bi "claim.caller" 0],fun A=>.err (.ref (A 0)),
  fun A=>[AJ aD,AK P aN (.ref (A 1)) 0 0,A7 D,I3 true DF nR,Dp nR DW],fun A=>[bI (A 3) (A 2),A0 nz,Y' (A 4)]⟩
def kr(P:Params)(X Y:Str)(nQ nR:Nat)(D DW nz:Data):AA:=B6 (fun x=>[.fun1 (DQ P (A2 x 2)),.fun1 (BO P nR),.bi "claim.caller" 0]) [4,3,6,2,1] [false,false,true,false,true] [false,true,false] (fun x=>Yc P (A2 x 4) (A2 x 3) (A2 x 6) (A2 x 2) nR D (Ud P nQ (A2 x 4) X Y) DW nz)
theorem W3{X Y:Str}{nQ nR:Nat}{D DW nz:Data}{I O:Lp→Prop}(h:∀ aS aD aN fr:Nat,(Yc w.2 aS aD aN fr nR D (Ud w.2 nQ aS X Y) DW nz).nP (wf w b b2) (A3 [.fun1 (DQ w.2 fr),.fun1 (BO w.2 nR),.bi "claim.caller" 0]) I O):(kr w.2 X Y nQ nR D DW nz).oB pw (wf w b b2) (A4 w.2) I O:=
 AF (w:=wf w b b2) (Sf:=fun x=>A3 [.fun1 (DQ w.2 (A2 x 2)),.fun1 (BO w.2 nR),.bi "claim.caller" 0]) (fun q=>h _ _ _ _) (fun q=>Ac (by intro h; cases h)) (by decide) (fun q=>⟨rfl,rfl,fun q=>rfl⟩) (fun q q=>rfl)
def Z8(P:Params):Stmt:=(Cd (Ea (Cb P))).getD 3 (.Pass default)
noncomputable def bX(P:Params)(fr:Nat)(e:Value)(m:Sem Unit):Sem Fin:=
 PySem.W.R.bindR (PySem.W.R.onRaiseR (PySem.W.R.bindR (PySem.W.R.bindR m (fun q=>PySem.W.R.bindR (eI e none) (fun q=>PySem.W.Fast.tw14206642085496868694 e (DQ P fr) (Yw (Z8 P)))))
   (fun fl=>match fl with | .next=>PySem.W.Fast.tw12563942051412417395 ((Cd (Ea (Cb P))).drop 4) (DQ P fr) | f=>.pure f))
  (fun x=>PySem.W.Fast.tw9442747609961115081 (DQ P fr) x))
  (fun (fl:Flow)=>match fl with | .ret v=>PySem.W.Fast.tw6905046200447255374 v | _=>PySem.W.Fast.tw6905046200447255374 .none)
theorem KP(P:Params)(fr:Nat)(e:Value):Hq (bX P fr e):=⟨fun q q q=>rfl,fun q q q q=>rfl,fun q q=>rfl,fun q=>rfl⟩
noncomputable def ZE:Pos:=⟨896,8,896,24⟩
def vR(P:Params)(c d:Nat):List Vw:=[JF (AS P 935 Cb c),JF (BO P d),Yo "claim.caller"]
theorem k4(P:Params)(c d:Nat):Am c (vR P c d)=some ["claim.caller"]:=by
 unfold Am vR
 rw [List.dropWhile_cons_of_neg (by simp [JF,Cr])]
 rfl
noncomputable def l7(P:Params)(nR aA aF:Nat):AA:=Nm (fun x=>bX P (A2 x 2) (.ref (A2 x 8))) 8 10 (fun x=>AS P 935 Cb (A2 x 2)) (fun x=>A2 x 2) (fun x=>[AS P 935 Cb (A2 x 2),BO P nR]) 2 (fun x=>vR P (A2 x 2) nR) ZE ["claim.caller"] (fun x=>bI aA (A2 x 10)) (fun q=>Y' aF)
theorem WC{p:Program}{w:World}{kt:KT}{P:Params}{nR aA aF:Nat}:(l7 P nR aA aF).qi p w kt:=
 Nl (fun x=>KP ..) (fun x=>rfl) (by decide) (fun x=>rfl) (fun x=>List.dropWhile_cons_of_neg (by simp)) (fun x=>rfl) (fun x=>rfl) (fun x=>k4 P _ _) (by decide) (by decide) (fun x=>⟨_,_,rfl,rfl⟩) (fun x=>⟨_,rfl,rfl⟩) (fun x=>⟨_,rfl,rfl⟩)
def cQ(P:Params)(nQ nR:Nat)(X Y:Str)(o:Option Str)(T g po nf:Int)(ng o6 DW pg D1 D2 D3 nz sJ oT sI DG tG oi Dz DS:Data):Spec:=⟨.call (.ref 935) ⟨[.ref nQ],[]⟩,[nQ,nR],[A0 ng,Dp nR DW],EI P nR,fun A=>.fin (.done (.ret (.ref (A 0)))),fun A=>[A0 o6,Dp nR pg],fun A=>[AV (.seq #[.bool false,.ref (A 1)] 0),A0 DS]⟩
theorem RK(w:World)(b b2:Bool)(nQ nR:Nat)(X Y:Str)(o:Option Str)(T g po nf:Int)(ng o6 DW pg nz oT DG oi:Data)(eP:o6=ng)(eW:pg=DW)(I:Lp→Prop)(Q1 Q2 Q3 R J:Data→Lp→Prop)(rF:∀ aI fr aS aD aN:Nat,Spec.nX (Mo w.2 X Y aI nQ fr aS aD aN ng) (fun z q P=>Q1 (z 0) P) (Mo w.2 X Y aI nQ fr aS aD aN ng z0) (wf w b b2) (A3 Ar) I)(s7:∀ (D:Data) (aS aD aN fr:Nat),(Yc w.2 aS aD aN fr nR D (Ud w.2 nQ aS X Y) DW nz).nP (wf w b b2) (A3 [.fun1 (DQ w.2 fr),.fun1 (BO w.2 nR),.bi "claim.caller" 0]) (Q1 D) (Q2 D))(rE:∀ (D:Data) (aS aD aN aR:Nat),(Yj w.2 aS aD aN aR g D nz oT DG).nP (wf w b b2) (A3 Ar) (Q2 D) (Q3 D))(ql:∀ (D:Data) (fr aS aD aN aR nY aG:Nat),Spec.nX (Ml w.2 X Y false o T g po nf nQ nR fr aS aD aN aR nY aG D oT DG oi) (fun z q P=>R z P) (Ml w.2 X Y false o T g po nf nQ nR fr aS aD aN aR nY aG D oT DG oi .plain) (wf w b b2) (A3 Ar) (Q3 D))(q6:∀ (z:Data) (aR:Nat),Spec.nX (Ia aR z) (fun z2 q P=>J z2 P) (Ia aR z .plain) (wf w b b2) (A3 FN) (R z)):Spec.nX (fun (DS:Data)=>cQ w.2 nQ nR X Y o T g po nf ng o6 DW pg .plain .plain .plain nz .plain oT .plain DG .plain oi .plain DS) (fun (DS:Data) A P'=>(True)∧(J DS) P') (cQ w.2 nQ nR X Y o T g po nf ng o6 DW pg .plain .plain .plain nz .plain oT .plain DG .plain oi .plain .plain) (wf w b b2) (A3 (EI w.2 nR)) (I):=by
 refine Yb (K0:=fun (DS:Data)=>J DS) _ (fun (DS:Data) A=>True) (fun D=>cQ w.2 nQ nR X Y o T g po nf (gD D 0) o6 (gD D 1) pg .plain .plain .plain nz .plain oT .plain DG .plain oi .plain .plain) (fun D l=>cQ w.2 nQ nR X Y o T g po nf (gD D 0) (ud l 5 2) (gD D 1) (ud l 4 8) (ud l 5 10) (ud l 4 4) (ud l 2 4) nz (ud l 4 3) oT (ud l 2 6) DG (ud l 2 1) oi (ud l 1 10) (ud l 0 1)) (fun D=>[fun q=>gW w.2 X Y nQ (gD D 0),fun l=>kr w.2 X Y nQ nR (ud l 0 10) (gD D 1) nz,fun l=>l7 w.2 nR (un l 0 0 6) (un l 0 0 7),fun l=>gV w.2 9 g (ud l 1 4) (ud l 1 3) oT DG,fun l=>gM w.2 X Y false o T g po nf nQ nR 9 12 13 (ud l 0 4) (ud l 0 6) (ud l 0 1) oi,fun l=>Zf (ud l 0 10) 12]) 6 (fun D l=>[]) [sl 14 o+1,sl 14 o] [true,true] (hD 14 185 23165953230259887303380118613035962885950568347328244279165833910677576229545108461838396550573847162422247508931191043817987476394658616432604353935968588530115306989416341807704505684782768121678245558547915380) 8 [0,2,0,0] 1 [ng,DW] (fun E0 ke=>?_) (by cases o<;>kernel_rfl) (h2:=by cases o<;>rfl) (h3:=kf _ o)
 exact .oG (OD rF) fun u0 q g0=>.cons (W3 (fun q q q q=>s7 _ _ _ _ _)) fun u1 q g1=>.ph WC fun q q q=>.cons (by (try simp only [un,ud,BL]); rw [show eD (u1.d 4)=eD (u0.d 10) from g1.1.1,show eD (u1.d 3)=nz from g1.2.1]; exact OC (fun q q q q=>rE _ _ _ _ _) (by decide)) fun u3 q g3=>.oG (by (try simp only [un,ud,BL]); rw [show eD (u3.d 4)=eD (u0.d 10) from g3.1.1.trans g1.1.1,show eD (u3.d 6)=oT from g3.1.2.1,show eD (u3.d 1)=DG from g3.2.1]; exact Nx (fun q q q q q q q=>ql _ _ _ _ _ _ _ _) (by decide)) fun q q q=>.oG (IA (fun q=>q6 _ _)) fun u5 q q=>.nil fun P hP=>ke _ _ ⟨eD (u5.d 1),@id (eD (u0.d 2)=o6) ((let ⟨z,h⟩:=g0.1; h.2.1).trans eP.symm) ▸ @id (eD (u1.d 8)=pg) (g1.1.2.1.trans eW.symm) ▸ rfl,hP,fun q q=>trivial⟩
def Lf(P:Params)(X Y:Str)(aS aD aN:Nat):Spec:=
 ⟨.call (.ref 142) ⟨[.ref aS,.str X 0,.str Y 0],[]⟩,[aS,aD],[AJ aD,AK P aN .none 0 0],Be,fun q=>.fin (.done (.ret .none)),fun q=>[AJ aD,AK P aN .none 0 0],fun q=>[]⟩
def gb(P:Params)(X Y:Str)(aN:Nat)(m1 m2:Nat):AA:=B6 (fun q=>Be) [m1,m2] [] [] (fun x=>Lf P X Y (A2 x m1) (A2 x m2) aN)
theorem OJ{X Y:Str}{aN m1 m2:Nat}{I O:Lp→Prop}(h:∀ aS aD:Nat,(Lf w.2 X Y aS aD aN).nP (wf w b b2) (A3 Be) I O)(nd:[m1,m2].Nodup):(gb w.2 X Y aN m1 m2).oB pw (wf w b b2) (A4 w.2) I O:=
 AF (w:=wf w b b2) (Sf:=fun q=>A3 Be) (fun q=>h _ _) (fun q=>Ac (by intro h; cases h)) nd (fun q=>⟨rfl,rfl,fun q=>rfl⟩) (fun q q=>rfl)
def jI(P:Params)(aI nQ aT fr aS aD:Nat)(X Y:Str)(aN i:Nat)(ng:Data):Spec:=⟨TY P aI fr,[aI,nQ,aT,fr,aS,aD],[AW nQ i,A0 ng,AV (.seq #[.str X 0,.str Y 0] 0),C3 (.dict ⟨R8 P nQ aS⟩ 2),AJ aD,AK P aN .none 0 0],Ar,fun A=>.fin (.again (TY P aI fr)),fun A=>[AW nQ ((i:Int)+1),A0 ng,AV (.seq #[.str X 0,.str Y 0] 0),C3 (.dict ⟨Jq P nQ aS X Y⟩ 4),AJ aD,AK P aN .none 0 0],fun A=>[]⟩
variable(w b b2)
theorem TS(aI nQ aT fr aS aD:Nat)(X Y:Str)(aN i:Nat)(ng:Data)(I O:Lp→Prop)(vs:List Value)(e:Nat)(hL:ng=.seq ⟨vs⟩ e)(hi:vs[i]?=some (.ref aT))(pU:∀ aS aD:Nat,(Lf w.2 Y X aS aD aN).nP (wf w b b2) (A3 Be) I O):(jI w.2 aI nQ aT fr aS aD X Y aN i ng).nP (wf w b b2) (A3 (Ar)) (I) (O):=by
 refine B8 (fun D=>jI w.2 aI nQ aT fr aS aD X Y aN i (gD D 0)) (fun D l=>jI w.2 aI nQ aT fr aS aD X Y aN i (gD D 0)) (fun D=>(Af [Ao 0 1 i (gD D 0) (.ref aT),gb w.2 Y X aN 4 5])) 2 [] [false,true,false,false,false,false] (hD 11 52 51851301857588421808085072018459568735012467287603909) 0 [4] 0 [ng] (fun E0 ke=>?_)
 exact .q (AO hL hi) fun z z z=>.cons (OJ pU (by decide)) fun z z z=>.nh ke rfl
def jH(P:Params)(aI nQ aT fr aS aD:Nat)(X0 Y0:Str)(X Y:Str)(aN i:Nat)(ng:Data):Spec:=⟨TY P aI fr,[aI,nQ,aT,fr,aS,aD],[AW nQ i,A0 ng,AV (.seq #[.str X 0,.str Y 0] 0),C3 (.dict ⟨Jq P nQ aS X0 Y0⟩ 4),AJ aD,AK P aN .none 0 0],Ar,fun A=>.fin (.again (TY P aI fr)),fun A=>[AW nQ ((i:Int)+1),A0 ng,AV (.seq #[.str X 0,.str Y 0] 0),C3 (.dict ⟨Jq P nQ aS X Y⟩ 4),AJ aD,AK P aN .none 0 0],fun A=>[]⟩
theorem TR(aI nQ aT fr aS aD:Nat)(X0 Y0:Str)(X Y:Str)(aN i:Nat)(ng:Data)(I O:Lp→Prop)(vs:List Value)(e:Nat)(hL:ng=.seq ⟨vs⟩ e)(hi:vs[i]?=some (.ref aT))(pU:∀ aS aD:Nat,(Lf w.2 Y X aS aD aN).nP (wf w b b2) (A3 Be) I O):(jH w.2 aI nQ aT fr aS aD X0 Y0 X Y aN i ng).nP (wf w b b2) (A3 (Ar)) (I) (O):=by
 refine B8 (fun D=>jH w.2 aI nQ aT fr aS aD X0 Y0 X Y aN i (gD D 0)) (fun D l=>jH w.2 aI nQ aT fr aS aD X0 Y0 X Y aN i (gD D 0)) (fun D=>(Af [Ao 0 1 i (gD D 0) (.ref aT),gb w.2 Y X aN 4 5])) 2 [] [false,true,false,false,false,false] (hD 11 52 51851301857588421808085072018459568735012467287603909) 0 [4] 0 [ng] (fun E0 ke=>?_)
 exact .q (AO hL hi) fun z z z=>.cons (OJ pU (by decide)) fun z z z=>.nh ke rfl
def jG(P:Params)(aI nQ:Nat)(fr i:Nat)(ng o6:Data):Spec:=⟨TY P aI fr,[aI,nQ],[AW nQ i,A0 ng],Ar,fun A=>.fin (.done .next),fun A=>[BW i,A0 o6],fun A=>[]⟩
theorem TP(aI nQ:Nat)(fr i:Nat)(ng o6:Data)(vs:List Value)(e:Nat)(hL:ng=.seq ⟨vs⟩ e)(hi:vs.length≤i)(eP:o6=ng)(I:Lp→Prop):(jG w.2 aI nQ fr i ng o6).nP (wf w b b2) (A3 (Ar)) (I) (I):=by
 refine B8 (fun D=>jG w.2 aI nQ fr i (gD D 0) o6) (fun D l=>jG w.2 aI nQ fr i (gD D 0) (ud l 0 2)) (fun D=>(Af [Bh "list_iterator.__next__" 0 1 (.for_::Ar) (fun X=>AW (A2 X 1) i) (BW i) (A0 (gD D 0))])) 1 [] [false,true] [1,4] 0 [] 1 [ng] (fun E0 ke=>?_)
 exact .cons (BE (by decide) hL hi (by simp [gD]) (fun q=>rfl)) fun u0 q g0=>.nh ke (@id (eD (u0.d 2)=o6) (g0.1.1.trans eP.symm) ▸ rfl)
section
theorem Cc{i n m:Nat}(h:i+(n+1)=m):i < m:=h ▸ Nat.lt_add_of_pos_right (Nat.succ_pos n)
theorem Hp{i n m:Nat}(h:i+(n+1)=m):i+1+n=m:=(Nat.add_right_comm i 1 n).trans h
inductive PT | l (i:Nat) | a (s t:PT) | n
noncomputable def PT.d{α:Type}(v:List (List α)):PT→List α
 | .l i=>v.getD i []
 | .a s t=>s.d v++t.d v
 | .n=>[]
noncomputable def PT.f:PT→List Nat
 | .l i=>[i]
 | .a s t=>s.f++t.f
 | .n=>[]
theorem PT.df{α:Type}(v:List (List α)):∀ s:PT,s.d v=s.f.flatMap (v.getD · [])
 | .l i=>(List.append_nil _).symm
 | .a s t=>by show s.d v++t.d v=(s.f++t.f).flatMap _; rw [List.flatMap_append,← df v s,← df v t]
 | .n=>rfl
noncomputable def PT.r(x:List Nat)(t:PT):PT:=x.foldr (fun i t=>.a (.l i) t) t
noncomputable def PT.q(x:List Nat):PT:=.r x .n
theorem Df{α:Type}(v:List (List α))(s t a b:PT)(h:(a.d v).Perm (b.d v))(k:(s.f++b.f).isPerm (t.f++a.f)=true):(s.d v).Perm (t.d v):=by
 have e:=(List.isPerm_iff.mp k).flatMap_right (v.getD · [])
 rw [List.flatMap_append,List.flatMap_append,← PT.df,← PT.df,← PT.df,← PT.df] at e
 exact (List.perm_append_right_iff _).mp (e.trans (h.append_left _))
theorem FQ{α:Type}(v:List (List α))(s t:PT)(k:s.f.isPerm t.f=true):(s.d v).Perm (t.d v):=Df v s t .n .n .nil (by show (s.f++[]).isPerm (t.f++[])=true; rw [List.append_nil,List.append_nil]; exact k)
section
variable{w:World}{Sh:Pos→List Frame→Prop}{C:Code}{Pre oK:Lp→Prop}{ni oA:End→Lp→Prop}
theorem Dn.out(h:Dn w Sh C Pre ni)(k:∀ e L,ni e L→∃ L',L.Perm L'∧oA e L'):Dn w Sh C Pre oA:=by
 intro c s pc nj L hp hc H hs
 obtain ⟨e,s',L1,oI,pos',go,po,H',F⟩:=h c s pc nj L hp hc H hs
 obtain ⟨L2,p,oU⟩:=k _ L1 po
 refine ⟨e,s',L2,oI,pos',go,oU,H'.perm p,F.life,F.gens,F.drawn,F.os,F.old,fun q m=>F.new q (p.mem_iff.mpr m)⟩
theorem Dn.oW(h:Dn w Sh C Pre ni)(k:∀ L,oK L→∃ L0,Pre L0∧L.Perm L0):Dn w Sh C oK ni:=by
 intro c s pc nj L hp hc H hs
 obtain ⟨L0,hp0,p⟩:=k L hp
 obtain ⟨e,s',L1,oI,pos',go,po,H',F⟩:=h c s pc nj L0 hp0 hc (H.perm p) hs
 exact ⟨e,s',L1,oI,pos',go,po,H',F.life,F.gens,F.drawn,F.os,fun b o e n=>F.old b o e fun m=>n ((p.map _).mem_iff.mpr m),fun q m=>(F.new q m).imp (fun a=>(p.map _).mem_iff.mpr a) id⟩
end
structure GA where
 aI:Nat→Nat
 aX:Nat→Nat
 aL:Nat→Nat
structure GS where
 ord:List Nat
 np:Nat→Int
 sc:Nat→List Nat
def B9(nm:Nat→Str)(G:GS)(A:GA)(c:Nat):Lp:=
 [(A.aI c,AG (nm c) (G.np c) (A.aX c) (A.aL c)),(A.aL c,A0 (.seq ⟨(G.sc c).map fun d=>.str (nm d) 0⟩ (G.sc c).length))]
noncomputable def AY(nm:Nat→Str)(A:GA)(l:List Nat):List (Str×Value):=l.map fun c=>(nm c,.ref (A.aI c))
def LN(P:Params)(nm:Nat→Str)(aN:Nat)(G:GS)(A:GA)(R:Lp):Lp:=
 (aN,A7 (A8 P (AY nm A G.ord) G.ord.length))::(G.ord.flatMap (B9 nm G A)++R)
def GP(P:Params)(nm:Nat→Str)(aN:Nat)(G:GS)(L:Lp):Prop:=∃ A R,L.Perm (LN P nm aN G A R)
theorem Dl{α β:Type}[DecidableEq α](f:α→List β):∀ {l:List α} {c:α},c∈l→(l.flatMap f).Perm (f c++(l.erase c).flatMap f):=by
 intro l c h
 have p:=List.perm_cons_erase h
 exact (p.flatMap_right f)
set_option tactic.hygienic true in
theorem Au{nm:Nat→Str}(inj:∀ a b,nm a=nm b→a=b)(A:GA):∀ {l:List Nat} {c:Nat},BI (AY nm A l) (nm c)=if c∈l then some (.ref (A.aI c)) else none
 | [],c=>rfl
 | d::l,c=>by
  have ih:=Au inj A (l:=l) (c:=c)
  have e:BI (AY nm A (d::l)) (nm c)=if nm d==nm c then some (.ref (A.aI d)) else BI (AY nm A l) (nm c):=by
   unfold BI AY
   rw [List.map_cons,List.find?_cons]
   split<;>rename_i h<;>simp only [] at h<;>rw [h]<;>rfl
  rw [e,ih]
  by_cases h:d=c
  ·subst h
   rw [if_pos (by simp),if_pos (.head _)]
  ·have hn:(nm d==nm c)=false:=by
    have:nm d≠nm c:=fun e=>h (inj _ _ e)
    simpa using this
   rw [hn,if_neg (by decide)]
   by_cases hc:c∈l
   ·rw [if_pos hc,if_pos (.tail _ hc)]
   ·rw [if_neg hc,if_neg (fun m=>by cases m with | head=>exact h rfl | tail _ m=>exact hc m)]
end
section
def A9(w:World)(Sh:Pos→List Frame→Prop)(C:Code)(Pre:Lp→Prop)(ni:End→Lp→Prop):Prop:=
 ∀ L0,Pre L0→Dn w Sh C (fun L=>L=L0) (fun e L'=>ni e L'∧∀ a∈L0.map (·.1),a∈L'.map (·.1))
section
variable{w:World}{Sh:Pos→List Frame→Prop}{C:Code}{Pre oK:Lp→Prop}{ni oA:End→Lp→Prop}
theorem A9.nV(h:A9 w Sh C Pre ni)(h1:∀ L,oK L→∃ L0,L.Perm L0∧Pre L0)(h2:∀ e L,ni e L→∃ L',L.Perm L'∧oA e L'):A9 w Sh C oK oA:=by
 intro L0 hp
 obtain ⟨L1,p,hp1⟩:=h1 L0 hp
 refine ((h L1 hp1).out fun e L ⟨po,k⟩=>?_).oW fun L e=>⟨L1,rfl,e ▸ p⟩
 obtain ⟨L',p',po'⟩:=h2 e L po
 exact ⟨L',p',po',fun a m=>(p'.map _).mem_iff.mp (k a ((p.map _).mem_iff.mp m))⟩
theorem A9.again{p9:Code→Lp→Prop}(oq:∀ p p' nj,Sh p nj→Sh p' nj)(h:A9 w Sh C Pre (fun e L=>∃ c,e=.fin (.again c)∧B5 c=true∧p9 c L))(k:∀ c,A9 w Sh (eC c) (p9 c) ni):A9 w Sh C Pre ni:=by
 intro L0 hp
 refine Dn.again (p9:=fun c L=>p9 c L∧∀ a∈L0.map (·.1),a∈L.map (·.1)) oq ((h L0 hp).nV (fun L e=>e) fun e L ⟨⟨c,he,hq,hm⟩,hk⟩=>.inl ⟨c,he,hq,hm,hk⟩) fun c cc s pc nj L ⟨hm,hk⟩ hcc H hs=>?_
 obtain ⟨e,s',L',oI,pos',go,⟨po,hk2⟩,H',F⟩:=k c L hm cc s pc nj L rfl hcc H hs
 exact ⟨e,s',L',oI,pos',go,⟨po,fun a m=>hk2 a (hk a m)⟩,H',F⟩
theorem Ek{S:Spec}(hp:S.pre.length=S.ad.length):S.oH.map (·.1)=S.ad:=List.map_fst_zip (by lia)
theorem Ju{S:Spec}{A:Nat→Nat}(hc:(S.ch A).length=S.ad.length):(S.o8 A).map (·.1)=S.ad++(List.range (S.nw A).length).map A:=by
 unfold Spec.o8
 rw [List.map_append,List.map_fst_zip (by lia),List.map_fst_zip (by simp)]
theorem Spec.nP.k{S:Spec}{I O:Lp→Prop}(h:S.nP w Sh I O)(hp:S.pre.length=S.ad.length:=by rfl)(hc:∀ A,(S.ch A).length=S.ad.length:=by exact fun q=>rfl):A9 w Sh S.C (fun L=>∃ P,I P∧L=S.oH++P) (fun e L'=>∃ A P',O P'∧e=S.fin A∧L'=S.o8 A++P'):=by
 rintro L0 ⟨P,hI,rfl⟩
 refine (h P hI).nV (fun L e=>e) ?_
 rintro e L ⟨A,P',hO,sub,he,rfl⟩
 refine ⟨⟨A,P',hO,he,rfl⟩,fun a m=>?_⟩
 rw [List.map_append,Ek hp] at m
 rw [List.map_append,Ju (hc A)]
 rcases List.mem_append.mp m with m | m
 ·exact List.mem_append_left _ (List.mem_append_left _ m)
 ·exact List.mem_append_right _ (sub a m)
theorem Spec.nP.kp{S:Spec}{R:Lp}(h:S.nP w Sh (fun L=>L=R) (fun L=>L=R))(h1:∀ L,oK L→L.Perm (S.oH++R))(h2:∀ A,∃ L',(S.o8 A++R).Perm L'∧oA (S.fin A) L')(hp:S.pre.length=S.ad.length:=by rfl)(hc:∀ A,(S.ch A).length=S.ad.length:=by exact fun q=>rfl):A9 w Sh S.C oK oA:=
 (h.k hp hc).nV (fun L p=>⟨_,h1 L p,R,rfl,rfl⟩) fun e L ⟨A,P',a,b,c⟩=>by subst a b c; exact h2 A
theorem Spec.nP.kq{S:Spec}{I O:Lp→Prop}(h:S.nP w Sh I O)(h1:∀ L,oK L→∃ P,L.Perm (S.oH++P)∧I P)(h2:∀ A P',O P'→∃ L',(S.o8 A++P').Perm L'∧oA (S.fin A) L')(hp:S.pre.length=S.ad.length:=by rfl)(hc:∀ A,(S.ch A).length=S.ad.length:=by exact fun z=>rfl):A9 w Sh S.C oK oA:=
 (h.k hp hc).nV (fun L p=>let ⟨P,q,i⟩:=h1 L p; ⟨_,q,P,i,rfl⟩) fun e L ⟨A,P',o,b,c⟩=>by subst b c; exact h2 A P' o
theorem A9.go{C1:Code}{M:Lp→Prop}(oq:∀ p p' nj,Sh p nj→Sh p' nj)(hq:B5 C1=true)(h:A9 w Sh C Pre (fun e L=>e=.fin (.again C1)∧M L))(k:A9 w Sh (eC C1) M ni):A9 w Sh C Pre ni:=
 .again (p9:=fun c L=>c=C1∧M L) oq (h.nV (fun L h=>⟨L,.refl _,h⟩) fun e L ⟨a,b⟩=>⟨L,.refl _,C1,a,hq,rfl,b⟩) fun c L0 ⟨a,b⟩=>by subst a; exact k L0 b
theorem Spec.nP.r6{S:Spec}{R:Lp}{C1:Code}{M:Lp→Prop}(h:S.nP w Sh (fun L=>L=R) (fun L=>L=R))(oq:∀ p p' nj,Sh p nj→Sh p' nj)(hq:B5 C1=true)(hf:∀ A,S.fin A=.fin (.again C1))(x:∀ A,∃ L',(S.o8 A++R).Perm L'∧M L')(k:A9 w Sh (eC C1) M ni)(hp:S.pre.length=S.ad.length:=by rfl)(hc:∀ A,(S.ch A).length=S.ad.length:=by exact fun q=>rfl):A9 w Sh S.C (fun L=>∃ P,P=R∧L=S.oH++P) ni:=
 .go oq hq ((h.k hp hc).nV (fun L p=>⟨L,.refl _,p⟩) fun e L ⟨A,P',a,b,c⟩=>by subst a b c; exact let ⟨L',p,m⟩:=x A; ⟨L',p,hf A,m⟩) k
end
end
section
inductive Lh (ni:End→Lp→Lp→Prop) (L0:Lp) (e:End) (L':Lp):Prop
 | mk (Lk Ln:Lp) (q:L'.Perm (Lk++Ln)) (po:ni e Lk Ln) (k:∀ a∈L0.map (·.1),a∈Lk.map (·.1)):Lh ni L0 e L'
def Aj(w:World)(Sh:Pos→List Frame→Prop)(C:Code)(Pre:Lp→Prop)(ni:End→Lp→Lp→Prop):Prop:=
 ∀ L0,Pre L0→Dn w Sh C (fun L=>L=L0) (Lh ni L0)
def Spec.p7(S:Spec)(A:Nat→Nat):Lp:=((List.range (S.nw A).length).map A).zip (S.nw A)
section
variable{w:World}{Sh:Pos→List Frame→Prop}{C:Code}{Pre oK:Lp→Prop}{oA:End→Lp→Prop}{ni:End→Lp→Lp→Prop}
theorem Aj.nV{pV:End→Lp→Lp→Prop}(h:Aj w Sh C Pre ni)(h1:∀ L,oK L→∃ L0,L.Perm L0∧Pre L0)(h2:∀ e Lk Ln,ni e Lk Ln→∃ rt,Lk.Perm rt∧pV e rt Ln):Aj w Sh C oK pV:=by
 intro L0 hp
 obtain ⟨L1,p,hp1⟩:=h1 L0 hp
 refine ((h L1 hp1).nV (fun L h=>h) ?_).oW fun L e=>⟨L1,rfl,e ▸ p⟩
 rintro e L ⟨Lk,Ln,q,po,k⟩
 obtain ⟨rt,p',po'⟩:=h2 e Lk Ln po
 exact ⟨rt,Ln,q.trans (.append_right _ p'),po',fun a m=>(p'.map _).mem_iff.mp (k a ((p.map _).mem_iff.mp m))⟩
theorem Aj.k(h:Aj w Sh C Pre ni)(h2:∀ e Lk Ln,ni e Lk Ln→oA e (Lk++Ln)):A9 w Sh C Pre oA:=by
 intro L0 hp
 refine (h L0 hp).out ?_
 rintro e L ⟨Lk,Ln,q,po,k⟩
 refine ⟨Lk++Ln,q,h2 _ _ _ po,fun a m=>?_⟩
 rw [List.map_append]; exact List.mem_append_left _ (k a m)
theorem Aj.kk(h:Aj w Sh C Pre ni):A9 w Sh C Pre (fun e L=>∃ Lk Ln,ni e Lk Ln∧L=Lk++Ln):=h.k fun q q q p=>⟨_,_,p,rfl⟩
theorem A9.n0(h:A9 w Sh C Pre oA):Aj w Sh C Pre (fun e Lk Ln=>oA e Lk∧Ln=[]):=by
 intro L0 hp
 refine (h L0 hp).nV (fun L e=>e) ?_
 rintro e L ⟨po,k⟩
 exact ⟨L,[],by rw [List.append_nil],⟨po,rfl⟩,k⟩
theorem A9.r7{p9:Code→Lp→Prop}(oq:∀ p p' nj,Sh p nj→Sh p' nj)(h:A9 w Sh C Pre (fun e L=>∃ c,e=.fin (.again c)∧B5 c=true∧p9 c L))(k:∀ c,Aj w Sh (eC c) (p9 c) ni):Aj w Sh C Pre ni:=by
 intro L0 hp
 refine Dn.again (p9:=fun c L=>p9 c L∧∀ a∈L0.map (·.1),a∈L.map (·.1)) oq ((h L0 hp).nV (fun L e=>e) fun e L ⟨⟨c,he,hq,hm⟩,hk⟩=>.inl ⟨c,he,hq,hm,hk⟩) fun c cc s pc nj L ⟨hm,hk⟩ hcc H hs=>?_
 obtain ⟨e,s',L',oI,pos',go,⟨Lk,Ln,q,po,hk2⟩,H',F⟩:=k c L hm cc s pc nj L rfl hcc H hs
 exact ⟨e,s',L',oI,pos',go,⟨Lk,Ln,q,po,fun a m=>hk2 a (hk a m)⟩,H',F⟩
theorem Spec.nX.n{Z:Type}{F:Z→Spec}{O:Z→(Nat→Nat)→Lp→Prop}{S:Spec}{I:Lp→Prop}(h:Spec.nX F O S w Sh I)(hp:S.pre.length=S.ad.length:=by rfl)(hF:∀ z,(F z).ad=S.ad:=by exact fun q=>rfl)(hc:∀ z A,((F z).ch A).length=S.ad.length:=by exact fun q q=>rfl) :
  Aj w Sh S.C (fun L=>∃ P,I P∧L=S.oH++P) (fun e Lk Ln=>∃ z A P',O z A P'∧e=(F z).fin A∧Lk=S.ad.zip ((F z).ch A)++P'∧Ln=(F z).p7 A):=by
 rintro L0 ⟨P,hI,rfl⟩
 refine (h P hI).nV (fun L e=>e) ?_
 rintro e L ⟨z,A,P',hO,sub,he,rfl⟩
 refine ⟨S.ad.zip ((F z).ch A)++P',(F z).p7 A,?_,⟨z,A,P',hO,he,rfl,rfl⟩,fun a m=>?_⟩
 ·unfold Spec.o8 Spec.p7
  rw [hF,List.append_assoc,List.append_assoc]
  exact .append_left _ List.perm_append_comm
 ·rw [List.map_append,Ek hp] at m
  rw [List.map_append,List.map_fst_zip (by rw [hc]; exact Nat.le_refl _)]
  rcases List.mem_append.mp m with m | m
  ·exact List.mem_append_left _ m
  ·exact List.mem_append_right _ (sub a m)
theorem Spec.nX.kq{Z:Type}{F:Z→Spec}{O:Z→(Nat→Nat)→Lp→Prop}{S:Spec}{I:Lp→Prop}(h:Spec.nX F O S w Sh I)(h1:∀ L,Pre L→∃ P,L.Perm (S.oH++P)∧I P)(h2:∀ z A P',O z A P'→∃ L',((S.ad.zip ((F z).ch A)++P')++(F z).p7 A).Perm L'∧oA ((F z).fin A) L')(hp:S.pre.length=S.ad.length:=by rfl)(hF:∀ z,(F z).ad=S.ad:=by exact fun y=>rfl)(hc:∀ z A,((F z).ch A).length=S.ad.length:=by exact fun y y=>rfl):A9 w Sh S.C Pre oA:=
 (h.n hp hF hc).kk.nV (fun L p=>let ⟨P,q,i⟩:=h1 L p; ⟨_,q,P,i,rfl⟩) fun e L ⟨Lk,Ln,⟨z,A,P',o,b,c,d⟩,e⟩=>by subst e d c b; exact h2 z A P' o
theorem Spec.oC.d{Z:Type}{F:Z→Spec}{φ:Z→(Nat→Nat)→Prop}{S:Spec}{I O:Lp→Prop}(h:Spec.oC F φ S w Sh I O):Spec.nX F (fun z A P'=>φ z A∧O P') S w Sh I:=
 fun P hI=>(h P hI).nV (fun q e=>e) fun e L ⟨z,A,P',a,b,c,d,g⟩=>⟨z,A,P',⟨a,b⟩,c,d,g⟩
theorem Spec.nX.z{Z:Type}{F:Z→Spec}{φ:Z→(Nat→Nat)→Prop}{S:Spec}{I O:Lp→Prop}(h:Spec.nX F (fun z A P'=>φ z A∧O P') S w Sh I):Spec.oC F φ S w Sh I O:=
 fun P hI=>(h P hI).nV (fun q e=>e) fun e L ⟨z,A,P',⟨a,b⟩,c,d,g⟩=>⟨z,A,P',a,b,c,d,g⟩
theorem Spec.nP.d{S:Spec}{I O:Lp→Prop}(h:S.nP w Sh I O):Spec.nX (fun _:Unit=>S) (fun q q P'=>O P') S w Sh I:=
 fun P hI=>(h P hI).nV (fun q e=>e) fun e L ⟨A,P',a,b,c,d⟩=>⟨(),A,P',a,b,c,d⟩
theorem Spec.nX.p{S:Spec}{I O:Lp→Prop}(h:Spec.nX (fun _:Unit=>S) (fun q q P'=>O P') S w Sh I):S.nP w Sh I O:=
 fun P hI=>(h P hI).nV (fun q e=>e) fun e L ⟨_,A,P',a,b,c,d⟩=>⟨A,P',a,b,c,d⟩
theorem Aj.pR{Z:Type}{F:Z→Spec}{O:Z→(Nat→Nat)→Lp→Prop}{S:Spec}{I:Lp→Prop}(h:Aj w Sh S.C Pre ni)
  (h1:∀ P,I P→∃ L0,(S.oH++P).Perm L0∧Pre L0) (h2:∀ e Lk Ln,ni e Lk Ln→∃ z A P' Lx,O z A (P'++Lx)∧e=(F z).fin A∧Lk.Perm (S.ad.zip ((F z).ch A)++P')∧Ln.Perm ((F z).p7 A++Lx)) (hp:S.pre.length=S.ad.length:=by rfl) (hF:∀ z,(F z).ad=S.ad:=by exact fun y=>rfl) (hc:∀ z A,((F z).ch A).length=S.ad.length:=by exact fun y y=>rfl):Spec.nX F O S w Sh I:=by
 intro P hI c s pc nj L eL hC H hs
 subst eL
 obtain ⟨L0,p,hp0⟩:=h1 P hI
 obtain ⟨e,s',L',oI,pos',go,⟨Lk,Ln,q,po,k⟩,H',Fr'⟩:=h L0 hp0 c s pc nj L0 rfl hC (H.perm p) hs
 obtain ⟨z,A,P',Lx,hO,he,p2,pn⟩:=h2 _ _ _ po
 have p3:L'.Perm ((F z).o8 A++(P'++Lx)):=by
  refine q.trans ((p2.append pn).trans ?_)
  unfold Spec.o8 Spec.p7
  rw [hF,List.append_assoc,List.append_assoc]
  refine .append_left _ ?_
  rw [← List.append_assoc,← List.append_assoc]
  exact .append_right _ List.perm_append_comm
 refine ⟨e,s',(F z).o8 A++(P'++Lx),oI,pos',go,⟨z,A,P'++Lx,hO,fun a m=>?_,he,rfl⟩,H'.perm p3,Fr'.life,Fr'.gens,Fr'.drawn,Fr'.os,fun b o e n=>Fr'.old b o e fun m=>n ((p.map _).mem_iff.mpr m),fun q m=>(Fr'.new q (p3.mem_iff.mpr m)).imp (fun a=>(p.map _).mem_iff.mpr a) id⟩
 have m1:a∈(S.oH++P).map (·.1):=by rw [List.map_append]; exact List.mem_append_right _ m
 have m2:=(p2.map (·.1)).mem_iff.mp (k a ((p.map _).mem_iff.mp m1))
 rw [List.map_append,List.map_fst_zip (by rw [hc]; exact Nat.le_refl _)] at m2
 rcases List.mem_append.mp m2 with m2 | m2
 ·exfalso
  have nd:=H.nd
  rw [List.map_append,Ek hp] at nd
  exact (List.nodup_append.mp nd).2.2 a m2 a m rfl
 ·rw [List.map_append]; exact List.mem_append_left _ m2
theorem Spec.oC.kz{Z:Type}{F:Z→Spec}{φ:Z→(Nat→Nat)→Prop}{S:Spec}{R:Lp}(h:Spec.oC F φ S w Sh (fun L=>L=R) (fun L=>L=R))(h1:∀ L,oK L→L.Perm (S.oH++R))(h2:∀ z A,φ z A→∃ L',(S.ad.zip ((F z).ch A)++R++(F z).p7 A).Perm L'∧oA ((F z).fin A) L')(hp:S.pre.length=S.ad.length:=by rfl)(hF:∀ z,(F z).ad=S.ad:=by exact fun q=>rfl)(hc:∀ z A,((F z).ch A).length=S.ad.length:=by exact fun q q=>rfl):A9 w Sh S.C oK oA:=
 (h.d.n hp hF hc).kk.nV (fun L p=>⟨_,h1 L p,R,rfl,rfl⟩) fun e L ⟨_,_,⟨z,A,P',⟨a,b⟩,c,d,g⟩,f⟩=>by subst b c d g f; exact h2 z A a
theorem Aj.toD{Z:Type}{F:Z→Spec}{O:Z→(Nat→Nat)→Lp→Prop}{S:Spec}{I:Lp→Prop}(h:Aj w Sh S.C Pre ni)
  (h1:∀ P,I P→∃ L0,(S.oH++P).Perm L0∧Pre L0) (h2:∀ e Lk Ln,ni e Lk Ln→∃ z A P',O z A P'∧e=(F z).fin A∧Lk.Perm (S.ad.zip ((F z).ch A)++P')∧Ln=(F z).p7 A) (hp:S.pre.length=S.ad.length:=by rfl) (hF:∀ z,(F z).ad=S.ad:=by exact fun q=>rfl) (hc:∀ z A,((F z).ch A).length=S.ad.length:=by exact fun q q=>rfl):Spec.nX F O S w Sh I:=
 h.pR h1 (fun e Lk Ln p=>let ⟨z,A,P',a,b,c,d⟩:=h2 e Lk Ln p; ⟨z,A,P',[],by rw [List.append_nil]; exact a,b,c,by rw [List.append_nil,d]⟩) hp hF hc
theorem A9.toD{Z:Type}{F:Z→Spec}{O:Z→(Nat→Nat)→Lp→Prop}{S:Spec}{I:Lp→Prop}(h:A9 w Sh S.C Pre oA)
  (h1:∀ P,I P→∃ L0,(S.oH++P).Perm L0∧Pre L0) (h2:∀ e L,oA e L→∃ z A P',O z A P'∧e=(F z).fin A∧L.Perm ((F z).o8 A++P')) (hp:S.pre.length=S.ad.length:=by rfl) (hF:∀ z,(F z).ad=S.ad:=by exact fun q=>rfl) (hc:∀ z A,((F z).ch A).length=S.ad.length:=by exact fun q q=>rfl) (hn:∀ z A,(F z).nw A=[]:=by exact fun q q=>rfl):Spec.nX F O S w Sh I:=
 h.n0.toD h1 (fun e Lk Ln p=>let ⟨z,A,P',a,b,c⟩:=h2 e Lk p.1; ⟨z,A,P',a,b,by unfold Spec.o8 at c; rw [hF,hn] at c; simpa using c,by rw [p.2]; unfold Spec.p7; rw [hn]; rfl⟩) hp hF hc
theorem A9.qG{w:World}{Sh:Pos→List Frame→Prop}{Pre:Lp→Prop}{ni:End→Lp→Prop}{S:Spec}{I O:Lp→Prop}(h:A9 w Sh S.C Pre ni)
  (h1:∀ P,I P→∃ L0,(S.oH++P).Perm L0∧Pre L0) (h2:∀ e L,ni e L→∃ A P',O P'∧e=S.fin A∧L.Perm (S.o8 A++P')) (hp:S.pre.length=S.ad.length:=by rfl) (hc:∀ A,(S.ch A).length=S.ad.length:=by exact fun q=>rfl) (hn:∀ A,S.nw A=[]:=by exact fun q=>rfl):S.nP w Sh I O:=by
 have d:=A9.toD (Z:=Unit) (F:=fun q=>S) (O:=fun q q P'=>O P') (I:=I) h h1 (fun e L po=>let ⟨A,P',a,b,c⟩:=h2 e L po; ⟨(),A,P',a,b,c⟩) hp (fun q=>rfl) (fun q=>hc) (fun q=>hn)
 intro P hI
 exact (d P hI).nV (fun q h=>h) fun e L ⟨_,A,P',a,b,c,d⟩=>⟨A,P',a,b,c,d⟩
theorem A9.goN{C1:Code}{M:Lp→Prop}(oq:∀ p p' nj,Sh p nj→Sh p' nj)(hq:B5 C1=true)(h:A9 w Sh C Pre (fun e L=>e=.fin (.again C1)∧M L))(k:Aj w Sh (eC C1) M ni):Aj w Sh C Pre ni:=
 A9.r7 (p9:=fun c L=>c=C1∧M L) oq (h.nV (fun L h=>⟨L,.refl _,h⟩) fun e L ⟨a,b⟩=>⟨L,.refl _,C1,a,hq,rfl,b⟩) fun c L0 ⟨a,b⟩=>by subst a; exact k L0 b
end
end
noncomputable def upd{β:Type}(f:Nat→β)(c:Nat)(v:β)(d:Nat):β:=if d=c then v else f d
theorem Ak{β:Type}(f:Nat→β)(c:Nat)(v:β):upd f c v c=v:=if_pos rfl
theorem AB{β:Type}(f:Nat→β){c d:Nat}(v:β)(h:d≠c):upd f c v d=f d:=if_neg h
def Dq(x:Nat)(G:GS):GS:=if x∈G.ord then { G with np:=upd G.np x (G.np x+1) } else ⟨G.ord++[x],upd G.np x 1,upd G.sc x []⟩
def Gq(x y:Nat)(G:GS):GS:=if y∈G.ord then { G with sc:=upd G.sc y (G.sc y++[x]) } else ⟨G.ord++[y],upd G.np y 0,upd G.sc y [x]⟩
def AU(x y:Nat)(G:GS):GS:=Gq x y (Dq x G)
theorem Ur{α β:Type}[DecidableEq α]{f g:α→List β}{l:List α}{x y:α}(hx:x∈l)(hy:y∈l)(qN:x≠y)(nd:l.Nodup)(hg:∀ d,d≠x→d≠y→g d=f d):(l.flatMap g).Perm (g x++(g y++((l.erase x).erase y).flatMap f)):=by
 have hy2:y∈l.erase x:=(List.mem_erase_of_ne (Ne.symm qN)).mpr hy
 refine (Dl g hx).trans (.append_left _ ((Dl g hy2).trans (.append_left _ (.of_eq ?_))))
 have hh:∀ d∈(l.erase x).erase y,g d=f d:=fun d hd=>by
  have n2:(l.erase x).Nodup:=nd.erase x
  have h1:d≠y:=fun e=>by subst e; exact List.Nodup.not_mem_erase n2 hd
  have h2:d≠x:=fun e=>by subst e; exact List.Nodup.not_mem_erase nd (List.mem_of_mem_erase hd)
  exact hg d h2 h1
 generalize (l.erase x).erase y=m at hh
 induction m with
 | nil=>rfl
 | cons a m ih=>rw [List.flatMap_cons,List.flatMap_cons,hh a (.head _),ih (fun d hd=>hh d (.tail _ hd))]
variable{w b b2}
theorem Ho{nm:Nat→Str}{G:GS}{x y:Nat}(aS aD aN:Nat)(h:∀ A R,A9 (wf w b b2) (A3 Be) (Lf w.2 (nm x) (nm y) aS aD aN).C (fun L=>L.Perm ([(aS,AJ aD),(aD,AK w.2 aN .none 0 0)]++LN w.2 nm aN G A R)) (fun e L=>e=.fin (.done (.ret .none))∧∃ A R,L.Perm ([(aS,AJ aD),(aD,AK w.2 aN .none 0 0)]++LN w.2 nm aN (AU x y G) A R))) :
  (Lf w.2 (nm x) (nm y) aS aD aN).nP (wf w b b2) (A3 Be) (GP w.2 nm aN G) (GP w.2 nm aN (AU x y G)):=
 A9.qG (Pre:=fun L=>∃ A R,L.Perm ([(aS,AJ aD),(aD,AK w.2 aN .none 0 0)]++LN w.2 nm aN G A R)) (fun L0 ⟨A,R,p⟩=>h A R L0 p) (fun P ⟨A,R,p⟩=>⟨_,List.Perm.append_left _ p,A,R,.refl _⟩) fun e L ⟨he,A,R,p⟩=>⟨fun q=>0,_,⟨A,R,.refl _⟩,he,p⟩
theorem YI{nm:Nat→Str}(inj:∀ a b,nm a=nm b→a=b){G:GS}{x y:Nat}(hx:x∈G.ord)(hy:y∈G.ord)(qN:x≠y)(nd:G.ord.Nodup)(hs:(G.sc y).length < 1000)(aS aD aN:Nat) :
  (Lf w.2 (nm x) (nm y) aS aD aN).nP (wf w b b2) (A3 Be) (GP w.2 nm aN G) (GP w.2 nm aN (AU x y G)):=by
 refine Ho aS aD aN fun A R=>?_
 have lx:BI (AY nm A G.ord) (nm x)=some (.ref (A.aI x)):=by rw [Au inj,if_pos hx]
 have ly:BI (AY nm A G.ord) (nm y)=some (.ref (A.aI y)):=by rw [Au inj,if_pos hy]
 have G':AU x y G = { G with np:=upd G.np x (G.np x+1),sc:=upd G.sc y (G.sc y++[x]) }:=by
  unfold AU Dq
  rw [if_pos hx]
  unfold Gq
  rw [if_pos hy]
 have fx:=Ur (f:=B9 nm G A) (g:=B9 nm G A) hx hy qN nd (fun q q q=>rfl)
 have fy:=Ur (f:=B9 nm G A) (g:=B9 nm (AU x y G) A) hx hy qN nd (fun d h1 h2=>by
  rw [G']; unfold B9; simp only [AB _ _ h1,AB _ _ h2])
 refine (UU w b b2 aS aD aN (A.aI x) (A.aI y) (A.aL y) (nm x) (nm y) (G.np x) (G.np y) (A.aX x) (A.aL x) (A.aX y) (A8 w.2 (AY nm A G.ord) G.ord.length) (.seq ⟨(G.sc y).map fun d=>.str (nm d) 0⟩ (G.sc y).length) (.seq ⟨(G.sc y++[x]).map fun d=>.str (nm d) 0⟩ (G.sc y++[x]).length) _ _ rfl (by rw [lx]; first | done | rfl) (by rw [ly]; first | done | rfl) _ _ rfl (by simp) (by have:=A5; simp; lia) (fun L=>L=(A.aL x,A0 (.seq ⟨(G.sc x).map fun d=>.str (nm d) 0⟩ (G.sc x).length))::(((G.ord.erase x).erase y).flatMap (B9 nm G A)++R))).kp (fun q p=>p.trans ?_) fun A1=>?_
 ·refine (List.Perm.append_left _ (.cons _ (.append_right _ fx))).trans ?_
  refine .cons _ (.cons _ (.cons _ (.cons _ ?_)))
  exact (List.Perm.swap _ _ _).trans (.cons _ (.swap _ _ _))
 ·refine ⟨_,?_,rfl,A,R,.refl _⟩
  have n1:B9 nm (AU x y G) A x=[(A.aI x,AG (nm x) (G.np x+1) (A.aX x) (A.aL x)),(A.aL x,A0 (.seq ⟨(G.sc x).map fun d=>.str (nm d) 0⟩ (G.sc x).length))]:=by
   rw [G']; unfold B9; simp only [Ak,AB _ _ qN]
  have n2:B9 nm (AU x y G) A y=[(A.aI y,AG (nm y) (G.np y) (A.aX y) (A.aL y)),(A.aL y,A0 (.seq ⟨(G.sc y++[x]).map fun d=>.str (nm d) 0⟩ (G.sc y++[x]).length))]:=by
   rw [G']; unfold B9; simp only [Ak,AB _ _ (Ne.symm qN)]
  have eo:(AU x y G).ord=G.ord:=by rw [G']
  rw [n1,n2] at fy
  unfold LN
  rw [eo]
  refine List.Perm.symm ?_
  refine (List.Perm.append_left _ (.cons _ (.append_right _ fy))).trans ?_
  refine .cons _ (.cons _ (.cons _ (.cons _ ?_)))
  exact (List.Perm.swap _ _ _).trans (.cons _ (.swap _ _ _))
theorem C9{α β:Type}{f g:α→List β}:∀ {l:List α},(∀ d∈l,g d=f d)→l.flatMap g=l.flatMap f
 | [],_=>rfl
 | a::m,h=>by rw [List.flatMap_cons,List.flatMap_cons,h a (.head _),C9 (fun d hd=>h d (.tail _ hd))]
theorem Hh{α β:Type}[DecidableEq α]{f g:α→List β}{l:List α}{x:α}(hx:x∈l)(nd:l.Nodup)(hg:∀ d∈l,d≠x→g d=f d):(l.flatMap g).Perm (g x++(l.erase x).flatMap f):=by
 refine (Dl g hx).trans (.append_left _ (.of_eq (C9 fun d hd=>?_)))
 exact hg d (List.mem_of_mem_erase hd) (fun e=>by subst e; exact List.Nodup.not_mem_erase nd hd)
def GA.set(A:GA)(x a b c:Nat):GA:=⟨upd A.aI x a,upd A.aX x b,upd A.aL x c⟩
theorem CQ{nm:Nat→Str}{A:GA}{l:List Nat}{x a b c:Nat}(h:x∉l):AY nm (A.set x a b c) (l++[x])=AY nm A l++[(nm x,.ref a)]:=by
 unfold AY
 rw [List.map_append]
 congr 1
 ·refine List.map_congr_left fun d hd=>?_
  have:d≠x:=fun e=>h (e ▸ hd)
  simp only [GA.set,AB _ _ this]
 ·simp [GA.set,Ak]
theorem EU{nm:Nat→Str}{G G':GS}{A:GA}{x a b c d:Nat}(h:d≠x)(h1:G'.np d=G.np d)(h2:G'.sc d=G.sc d):B9 nm G' (A.set x a b c) d=B9 nm G A d:=by
 unfold B9 GA.set
 simp only [AB _ _ h,h1,h2]
theorem gB{α:Type}(S D N i l:α)(rest R:List α):(S::D::(N::((([i,l]++rest))++R))).Perm ([S,D,N,i,l]++(rest++R)):=by simp
theorem mg{α:Type}(S D N i l iy dy ly:α)(rest R:List α):([S,D,N,i]++(l::(rest++R))++[iy,dy,ly]).Perm ([S,D]++(N::((([i,l]++rest)++[iy,ly])++(dy::R)))):=
 FQ [[S],[D],[N],[i],[l],rest,R,[iy],[dy],[ly]] (.a (.a (.q [0,1,2,3]) (.r [4,5] (.l 6))) (.q [7,8,9])) (.a (.q [0,1]) (.a (.l 2) (.a (.a (.a (.q [3,4]) (.l 5)) (.q [7,9])) (.r [8] (.l 6))))) rfl
theorem gA{α:Type}(S D N i l:α)(rest R:List α):([S,D]++(N::(([i,l]++rest)++R))).Perm ([S,D,N,i]++(l::(rest++R))):=by simp
theorem mf{α:Type}(S D N i l ix dx lx:α)(rest R:List α):([S,D,N,i,l]++(rest++R)++[ix,dx,lx]).Perm ([S,D]++(N::((([i,l]++rest)++[ix,lx])++(dx::R)))):=
 FQ [[S],[D],[N],[i],[l],rest,R,[ix],[dx],[lx]] (.a (.a (.q [0,1,2,3,4]) (.r [5] (.l 6))) (.q [7,8,9])) (.a (.q [0,1]) (.a (.l 2) (.a (.a (.a (.q [3,4]) (.l 5)) (.q [7,9])) (.r [8] (.l 6))))) rfl
theorem me{α:Type}(S D N ix dx lx iy dy ly:α)(all R:List α):([S,D,N]++(all++R)++[ix,dx,lx,iy,dy,ly]).Perm ([S,D]++(N::(((all++[ix,lx])++[iy,ly])++(dx::dy::R)))):=
 FQ [[S],[D],[N],all,R,[ix],[dx],[lx],[iy],[dy],[ly]] (.a (.a (.q [0,1,2]) (.r [3] (.l 4))) (.q [5,6,7,8,9,10])) (.a (.q [0,1]) (.a (.l 2) (.a (.a (.a (.l 3) (.q [5,7])) (.q [8,10])) (.r [6,9] (.l 4))))) rfl
theorem md{α:Type}(S D N ix dx lx:α)(all R:List α):([S,D,N]++(all++R)++[ix,dx,lx]).Perm ([S,D]++(N::((all++[ix,lx])++(dx::R)))):=
 FQ [[S],[D],[N],all,R,[ix],[dx],[lx]] (.a (.a (.q [0,1,2]) (.r [3] (.l 4))) (.q [5,6,7])) (.a (.q [0,1]) (.a (.l 2) (.a (.a (.l 3) (.q [5,7])) (.r [6] (.l 4))))) rfl
theorem YH{nm:Nat→Str}(inj:∀ a b,nm a=nm b→a=b){G:GS}{x:Nat}(hx:x∈G.ord)(nd:G.ord.Nodup)(hs:(G.sc x).length < 1000)(aS aD aN:Nat) :
  (Lf w.2 (nm x) (nm x) aS aD aN).nP (wf w b b2) (A3 Be) (GP w.2 nm aN G) (GP w.2 nm aN (AU x x G)):=by
 refine Ho aS aD aN fun A R=>?_
 have lx:BI (AY nm A G.ord) (nm x)=some (.ref (A.aI x)):=by rw [Au inj,if_pos hx]
 have G':AU x x G = { G with np:=upd G.np x (G.np x+1),sc:=upd G.sc x (G.sc x++[x]) }:=by
  unfold AU Dq
  rw [if_pos hx]
  unfold Gq
  rw [if_pos hx]
 have fx:=Hh (f:=B9 nm G A) (g:=B9 nm G A) hx nd (fun q q q=>rfl)
 have fy:=Hh (f:=B9 nm G A) (g:=B9 nm (AU x x G) A) hx nd (fun d q h1=>by
  rw [G']; unfold B9; simp only [AB _ _ h1])
 have n1:B9 nm (AU x x G) A x=[(A.aI x,AG (nm x) (G.np x+1) (A.aX x) (A.aL x)),(A.aL x,A0 (.seq ⟨(G.sc x++[x]).map fun d=>.str (nm d) 0⟩ (G.sc x++[x]).length))]:=by
  rw [G']; unfold B9; simp only [Ak]
 have eo:(AU x x G).ord=G.ord:=by rw [G']
 rw [n1] at fy
 refine (UT w b b2 aS aD aN (A.aI x) (A.aL x) (nm x) (G.np x) (A.aX x) (A8 w.2 (AY nm A G.ord) G.ord.length) (.seq ⟨(G.sc x).map fun d=>.str (nm d) 0⟩ (G.sc x).length) (.seq ⟨(G.sc x++[x]).map fun d=>.str (nm d) 0⟩ (G.sc x++[x]).length) _ _ rfl (by rw [lx]; first | done | rfl) _ _ rfl (by simp) (by have:=A5; simp; lia) (fun L=>L=(G.ord.erase x).flatMap (B9 nm G A)++R)).kp (fun q p=>p.trans ?_) fun A1=>?_
 ·exact (List.Perm.append_left _ (.cons _ (.append_right _ fx))).trans (gB _ _ _ _ _ _ _)
 ·refine ⟨_,?_,rfl,A,R,.refl _⟩
  unfold LN
  rw [eo]
  exact (gB _ _ _ _ _ _ _).symm.trans (List.Perm.symm (List.Perm.append_left _ (.cons _ (.append_right _ fy))))
theorem YJ{nm:Nat→Str}(inj:∀ a b,nm a=nm b→a=b){G:GS}{x y:Nat}(hx:x∈G.ord)(hy:y∉G.ord)(nd:G.ord.Nodup)(hs:G.ord.length < 1000)(aS aD aN:Nat) :
  (Lf w.2 (nm x) (nm y) aS aD aN).nP (wf w b b2) (A3 Be) (GP w.2 nm aN G) (GP w.2 nm aN (AU x y G)):=by
 refine Ho aS aD aN fun A R=>?_
 have qN:x≠y:=fun e=>hy (e ▸ hx)
 have lx:BI (AY nm A G.ord) (nm x)=some (.ref (A.aI x)):=by rw [Au inj,if_pos hx]
 have ly:BI (AY nm A G.ord) (nm y)=none:=by rw [Au inj,if_neg hy]
 have G':AU x y G=⟨G.ord++[y],upd (upd G.np x (G.np x+1)) y 0,upd G.sc y [x]⟩:=by
  unfold AU Dq
  rw [if_pos hx]
  unfold Gq
  rw [if_neg hy]
 have fx:=Hh (f:=B9 nm G A) (g:=B9 nm G A) hx nd (fun q q q=>rfl)
 refine (US w b b2 aS aD aN (A.aI x) (nm x) (nm y) (G.np x) (A.aX x) (A.aL x) (AY nm A G.ord) G.ord.length (A8 w.2 (AY nm A G.ord) G.ord.length) rfl (by rw [lx]; first | done | rfl) ly (by have:=A5; simp [AY]; lia) (fun L=>L=(A.aL x,A0 (.seq ⟨(G.sc x).map fun d=>.str (nm d) 0⟩ (G.sc x).length))::((G.ord.erase x).flatMap (B9 nm G A)++R))).kz (fun q p=>p.trans ?_) fun z A1 hz=>?_
 ·exact (List.Perm.append_left _ (.cons _ (.append_right _ fx))).trans (gA _ _ _ _ _ _ _)
 ·cases hz
  have fy:=Hh (f:=B9 nm G A) (g:=B9 nm (AU x y G) (A.set y (A1 0) (A1 1) (A1 2))) hx nd (fun d hd h1=>by
   have h2:d≠y:=fun e=>hy (e ▸ hd)
   refine EU h2 ?_ ?_
   ·rw [G']; simp only [AB _ _ h1,AB _ _ h2]
   ·rw [G']; simp only [AB _ _ h2])
  have n1:B9 nm (AU x y G) (A.set y (A1 0) (A1 1) (A1 2)) x=[(A.aI x,AG (nm x) (G.np x+1) (A.aX x) (A.aL x)),(A.aL x,A0 (.seq ⟨(G.sc x).map fun d=>.str (nm d) 0⟩ (G.sc x).length))]:=by
   rw [G']; unfold B9 GA.set; simp only [Ak,AB _ _ qN]
  have n2:B9 nm (AU x y G) (A.set y (A1 0) (A1 1) (A1 2)) y=[(A1 0,AG (nm y) 0 (A1 1) (A1 2)),(A1 2,A0 (.seq #[.str (nm x) 0] 1))]:=by
   rw [G']; unfold B9 GA.set; simp only [Ak]; rfl
  have eo:(AU x y G).ord=G.ord++[y]:=by rw [G']
  rw [n1] at fy
  refine ⟨_,?_,rfl,A.set y (A1 0) (A1 1) (A1 2),(A1 1,AR [] 0)::R,.refl _⟩
  unfold LN
  rw [eo,CQ hy,List.flatMap_append,List.flatMap_cons,List.flatMap_nil,List.append_nil,n2,List.length_append]
  exact (mg _ _ _ _ _ _ _ _ _ _).trans (List.Perm.symm (List.Perm.append_left _ (.cons _ (.append_right _ (.append_right _ fy)))))
theorem YL{nm:Nat→Str}(inj:∀ a b,nm a=nm b→a=b){G:GS}{x y:Nat}(hx:x∉G.ord)(hy:y∈G.ord)(nd:G.ord.Nodup)(hs:(G.sc y).length < 1000)(hn:G.ord.length < 1000)(aS aD aN:Nat) :
  (Lf w.2 (nm x) (nm y) aS aD aN).nP (wf w b b2) (A3 Be) (GP w.2 nm aN G) (GP w.2 nm aN (AU x y G)):=by
 refine Ho aS aD aN fun A R=>?_
 have hyx:y≠x:=fun e=>hx (e ▸ hy)
 have lx:BI (AY nm A G.ord) (nm x)=none:=by rw [Au inj,if_neg hx]
 have ly:∀ a:Nat,(BI (AY nm A G.ord++[(nm x,.ref a)]) (nm y)).getD .none=.ref (A.aI y):=fun a=>by
  rw [← CQ (b:=0) (c:=0) hx,Au inj,if_pos (List.mem_append_left _ hy)]
  simp only [GA.set,AB _ _ hyx]; rfl
 have G':AU x y G=⟨G.ord++[x],upd G.np x 1,upd (upd G.sc x []) y (G.sc y++[x])⟩:=by
  unfold AU Dq
  rw [if_neg hx]
  unfold Gq
  rw [if_pos (List.mem_append_left _ hy)]
  simp only [AB _ _ hyx]
 have fx:=Hh (f:=B9 nm G A) (g:=B9 nm G A) hy nd (fun q q q=>rfl)
 refine (UR w b b2 aS aD aN (A.aI y) (A.aL y) (nm x) (nm y) (G.np y) (A.aX y) (AY nm A G.ord) G.ord.length (A8 w.2 (AY nm A G.ord) G.ord.length) (.seq ⟨(G.sc y).map fun d=>.str (nm d) 0⟩ (G.sc y).length) (.seq ⟨(G.sc y++[x]).map fun d=>.str (nm d) 0⟩ (G.sc y++[x]).length) rfl lx ly (by have:=A5; simp [AY]; lia) _ _ rfl (by simp) (by have:=A5; simp; lia) (fun L=>L=(G.ord.erase y).flatMap (B9 nm G A)++R)).kz (fun q p=>p.trans ?_) fun z A1 hz=>?_
 ·exact (List.Perm.append_left _ (.cons _ (.append_right _ fx))).trans (gB _ _ _ _ _ _ _)
 ·cases hz
  have fy:=Hh (f:=B9 nm G A) (g:=B9 nm (AU x y G) (A.set x (A1 0) (A1 1) (A1 2))) hy nd (fun d hd h1=>by
   have h2:d≠x:=fun e=>hx (e ▸ hd)
   refine EU h2 ?_ ?_
   ·rw [G']; simp only [AB _ _ h2]
   ·rw [G']; simp only [AB _ _ h1,AB _ _ h2])
  have n1:B9 nm (AU x y G) (A.set x (A1 0) (A1 1) (A1 2)) y=[(A.aI y,AG (nm y) (G.np y) (A.aX y) (A.aL y)),(A.aL y,A0 (.seq ⟨(G.sc y++[x]).map fun d=>.str (nm d) 0⟩ (G.sc y++[x]).length))]:=by
   rw [G']; unfold B9 GA.set; simp only [Ak,AB _ _ hyx]
  have n2:B9 nm (AU x y G) (A.set x (A1 0) (A1 1) (A1 2)) x=[(A1 0,AG (nm x) 1 (A1 1) (A1 2)),(A1 2,A0 (.seq #[] 0))]:=by
   rw [G']; unfold B9 GA.set; simp only [Ak,AB _ _ (Ne.symm hyx)]; rfl
  have eo:(AU x y G).ord=G.ord++[x]:=by rw [G']
  rw [n1] at fy
  refine ⟨_,?_,rfl,A.set x (A1 0) (A1 1) (A1 2),(A1 1,AR [] 0)::R,.refl _⟩
  unfold LN
  rw [eo,CQ hx,List.flatMap_append,List.flatMap_cons,List.flatMap_nil,List.append_nil,n2,show (G.ord++[x]).length=G.ord.length+1 by simp]
  exact (mf _ _ _ _ _ _ _ _ _ _).trans (List.Perm.symm (List.Perm.append_left _ (.cons _ (.append_right _ (.append_right _ fy)))))
theorem YK{nm:Nat→Str}(inj:∀ a b,nm a=nm b→a=b){G:GS}{x:Nat}(hx:x∉G.ord)(nd:G.ord.Nodup)(hn:G.ord.length < 1000)(aS aD aN:Nat) :
  (Lf w.2 (nm x) (nm x) aS aD aN).nP (wf w b b2) (A3 Be) (GP w.2 nm aN G) (GP w.2 nm aN (AU x x G)):=by
 refine Ho aS aD aN fun A R=>?_
 have lx:BI (AY nm A G.ord) (nm x)=none:=by rw [Au inj,if_neg hx]
 have ly:∀ a:Nat,(BI (AY nm A G.ord++[(nm x,.ref a)]) (nm x)).getD .none=.ref a:=fun a=>by
  rw [← CQ (b:=0) (c:=0) hx,Au inj,if_pos (by simp)]
  simp only [GA.set,Ak]; rfl
 have G':AU x x G=⟨G.ord++[x],upd G.np x 1,upd (upd G.sc x []) x [x]⟩:=by
  unfold AU Dq
  rw [if_neg hx]
  unfold Gq
  rw [if_pos (by simp)]
  simp only [Ak]; rfl
 refine (UP w b b2 aS aD aN (nm x) (AY nm A G.ord) G.ord.length (A8 w.2 (AY nm A G.ord) G.ord.length) rfl lx ly (by have:=A5; simp [AY]; lia) (fun L=>L=G.ord.flatMap (B9 nm G A)++R)).kz (fun q p=>p.trans ?_) fun z A1 hz=>?_
 ·exact .refl _
 ·cases hz
  have fy:G.ord.flatMap (B9 nm (AU x x G) (A.set x (A1 0) (A1 1) (A1 2)))=G.ord.flatMap (B9 nm G A):=C9 fun d hd=>by
   have h2:d≠x:=fun e=>hx (e ▸ hd)
   refine EU h2 ?_ ?_
   ·rw [G']; simp only [AB _ _ h2]
   ·rw [G']; simp only [AB _ _ h2]
  have n2:B9 nm (AU x x G) (A.set x (A1 0) (A1 1) (A1 2)) x=[(A1 0,AG (nm x) 1 (A1 1) (A1 2)),(A1 2,A0 (.seq #[.str (nm x) 0] 1))]:=by
   rw [G']; unfold B9 GA.set; simp only [Ak]; rfl
  have eo:(AU x x G).ord=G.ord++[x]:=by rw [G']
  refine ⟨_,?_,rfl,A.set x (A1 0) (A1 1) (A1 2),(A1 1,AR [] 0)::R,.refl _⟩
  unfold LN
  rw [eo,CQ hx,List.flatMap_append,List.flatMap_cons,List.flatMap_nil,List.append_nil,n2,show (G.ord++[x]).length=G.ord.length+1 by simp,fy]
  exact md _ _ _ _ _ _ _ _
theorem YM{nm:Nat→Str}(inj:∀ a b,nm a=nm b→a=b){G:GS}{x y:Nat}(hx:x∉G.ord)(hy:y∉G.ord)(qN:x≠y)(hn:G.ord.length < 1000)(aS aD aN:Nat) :
  (Lf w.2 (nm x) (nm y) aS aD aN).nP (wf w b b2) (A3 Be) (GP w.2 nm aN G) (GP w.2 nm aN (AU x y G)):=by
 refine Ho aS aD aN fun A R=>?_
 have hy2:y∉G.ord++[x]:=fun m=>by
  rcases List.mem_append.mp m with m | m
  ·exact hy m
  ·exact qN (by simpa using m:y=x).symm
 have lx:BI (AY nm A G.ord) (nm x)=none:=by rw [Au inj,if_neg hx]
 have ly:∀ a:Nat,BI (AY nm A G.ord++[(nm x,.ref a)]) (nm y)=none:=fun a=>by
  rw [← CQ (b:=0) (c:=0) hx,Au inj,if_neg hy2]
 have G':AU x y G=⟨(G.ord++[x])++[y],upd (upd G.np x 1) y 0,upd (upd G.sc x []) y [x]⟩:=by
  unfold AU Dq
  rw [if_neg hx]
  unfold Gq
  rw [if_neg hy2]
 refine (UQ w b b2 aS aD aN (nm x) (nm y) (AY nm A G.ord) G.ord.length (A8 w.2 (AY nm A G.ord) G.ord.length) rfl lx ly (by have:=A5; simp [AY]; lia) (fun L=>L=G.ord.flatMap (B9 nm G A)++R)).kz (fun q p=>p.trans ?_) fun z A1 hz=>?_
 ·exact .refl _
 ·cases hz
  have fy:G.ord.flatMap (B9 nm (AU x y G) ((A.set x (A1 0) (A1 1) (A1 2)).set y (A1 3) (A1 4) (A1 5)))=G.ord.flatMap (B9 nm G A):=C9 fun d hd=>by
   have h2:d≠x:=fun e=>hx (e ▸ hd)
   have h3:d≠y:=fun e=>hy (e ▸ hd)
   have e1:B9 nm (AU x y G) ((A.set x (A1 0) (A1 1) (A1 2)).set y (A1 3) (A1 4) (A1 5)) d=B9 nm G (A.set x (A1 0) (A1 1) (A1 2)) d:=by
    refine EU h3 ?_ ?_
    ·rw [G']; simp only [AB _ _ h2,AB _ _ h3]
    ·rw [G']; simp only [AB _ _ h2,AB _ _ h3]
   rw [e1]
   exact EU h2 rfl rfl
  have n2:B9 nm (AU x y G) ((A.set x (A1 0) (A1 1) (A1 2)).set y (A1 3) (A1 4) (A1 5)) x=[(A1 0,AG (nm x) 1 (A1 1) (A1 2)),(A1 2,A0 (.seq #[] 0))]:=by
   rw [G']; unfold B9 GA.set; simp only [Ak,AB _ _ qN]; rfl
  have n3:B9 nm (AU x y G) ((A.set x (A1 0) (A1 1) (A1 2)).set y (A1 3) (A1 4) (A1 5)) y=[(A1 3,AG (nm y) 0 (A1 4) (A1 5)),(A1 5,A0 (.seq #[.str (nm x) 0] 1))]:=by
   rw [G']; unfold B9 GA.set; simp only [Ak]; rfl
  have eo:(AU x y G).ord=(G.ord++[x])++[y]:=by rw [G']
  have eN:AY nm ((A.set x (A1 0) (A1 1) (A1 2)).set y (A1 3) (A1 4) (A1 5)) ((G.ord++[x])++[y])=AY nm A G.ord++[(nm x,.ref (A1 0)),(nm y,.ref (A1 3))]:=by
   rw [CQ hy2,CQ hx,List.append_assoc]; rfl
  refine ⟨_,?_,rfl,(A.set x (A1 0) (A1 1) (A1 2)).set y (A1 3) (A1 4) (A1 5),(A1 1,AR [] 0)::(A1 4,AR [] 0)::R,.refl _⟩
  unfold LN
  rw [eo,eN,List.flatMap_append,List.flatMap_append,List.flatMap_cons,List.flatMap_nil,List.append_nil,List.flatMap_cons,List.flatMap_nil,List.append_nil,n2,n3,show ((G.ord++[x])++[y]).length=G.ord.length+2 by simp,fy]
  exact me _ _ _ _ _ _ _ _ _ _ _
theorem UL{nm:Nat→Str}(inj:∀ a b,nm a=nm b→a=b){G:GS}(x y:Nat)(nd:G.ord.Nodup)(hn:G.ord.length < 1000)(hs:∀ c,(G.sc c).length < 1000)(aS aD aN:Nat) :
  (Lf w.2 (nm x) (nm y) aS aD aN).nP (wf w b b2) (A3 Be) (GP w.2 nm aN G) (GP w.2 nm aN (AU x y G)):=by
 by_cases hx:x∈G.ord<;>by_cases hy:y∈G.ord
 ·by_cases e:x=y
  ·subst e; exact YH inj hx nd (hs _) aS aD aN
  ·exact YI inj hx hy e nd (hs _) aS aD aN
 ·exact YJ inj hx hy nd hn aS aD aN
 ·exact YL inj hx hy nd (hs _) hn aS aD aN
 ·by_cases e:x=y
  ·subst e; exact YK inj hx nd hn aS aD aN
  ·exact YM inj hx hy e hn aS aD aN
section
theorem Spec.nP.frame{S:Spec}{w:World}{Sh:Pos→List Frame→Prop}{I O:Lp→Prop}(h:S.nP w Sh I O)(T:Lp):S.nP w Sh (fun L=>∃ L1,I L1∧L=L1++T) (fun L=>∃ L1,O L1∧L=L1++T):=by
 rintro P ⟨L1,hI,rfl⟩
 refine ((h L1 hI).frame T).nV (fun L e=>⟨_,rfl,by rw [e,List.append_assoc]⟩) ?_
 rintro e L ⟨L2,⟨A,P',hO,sub,he,rfl⟩,rfl⟩
 refine ⟨A,P'++T,⟨P',hO,rfl⟩,fun a m=>?_,he,by rw [List.append_assoc]⟩
 rw [List.map_append] at m ⊢
 rcases List.mem_append.mp m with m | m
 ·exact List.mem_append_left _ (sub a m)
 ·exact List.mem_append_right _ m
structure V9(k:Nat)(G:GS):Prop where
 nd:G.ord.Nodup
 len:G.ord.length≤2*k
 sc:∀ c,(G.sc c).length≤k
set_option tactic.hygienic true in
theorem IY{k:Nat}{G:GS}(x y:Nat)(h:V9 k G):V9 (k+1) (AU x y G):=by
 have nd1:(Dq x G).ord.Nodup∧(Dq x G).ord.length≤2*k+1∧∀ c,((Dq x G).sc c).length≤k:=by
  unfold Dq
  split
  ·exact ⟨h.nd,by have:=h.len; simp only; lia,h.sc⟩
  ·rename_i hx
   refine ⟨List.nodup_append.mpr ⟨h.nd,by simp,fun a ha b hb e=>?_⟩,by have:=h.len; simp; lia,fun c=>?_⟩
   ·have:b=x:=by simpa using hb
    exact hx (by rw [← this,← e]; exact ha)
   ·dsimp only; unfold upd; split
    ·simp
    ·exact h.sc c
 unfold AU Gq
 split
 ·refine ⟨nd1.1,by have:=nd1.2.1; simp only; lia,fun c=>?_⟩
  dsimp only; unfold upd; split
  ·rename_i e; subst e; have:=nd1.2.2 c; simp; lia
  ·have:=nd1.2.2 c; lia
 ·rename_i hy
  refine ⟨List.nodup_append.mpr ⟨nd1.1,by simp,fun a ha b hb e=>?_⟩,by have:=nd1.2.1; simp; lia,fun c=>?_⟩
  ·have:b=y:=by simpa using hb
   exact hy (by rw [← this,← e]; exact ha)
  ·dsimp only; unfold upd; split
   ·simp
   ·have:=nd1.2.2 c; lia
def Bf(l:List (Nat×Nat))(G:GS):GS:=l.foldl (fun G p=>AU p.2 p.1 G) G
noncomputable def CJ(l:List (Nat×Nat))(p:Nat×Nat):Nat×Nat:=l.foldl (fun z q=>q) p
def CL(nm:Nat→Str)(p:Nat×Nat):Obj:=AV (.seq #[.str (nm p.1) 0,.str (nm p.2) 0] 0)
def AN(nm:Nat→Str)(nU:List Nat)(nO:List (Nat×Nat)):Lp:=(nU.zip nO).map fun q=>(q.1,CL nm q.2)
def TX(P:Params)(nm:Nat→Str)(I F:Obj)(aI nQ fr aS aD aN:Nat)(ng:Data)(T:Lp)(G:GS)(A:GA)(R:Lp):Lp:=
 [(aI,I),(nQ,A0 ng),(fr,F),(aS,AJ aD),(aD,AK P aN .none 0 0)]++(LN P nm aN G A R++T)
def XR(P:Params)(nm:Nat→Str)(nQ aS:Nat)(p:Nat×Nat):Obj:=C3 (.dict ⟨Jq P nQ aS (nm p.1) (nm p.2)⟩ 4)
theorem Ij{nm:Nat→Str}{nU:List Nat}{nO:List (Nat×Nat)}{i a:Nat}{p:Nat×Nat}(ha:nU[i]?=some a)(hp:nO[i]?=some p):∃ T,(AN nm nU nO).Perm ((a,CL nm p)::T):=by
 have m:(a,CL nm p)∈AN nm nU nO:=List.mem_map.mpr ⟨(a,p),List.mem_of_getElem? (i:=i) (List.getElem?_zip_eq_some.mpr ⟨ha,hp⟩),rfl⟩
 obtain ⟨l1,l2,e⟩:=List.append_of_mem m
 exact ⟨l1++l2,by rw [e]; exact List.perm_middle⟩
theorem mZ{α:Type}(i l a f s d:α)(Q T:List α):([i,l,f,s,d]++(Q++(a::T))).Perm ([i,l,a,f,s,d]++(Q++T)):=
 FQ [[i],[l],[f],[s],[d],Q,[a],T] (.a (.q [0,1,2,3,4]) (.r [5,6] (.l 7))) (.a (.q [0,1,6,2,3,4]) (.r [5] (.l 7))) rfl
theorem kn{α:Type}(i l f s d N:α)(Q T:List α):([i,l,f,s,d]++(N::Q++T)).Perm ([i,l,f,s,d,N]++(Q++T)):=by simp
section
variable{w:World}{b b2:Bool}{nm:Nat→Str}(inj:∀ a b,nm a=nm b→a=b){nU:List Nat}{nO:List (Nat×Nat)}(hl:nU.length=nO.length)(hs:nO.length < 100){e0:Nat}(aI nQ fr aS aD aN:Nat)
include inj hl hs
theorem LO(X0:Option (Nat×Nat)){i k:Nat}{p:Nat×Nat}(hp:nO[i]?=some p){G:GS}(ok:V9 k G)(hk:k < 100) :
  A9 (wf w b b2) (A3 Ar) (TY w.2 aI fr)
   (fun L=>∃ A R,L.Perm (TX w.2 nm (AW nQ i) (match X0 with | none=>C3 (.dict ⟨R8 w.2 nQ aS⟩ 2) | some q=>XR w.2 nm nQ aS q) aI nQ fr aS aD aN (.seq ⟨nU.map .ref⟩ e0) (AN nm nU nO) G A R))
   (fun e L=>e=.fin (.again (TY w.2 aI fr))∧∃ A R,L.Perm (TX w.2 nm (AW nQ ((i:Int)+1)) (XR w.2 nm nQ aS p) aI nQ fr aS aD aN (.seq ⟨nU.map .ref⟩ e0) (AN nm nU nO) (AU p.2 p.1 G) A R)):=by
 have hi:i < nU.length:=by have:=(List.getElem?_eq_some_iff.mp hp).1; lia
 obtain ⟨a,ha⟩:∃ a,nU[i]?=some a:=⟨_,List.getElem?_eq_getElem hi⟩
 obtain ⟨T,hT⟩:=Ij (nm:=nm) ha hp
 have pU:∀ aS aD:Nat,(Lf w.2 (nm p.2) (nm p.1) aS aD aN).nP (wf w b b2) (A3 Be) (fun L=>∃ L1,GP w.2 nm aN G L1∧L=L1++T) (fun L=>∃ L1,GP w.2 nm aN (AU p.2 p.1 G) L1∧L=L1++T):=fun aS aD=>
  (UL inj p.2 p.1 ok.nd (by have:=ok.len; lia) (fun c=>by have:=ok.sc c; lia) aS aD aN).frame T
 have hv:(nU.map Value.ref)[i]?=some (.ref a):=by rw [List.getElem?_map,ha]; rfl
 have pm:∀ {I F:Obj} {G:GS} {A:GA} {R:Lp},(TX w.2 nm I F aI nQ fr aS aD aN (.seq ⟨nU.map .ref⟩ e0) (AN nm nU nO) G A R).Perm ([(aI,I),(nQ,A0 (.seq ⟨nU.map .ref⟩ e0)),(a,CL nm p),(fr,F),(aS,AJ aD),(aD,AK w.2 aN .none 0 0)]++(LN w.2 nm aN G A R++T)):=by
  intro I F G A R
  unfold TX
  refine (List.Perm.append_left _ (List.Perm.append_left _ hT)).trans ?_
  exact mZ _ _ _ _ _ _ _ _
 cases X0 with
 | none=>
  refine (Spec.nP.k (TS w b b2 aI nQ a fr aS aD (nm p.1) (nm p.2) aN i (.seq ⟨nU.map .ref⟩ e0) _ _ _ _ rfl hv pU)).nV ?_ ?_
  ·rintro L ⟨A,R,q⟩
   exact ⟨_,q.trans pm,_,⟨_,⟨A,R,.refl _⟩,rfl⟩,rfl⟩
  ·rintro e L ⟨A,P',⟨L1,⟨A1,R1,q⟩,rfl⟩,rfl,rfl⟩
   refine ⟨TX w.2 nm (AW nQ ((i:Int)+1)) (XR w.2 nm nQ aS p) aI nQ fr aS aD aN (.seq ⟨nU.map .ref⟩ e0) (AN nm nU nO) (AU p.2 p.1 G) A1 R1,?_,rfl,A1,R1,.refl _⟩
   exact (List.Perm.append_left _ (List.Perm.append_right _ q)).trans pm.symm
 | some q0=>
  refine (Spec.nP.k (TR w b b2 aI nQ a fr aS aD (nm q0.1) (nm q0.2) (nm p.1) (nm p.2) aN i (.seq ⟨nU.map .ref⟩ e0) _ _ _ _ rfl hv pU)).nV ?_ ?_
  ·rintro L ⟨A,R,q⟩
   exact ⟨_,q.trans pm,_,⟨_,⟨A,R,.refl _⟩,rfl⟩,rfl⟩
  ·rintro e L ⟨A,P',⟨L1,⟨A1,R1,q⟩,rfl⟩,rfl,rfl⟩
   refine ⟨TX w.2 nm (AW nQ ((i:Int)+1)) (XR w.2 nm nQ aS p) aI nQ fr aS aD aN (.seq ⟨nU.map .ref⟩ e0) (AN nm nU nO) (AU p.2 p.1 G) A1 R1,?_,rfl,A1,R1,.refl _⟩
   exact (List.Perm.append_left _ (List.Perm.append_right _ q)).trans pm.symm
theorem TV:∀ (n i k:Nat) (q:Nat×Nat) (G:GS),i+n=nO.length→V9 k G→k+n < 100→
  A9 (wf w b b2) (A3 Ar) (TY w.2 aI fr)
   (fun L=>∃ A R,L.Perm (TX w.2 nm (AW nQ i) (XR w.2 nm nQ aS q) aI nQ fr aS aD aN (.seq ⟨nU.map .ref⟩ e0) (AN nm nU nO) G A R))
   (fun e L=>e=.fin (.done .next)∧∃ A R,L.Perm (TX w.2 nm (BW nO.length) (XR w.2 nm nQ aS (CJ (nO.drop i) q)) aI nQ fr aS aD aN (.seq ⟨nU.map .ref⟩ e0) (AN nm nU nO) (Bf (nO.drop i) G) A R)):=by
 intro n
 induction n with
 | zero=>
  intro i k q G hi ok hk
  have hi:i=nO.length:=by lia
  subst hi
  have hd:nO.drop nO.length=[]:=List.drop_length
  rw [hd]
  refine (Spec.nP.k (TP w b b2 aI nQ fr nO.length (.seq ⟨nU.map .ref⟩ e0) (.seq ⟨nU.map .ref⟩ e0) (nU.map .ref) e0 rfl (by rw [List.length_map,hl]; exact Nat.le_refl _) rfl (fun L=>∃ A R,L.Perm ([(fr,XR w.2 nm nQ aS q),(aS,AJ aD),(aD,AK w.2 aN .none 0 0)]++(LN w.2 nm aN G A R++AN nm nU nO))))).nV ?_ ?_
  ·rintro L ⟨A,R,p⟩
   exact ⟨_,p,_,⟨A,R,.refl _⟩,rfl⟩
  ·rintro e L ⟨A,P',⟨A1,R1,p⟩,rfl,rfl⟩
   exact ⟨_,List.Perm.append_left _ p,rfl,A1,R1,.refl _⟩
 | succ n ih=>
  intro i k q G hi ok hk
  have oX:i < nO.length:=Cc hi
  have hp:nO[i]?=some nO[i]:=List.getElem?_eq_getElem oX
  have hd:nO.drop i=nO[i]::nO.drop (i+1):=List.drop_eq_getElem_cons oX
  rw [hd]
  have ih:=ih (i+1) (k+1) nO[i] (AU nO[i].2 nO[i].1 G) (Hp hi) (IY _ _ ok) (by lia)
  exact A9.go AI (by kernel_rfl) (LO inj hl hs aI nQ fr aS aD aN (some q) hp ok (by lia)) (ih)
def QG(P:Params)(nm:Nat→Str)(G:GS)(D:Data)(L:Lp):Prop:=∃ A R,D=A8 P (AY nm A G.ord) G.ord.length∧L.Perm (G.ord.flatMap (B9 nm G A)++R)
noncomputable def G0:GS:=⟨[],fun q=>0,fun q=>[]⟩
theorem Xe{p0:Nat×Nat}{rest:List (Nat×Nat)}(rB:nO=p0::rest) :
  Spec.nX (Mo w.2 (nm (CJ rest p0).1) (nm (CJ rest p0).2) aI nQ fr aS aD aN (.seq ⟨nU.map .ref⟩ e0)) (fun z q P=>∃ L1,QG w.2 nm (Bf nO G0) (z 0) L1∧P=L1++AN nm nU nO) (Mo w.2 (nm (CJ rest p0).1) (nm (CJ rest p0).2) aI nQ fr aS aD aN (.seq ⟨nU.map .ref⟩ e0) z0) (wf w b b2) (A3 Ar) (fun L=>∃ R,L.Perm (R++AN nm nU nO)):=by
 have hp:nO[0]?=some p0:=by rw [rB]; rfl
 have ok0:V9 0 G0:=⟨by simp [G0],by simp [G0],fun c=>by simp [G0]⟩
 have hd:nO.drop 1=rest:=by rw [rB]; rfl
 have hb:Bf nO G0=Bf rest (AU p0.2 p0.1 G0):=by rw [rB]; rfl
 have h0:=LO (w:=w) (b:=b) (b2:=b2) inj hl hs (e0:=e0) aI nQ fr aS aD aN none hp ok0 (by lia)
 have h1:=TV (w:=w) (b:=b) (b2:=b2) inj hl hs (e0:=e0) aI nQ fr aS aD aN (nO.length-1) 1 1 p0 (AU p0.2 p0.1 G0) (by rw [rB]; exact Nat.add_comm _ _) (IY _ _ ok0) (by lia)
 rw [hd] at h1
 have hh:=A9.go AI (by kernel_rfl) h0 h1
 refine A9.toD hh ?_ ?_
 ·rintro P ⟨R,p⟩
  refine ⟨_,List.Perm.append_left _ p,⟨fun q=>0,fun q=>0,fun q=>0⟩,R,?_⟩
  exact (kn _ _ _ _ _ _ _ _).symm
 ·rintro e L ⟨rfl,A,R,p⟩
  refine ⟨fun j=>match j with | 0=>A8 w.2 (AY nm A (Bf nO G0).ord) (Bf nO G0).ord.length | _=>(BW (nO.length:Int)).data,fun q=>0,((Bf nO G0).ord.flatMap (B9 nm (Bf nO G0) A)++R)++AN nm nU nO,⟨_,⟨A,R,rfl,.refl _⟩,rfl⟩,rfl,?_⟩
  rw [← hb] at p
  refine p.trans ?_
  unfold TX LN
  refine (kn _ _ _ _ _ _ _ _).trans ?_
  rw [List.append_assoc]
  first | done | exact .refl _
end
end
section
noncomputable def AL(nm:Nat→Str)(l:List Nat):List Value:=l.map fun c=>.str (nm c) 0
noncomputable def As(G:GS)(l:List Nat):List Nat:=l.filter fun c=>G.np c==0
def H5(nm:Nat→Str)(G:GS)(A:GA)(R:Lp):Lp:=G.ord.flatMap (B9 nm G A)++R
theorem HJ{G:GS}{l:List Nat}{c:Nat}:As G (l++[c])=if G.np c=0 then As G l++[c] else As G l:=by
 unfold As
 rw [List.filter_append]
 by_cases h:G.np c=0
 ·simp [h]
 ·simp [h]
section
variable{w:World}{b b2:Bool}{nm:Nat→Str}{G:GS}(A:GA)(R:Lp)(aI aN aA aK fr:Nat)
def Jw(P:Params)(nm:Nat→Str)(G:GS)(A:GA)(R:Lp)(aI aN aA aK:Nat)(It:Obj)(l:List Nat)(k:Option Nat):Lp:=
 [(aI,It),(aN,A7 (A8 P (AY nm A G.ord) G.ord.length)),(aA,A0 (.seq ⟨AL nm (As G l)⟩ (As G l).length)),(aK,kO P k)]++H5 nm G A R
theorem OM{c:Nat}(hc:c∈G.ord):∃ T,(H5 nm G A R).Perm ((A.aI c,AG (nm c) (G.np c) (A.aX c) (A.aL c))::T):=
 ⟨_,List.Perm.append_right _ (Dl _ hc)⟩
theorem mY{α:Type}(a b c d x:α)(T:List α):([a,b,c,d]++(x::T)).Perm ([a,b,c,d,x]++T):=by simp
theorem Kl{i:Nat}{c:Nat}(hi:G.ord[i]?=some c)(hn:0≤G.np c)(hs:G.ord.length < 1000)(k:Option Nat) :
  A9 (wf w b b2) (A3 (.func::Hw)) (EX w.2 aI aA aK fr)
   (fun L=>L.Perm (Jw w.2 nm G A R aI aN aA aK (CK aN i G.ord.length G.ord.length) (G.ord.take i) k))
   (fun e L=>e=.fin (.again (EX w.2 aI aA aK fr))∧L.Perm (Jw w.2 nm G A R aI aN aA aK (CK aN ((i:Int)+1) G.ord.length G.ord.length) (G.ord.take (i+1)) (some (A.aI c)))):=by
 have hm:c∈G.ord:=List.mem_of_getElem? hi
 obtain ⟨T,hT⟩:=OM (nm:=nm) A R hm
 have hN:(AY nm A G.ord)[i]?=some (nm c,.ref (A.aI c)):=by unfold AY; rw [List.getElem?_map,hi]; rfl
 have hlen:(AY nm A G.ord).length=G.ord.length:=by simp [AY]
 have htk:G.ord.take (i+1)=G.ord.take i++[c]:=by rw [List.take_add_one,hi]; rfl
 have hsm:(AL nm (As G (G.ord.take i))).length≤sizeLine:=by
  have h1:(As G (G.ord.take i)).length≤(G.ord.take i).length:=List.length_filter_le _ _
  have h2:(G.ord.take i).length≤G.ord.length:=by simp; lia
  have:=A5
  unfold AL; rw [List.length_map]; lia
 have pm:∀ {It:Obj} {l:List Nat} {k:Option Nat} {v:Int},G.np c=v→(Jw w.2 nm G A R aI aN aA aK It l k).Perm ([(aI,It),(aN,A7 (A8 w.2 (AY nm A G.ord) G.ord.length)),(aA,A0 (.seq ⟨AL nm (As G l)⟩ (As G l).length)),(aK,kO w.2 k),(A.aI c,AG (nm c) v (A.aX c) (A.aL c))]++T):=by
  rintro It l k _ rfl
  exact (List.Perm.append_left _ hT).trans (mY _ _ _ _ _ _)
 by_cases h0:G.np c=0
 ·have e2:As G (G.ord.take (i+1))=As G (G.ord.take i)++[c]:=by rw [htk,HJ,if_pos h0]
  have eD2:(Data.seq ⟨AL nm (As G (G.ord.take (i+1)))⟩ (As G (G.ord.take (i+1))).length)=.seq ⟨AL nm (As G (G.ord.take i))++[.str (nm c) 0]⟩ ((As G (G.ord.take i)).length+1):=by
   rw [e2]; unfold AL; simp
  exact (RV w b b2 aI aN aA aK (A.aI c) fr i G.ord.length (A.aX c) (A.aL c) (nm c) k (AY nm A G.ord) G.ord.length _ _ _ rfl hlen hN _ _ rfl eD2 hsm (fun L=>L=T)).kp (fun q p=>p.trans (pm h0)) fun q=>⟨_,(pm h0).symm,rfl,.refl _⟩
 ·have e2:As G (G.ord.take (i+1))=As G (G.ord.take i):=by rw [htk,HJ,if_neg h0]
  obtain ⟨m,hm2⟩:∃ m:Nat,G.np c=((m+1:Nat):Int):=by
   obtain ⟨m,h⟩:=Int.eq_ofNat_of_zero_le hn
   cases m with
   | zero=>exact absurd h h0
   | succ m=>exact ⟨m,h⟩
  unfold Jw
  rw [e2]
  exact (RU w b b2 aI aN aA aK (A.aI c) fr i G.ord.length (A.aX c) (A.aL c) m (nm c) k (AY nm A G.ord) G.ord.length _ (.seq ⟨AL nm (As G (G.ord.take i))⟩ (As G (G.ord.take i)).length) rfl hlen hN (fun L=>L=T)).kp (fun q p=>p.trans (pm hm2)) fun q=>⟨_,(pm hm2).symm,rfl,.refl _⟩
theorem RR(hn:∀ c,0≤G.np c)(hs:G.ord.length < 1000):∀ (n i:Nat) (a:Nat),i+n=G.ord.length→
  A9 (wf w b b2) (A3 (.func::Hw)) (EX w.2 aI aA aK fr)
   (fun L=>L.Perm (Jw w.2 nm G A R aI aN aA aK (CK aN i G.ord.length G.ord.length) (G.ord.take i) (some a)))
   (fun e L=>e=.fin (.done .next)∧L.Perm (Jw w.2 nm G A R aI aN aA aK (JL G.ord.length G.ord.length G.ord.length) G.ord (some ((G.ord.drop i).foldl (fun q c=>A.aI c) a)))):=by
 intro n
 induction n with
 | zero=>
  intro i a hi
  have hi:i=G.ord.length:=by lia
  subst hi
  have hlen:(AY nm A G.ord).length=G.ord.length:=by simp [AY]
  rw [List.drop_length,List.take_length]
  exact (RS w b b2 aI aN aA aK fr a G.ord.length G.ord.length (AY nm A G.ord) G.ord.length _ _ (.seq ⟨AL nm (As G G.ord)⟩ (As G G.ord).length) rfl hlen (by rw [hlen]; exact Nat.le_refl _) rfl (fun L=>L=H5 nm G A R)).kp (fun q p=>p) fun q=>⟨_,.refl _,rfl,.refl _⟩
 | succ n ih=>
  intro i a hi
  have oX:i < G.ord.length:=Cc hi
  have hp:G.ord[i]?=some G.ord[i]:=List.getElem?_eq_getElem oX
  have hd:G.ord.drop i=G.ord[i]::G.ord.drop (i+1):=List.drop_eq_getElem_cons oX
  rw [hd]
  exact A9.go AI (by kernel_rfl) (Kl A R aI aN aA aK fr hp (hn _) hs (some a)) (ih (i+1) (A.aI G.ord[i]) (Hp hi))
theorem Jv(hn:∀ c,0≤G.np c)(hs:G.ord.length < 1000){c0:Nat}{rest:List Nat}(ho:G.ord=c0::rest) :
  (Yd w.2 aI aN aA aK fr G.ord.length G.ord.length (rest.foldl (fun q c=>A.aI c) (A.aI c0)) (A8 w.2 (AY nm A G.ord) G.ord.length) (.seq ⟨AL nm (As G G.ord)⟩ (As G G.ord).length)).nP (wf w b b2) (A3 (.func::Hw)) (fun L=>L=H5 nm G A R) (fun L=>L=H5 nm G A R):=by
 have hp:G.ord[0]?=some c0:=by rw [ho]; rfl
 have hlen:(AY nm A G.ord).length=G.ord.length:=by simp [AY]
 have hd:G.ord.drop 1=rest:=by rw [ho]; rfl
 have h0:=Kl (w:=w) (b:=b) (b2:=b2) (nm:=nm) A R aI aN aA aK fr hp (hn _) hs none
 have h1:=RR (w:=w) (b:=b) (b2:=b2) (nm:=nm) A R aI aN aA aK fr hn hs (G.ord.length-1) 1 (A.aI c0) (by rw [ho]; exact Nat.add_comm _ _)
 rw [hd] at h1
 have hz:=Spec.nP.r6 (M:=fun L=>L.Perm (Jw w.2 nm G A R aI aN aA aK (CK aN ((0:Nat):Int) G.ord.length G.ord.length) (G.ord.take 0) none)) (RW w b b2 aI aN aA aK fr G.ord.length G.ord.length (A8 w.2 (AY nm A G.ord) G.ord.length) (.seq ⟨AL nm (As G (G.ord.take 0))⟩ (As G (G.ord.take 0)).length) (fun L=>L=H5 nm G A R)) AI (by kernel_rfl) (fun q=>rfl) (fun q=>⟨_,.refl _,.refl _⟩) (A9.go AI (by kernel_rfl) h0 h1)
 refine A9.qG hz ?_ ?_
 ·rintro P rfl
  exact ⟨_,.refl _,_,rfl,rfl⟩
 ·rintro e L ⟨rfl,p⟩
  exact ⟨fun q=>0,H5 nm G A R,rfl,rfl,p⟩
end
end
theorem HO{α:Type}[DecidableEq α]{ord:List α}:∀ {l:List α},l.Nodup→(∀ c∈l,c∈ord)→∃ rest,ord.Perm (l++rest)
 | [],_,_=>⟨ord,.refl _⟩
 | c::l,nd,h=>by
  obtain ⟨nc,nd⟩:=List.nodup_cons.mp nd
  obtain ⟨rest,p⟩:=HO nd (fun d hd=>h d (.tail _ hd))
  have m:c∈l++rest:=p.mem_iff.mp (h c (.head _))
  have m:c∈rest:=(List.mem_append.mp m).resolve_left nc
  refine ⟨rest.erase c,p.trans ?_⟩
  refine (List.Perm.append_left _ (List.perm_cons_erase m)).trans ?_
  exact List.perm_middle
theorem bA{α β:Type}[DecidableEq α]{f g:α→List β}{ord l:List α}(no:ord.Nodup)(nl:l.Nodup)(hl:∀ c∈l,c∈ord)(hg:∀ d∈ord,d∉l→g d=f d):∃ rest,(ord.flatMap f).Perm (l.flatMap f++rest)∧(ord.flatMap g).Perm (l.flatMap g++rest):=by
 obtain ⟨rest,p⟩:=HO nl hl
 refine ⟨rest.flatMap f,?_,?_⟩
 ·rw [← List.flatMap_append]; exact p.flatMap_right f
 ·have e:rest.flatMap g=rest.flatMap f:=C9 fun d hd=>by
   have hm:d∈ord:=p.mem_iff.mpr (List.mem_append_right _ hd)
   have nd:=p.nodup_iff.mp no
   exact hg d hm fun m=>(List.nodup_append.mp nd).2.2 d m d hd rfl
  rw [← e,← List.flatMap_append]; exact p.flatMap_right g
section
noncomputable def oW(sc:Nat→List Nat):List (Nat×Nat)→Nat×Option Nat
 | []=>(0,none)
 | (c,i)::s=>match (sc c)[i]? with
  | some y=>(0,some y)
  | none=>((oW sc s).1+1,(oW sc s).2)
theorem LJ(sc:Nat→List Nat)(c i:Nat)(s:List (Nat×Nat)):oW sc ((c,i)::s)=(match (sc c)[i]? with
  | some y=>(0,some y)
  | none=>((oW sc s).1+1,(oW sc s).2)):=rfl
noncomputable def EB:List (Nat×Nat)→List (Nat×Nat)
 | []=>[]
 | (c,i)::s=>(c,i+1)::s
structure It where
 c:Nat
 i:Nat
 aM:Nat
 nZ:Nat
noncomputable def It.ci(x:It):Nat×Nat:=(x.c,x.i)
noncomputable def BP:List It→List It
 | []=>[]
 | x::t=>{ x with i:=x.i+1 }::t
theorem JR(t:List It):(BP t).map It.ci=EB (t.map It.ci):=by cases t<;>rfl
theorem UE(t:List It):(BP t).map (·.c)=t.map (·.c):=by cases t<;>rfl
theorem UD(t:List It):(BP t).map (fun x=>Value.ref x.aM)=t.map (fun x=>Value.ref x.aM):=by cases t<;>rfl
def PB(A:GA)(x:It):Lp:=[(x.aM,GN x.nZ),(x.nZ,AW (A.aL x.c) x.i)]
def Yi(x:It):Lp:=[(x.aM,GN x.nZ),(x.nZ,BW x.i)]
noncomputable def ED(nm:Nat→Str)(G:GS)(c:Nat):Data:=.seq ⟨(G.sc c).map fun d=>.str (nm d) 0⟩ (G.sc c).length
def Ye(nm:Nat→Str)(G:GS)(A:GA)(c:Nat):Lp:=(G.ord.erase c).map fun c=>(A.aL c,A0 (ED nm G c))
def EV(nm:Nat→Str)(G:GS)(A:GA):Lp:=G.ord.map fun c=>(A.aL c,A0 (ED nm G c))
noncomputable def H8(nm:Nat→Str):List Nat→List (Str×Value)
 | []=>[]
 | c::s=>H8 nm s++[(nm c,.int s.length 0)]
theorem Ft(nm:Nat→Str):∀ l,(H8 nm l).length=l.length
 | []=>rfl
 | c::s=>by show (H8 nm s++_).length=_; rw [List.length_append,Ft nm s]; rfl
theorem LC{N M:List (Str×Value)}{x:Str}:BI (N++M) x=(BI N x).or (BI M x):=by
 unfold BI
 rw [List.find?_append]
 cases N.find? fun q=>q.1==x<;>rfl
theorem Ce{nm:Nat→Str}(inj:∀ a b,nm a=nm b→a=b){X:Nat}:∀ {l:List Nat},X∉l→BI (H8 nm l) (nm X)=none
 | [],_=>rfl
 | c::s,h=>by
  show BI (H8 nm s++_) _=_
  rw [LC,Ce inj (fun m=>h (.tail _ m))]
  have:nm c≠nm X:=fun e=>h (by rw [inj _ _ e]; exact .head _)
  unfold BI; rw [List.find?_cons_of_neg (by simpa using this)]; rfl
noncomputable def LL(X:Nat):List Nat→Nat
 | []=>0
 | c::s=>if c=X then s.length else LL X s
theorem Uq(X c:Nat)(s:List Nat):LL X (c::s)=if c=X then s.length else LL X s:=rfl
theorem JX{nm:Nat→Str}(inj:∀ a b,nm a=nm b→a=b){X:Nat}:∀ {l:List Nat},l.Nodup→X∈l→BI (H8 nm l) (nm X)=some (.int (LL X l:Nat) 0)
 | c::s,nd,h=>by
  obtain ⟨nc,nd⟩:=List.nodup_cons.mp nd
  rw [Uq]
  show BI (H8 nm s++_) _=_
  rw [LC]
  by_cases e:c=X
  ·subst e
   rw [Ce inj nc,if_pos rfl]
   unfold BI; rw [List.find?_cons_of_pos (by simp)]; rfl
  ·have m:X∈s:=by cases h with | head=>exact absurd rfl e | tail _ m=>exact m
   rw [JX inj nd m,if_neg e]; rfl
theorem PE{X:Nat}:∀ {l:List Nat},X∈l→LL X l < l.length
 | c::s,h=>by
  rw [Uq]
  split
  ·exact Nat.lt_succ_self _
  ·exact Nat.lt_succ_of_lt (PE (by cases h with | head=>contradiction | tail _ m=>exact m))
theorem BN{α β:Type}[DecidableEq α](f:α→β){l:List α}{c:α}(h:c∈l):(l.map f).Perm (f c::(l.erase c).map f):=(List.perm_cons_erase h).map f
section
variable{w:World}{b b2:Bool}{nm:Nat→Str}{G:GS}(A:GA)(R:Lp)(FR:Bool→Lp)(aS aN aE nS A6 nR fr aT aU aB:Nat)(DP DR DW:Data)
def FW(nS A6 nR:Nat)(DP DR DW:Data)(r:Bool):Lp:=[(nS,RM r DP A6),(A6,I3 r DR nR),(nR,Dp nR DW)]
def T7(P:Params)(nm:Nat→Str)(G:GS)(A:GA)(R:Lp)(FR:Bool→Lp)(aS aN aE nS fr aT aU aB:Nat)(r:Bool)(X:Nat)(t:List It)(eT eU eB:Nat)(E:Lp):Lp:=
 [(fr,FY r P aS aN aT aU aE aB nS (nm X)),(aT,A0 (.seq ⟨AL nm (t.map (·.c)).reverse⟩ eT)),(aU,A0 (.seq ⟨(t.map (fun x=>Value.ref x.aM)).reverse⟩ eU)),(aB,A7 (A8 P (H8 nm (t.map (·.c))) eB))]++(FR r++(E++(t.flatMap (PB A)++(EV nm G A++R))))
theorem ZT{α:Type}(f T U B m i l:α)(F E S s' R:List α){s:List α}(h:s.Perm (l::s')):([f,T,U,B]++(F++(E++(([m,i]++S)++(s++R))))).Perm ([f,T,U,m,i,l]++(B::(F++(E++(S++(s'++R)))))):=
 Df [[f],[T],[U],[B],F,E,[m],[i],S,s,R,[l],s'] (.a (.q [0,1,2,3]) (.r [4,5] (.a (.a (.q [6,7]) (.l 8)) (.r [9] (.l 10))))) (.a (.q [0,1,2,6,7,11]) (.r [3,4,5,8,12] (.l 10))) (.l 9) (.r [11] (.l 12)) h rfl
theorem fp{α:Type}(f T U B m i l x y z:α)(E S s' R:List α){s:List α}(h:s.Perm (l::s')):([f,T,U,B]++([x,y,z]++(E++(([m,i]++S)++(s++R))))).Perm ([f,T,U,m,i,l,B,x,y,z]++(E++(S++(s'++R)))):=
 Df [[f],[T],[U],[B],[x],[y],[z],E,[m],[i],S,s,R,[l],s'] (.a (.q [0,1,2,3]) (.a (.q [4,5,6]) (.a (.l 7) (.a (.a (.q [8,9]) (.l 10)) (.r [11] (.l 12)))))) (.a (.q [0,1,2,8,9,13,3,4,5,6]) (.r [7,10,14] (.l 12))) (.l 11) (.r [13] (.l 14)) h rfl
theorem ZS{α:Type}(f T U B m i l x y z:α)(E S s' R:List α){s:List α}(h:s.Perm (l::s')):([f,T,U,m,i,l,B,x,y,z]++(E++(S++(s'++R)))).Perm ([f,T,U,B]++([x,y,z]++((E++[m,i])++(S++(s++R))))):=
 Df [[f],[T],[U],[m],[i],[l],[B],[x],[y],[z],E,S,s',R,s] (.a (.q [0,1,2,3,4,5,6,7,8,9]) (.r [10,11,12] (.l 13))) (.a (.q [0,1,2,6]) (.a (.q [7,8,9]) (.a (.a (.l 10) (.q [3,4])) (.r [11,14] (.l 13))))) (.r [5] (.l 12)) (.l 14) h.symm rfl
theorem fo{α:Type}(f T U B m i l:α)(F E S s' R:List α){s:List α}(h:s.Perm (l::s')):([f,T,U,B]++(F++(E++(([m,i]++S)++(s++R))))).Perm ([f,T,U,m,i,l,B]++(F++(E++(S++(s'++R))))):=
 Df [[f],[T],[U],[B],F,E,[m],[i],S,s,R,[l],s'] (.a (.q [0,1,2,3]) (.r [4,5] (.a (.a (.q [6,7]) (.l 8)) (.r [9] (.l 10))))) (.a (.q [0,1,2,6,7,11,3]) (.r [4,5,8,12] (.l 10))) (.l 9) (.r [11] (.l 12)) h rfl
theorem ZR{α:Type}(f T U B m i l:α)(F E S s' R:List α){s:List α}(h:s.Perm (l::s')):([f,T,U,m,i,l,B]++(F++(E++(S++(s'++R))))).Perm ([f,T,U,B]++(F++((E++[m,i])++(S++(s++R))))):=
 Df [[f],[T],[U],[m],[i],[l],[B],F,E,S,s',R,s] (.a (.q [0,1,2,3,4,5,6]) (.r [7,8,9,10] (.l 11))) (.a (.q [0,1,2,6]) (.a (.l 7) (.a (.a (.l 8) (.q [3,4])) (.r [9,12] (.l 11))))) (.r [5] (.l 10)) (.l 12) h.symm rfl
variable(X:Nat)
theorem jA{x:It}{t:List It}{y:Nat}(hx:x.c∈G.ord)(hy:(G.sc x.c)[x.i]?=some y)(hl:t.length < 1000)(r:Bool)(eT eU eB:Nat)(E:Lp) :
  A9 (wf w b b2) (A3 (F7 w.2 fr nS A6 nR)) (KC w.2 fr) (fun L=>L.Perm (T7 w.2 nm G A R FR aS aN aE nS fr aT aU aB r X (x::t) eT eU eB E))
   (fun e L=>e=.fin (.done .next)∧L.Perm (T7 w.2 nm G A R FR aS aN aE nS fr aT aU aB r y (BP (x::t)) eT eU eB E)):=by
 have hp:=BN (fun c=>(A.aL c,A0 (ED nm G c))) hx
 have hls:((G.sc x.c).map fun d=>Value.str (nm d) 0)[x.i]?=some (.str (nm y) 0):=by rw [List.getElem?_map,hy]; rfl
 refine (Spec.nP.k (TC w b b2 fr aT aU x.aM x.nZ (A.aL x.c) r aS aN aE aB nS A6 nR (nm X) (nm y) t.length x.i (.seq ⟨AL nm ((x::t).map (·.c)).reverse⟩ eT) (.seq ⟨((x::t).map (fun x=>Value.ref x.aM)).reverse⟩ eU) (ED nm G x.c) (ED nm G x.c) _ (t.map (fun x=>Value.ref x.aM)).reverse _ eT eU _ rfl (by simp [AL]) (by lia) (by rw [List.map_cons,List.reverse_cons]) (by simp; lia) rfl hls rfl (fun L=>L=(aB,A7 (A8 w.2 (H8 nm ((x::t).map (·.c))) eB))::(FR r++(E++(t.flatMap (PB A)++(Ye nm G A x.c++R))))))).nV ?_ ?_
 ·intro L p
  exact ⟨_,p.trans (ZT _ _ _ _ _ _ _ _ _ _ _ _ hp),_,rfl,rfl⟩
 ·rintro e L ⟨A1,P',rfl,rfl,rfl⟩
  refine ⟨_,.refl _,rfl,?_⟩
  unfold T7
  rw [UE,UD]
  exact (ZT _ _ _ _ _ _ _ _ _ _ _ _ hp).symm
theorem j9{x:It}{t:List It}(inj:∀ a b,nm a=nm b→a=b)(hx:x.c∈G.ord)(hy:(G.sc x.c)[x.i]?=none)(hl:t.length < 1000)(hn:x.c∉t.map (·.c))(r:Bool)(hF:r=false→FR=FW nS A6 nR DP DR DW)(eT eU eB:Nat)(E:Lp) :
  A9 (wf w b b2) (A3 (F7 w.2 fr nS A6 nR)) (KC w.2 fr) (fun L=>L.Perm (T7 w.2 nm G A R FR aS aN aE nS fr aT aU aB r X (x::t) eT eU eB E))
   (fun e L=>e=.fin (.again (KC w.2 fr))∧L.Perm (T7 w.2 nm G A R FR aS aN aE nS fr aT aU aB true X t (eT+1) (eU+1) (eB+1) (E++Yi x))):=by
 have hp:=BN (fun c=>(A.aL c,A0 (ED nm G c))) hx
 have hi:((G.sc x.c).map fun d=>Value.str (nm d) 0).length≤x.i:=by rw [List.length_map]; exact List.getElem?_eq_none_iff.mp hy
 cases r with
 | false=>
  rw [hF rfl]
  exact Spec.nP.kp (TA w b b2 fr aT aU x.aM x.nZ (A.aL x.c) aB nS A6 nR aS aN aE (nm X) (nm x.c) t.length x.i (.seq ⟨AL nm ((x::t).map (·.c)).reverse⟩ eT) (.seq ⟨((x::t).map (fun x=>Value.ref x.aM)).reverse⟩ eU) (ED nm G x.c) (ED nm G x.c) (A8 w.2 (H8 nm ((x::t).map (·.c))) eB) DP DR DW (.seq ⟨AL nm (t.map (·.c)).reverse⟩ (eT+1)) (.seq ⟨(t.map (fun x=>Value.ref x.aM)).reverse⟩ (eU+1)) (A8 w.2 (H8 nm (t.map (·.c))) (eB+1)) (AL nm (t.map (·.c)).reverse) (t.map (fun x=>Value.ref x.aM)).reverse _ eT eU _ eB (H8 nm (t.map (·.c))) (.int (t.map (·.c)).length 0) (by rw [List.map_cons,List.reverse_cons]; unfold AL; rw [List.map_append]; rfl) rfl (by simp [AL]) hl (by rw [List.map_cons,List.reverse_cons]) rfl (by simp; lia) rfl hi rfl (by rw [List.map_cons]; rfl) (Ce inj hn) rfl (by rw [Ft]; simp; lia) (fun L=>L=E++(t.flatMap (PB A)++(Ye nm G A x.c++R)))) (fun q p=>p.trans (fp _ _ _ _ _ _ _ _ _ _ _ _ _ _ hp)) fun A1=>⟨_,.refl _,rfl,ZS _ _ _ _ _ _ _ _ _ _ _ _ _ _ hp⟩
 | true=>
  exact Spec.nP.kp (T8 w b b2 fr aT aU x.aM x.nZ (A.aL x.c) aB aS aN aE nS A6 nR (nm X) (nm x.c) t.length x.i (.seq ⟨AL nm ((x::t).map (·.c)).reverse⟩ eT) (.seq ⟨((x::t).map (fun x=>Value.ref x.aM)).reverse⟩ eU) (ED nm G x.c) (ED nm G x.c) (A8 w.2 (H8 nm ((x::t).map (·.c))) eB) (.seq ⟨AL nm (t.map (·.c)).reverse⟩ (eT+1)) (.seq ⟨(t.map (fun x=>Value.ref x.aM)).reverse⟩ (eU+1)) (A8 w.2 (H8 nm (t.map (·.c))) (eB+1)) (AL nm (t.map (·.c)).reverse) (t.map (fun x=>Value.ref x.aM)).reverse _ eT eU _ eB (H8 nm (t.map (·.c))) (.int (t.map (·.c)).length 0) (by rw [List.map_cons,List.reverse_cons]; unfold AL; rw [List.map_append]; rfl) rfl (by simp [AL]) hl (by rw [List.map_cons,List.reverse_cons]) rfl (by simp; lia) rfl hi rfl (by rw [List.map_cons]; rfl) (Ce inj hn) rfl (by rw [Ft]; simp; lia) (fun L=>L=FR true++(E++(t.flatMap (PB A)++(Ye nm G A x.c++R))))) (fun q p=>p.trans (fo _ _ _ _ _ _ _ _ _ _ _ _ hp)) fun A1=>⟨_,.refl _,rfl,ZR _ _ _ _ _ _ _ _ _ _ _ _ hp⟩
def jP(o:Option Nat):Flow:=bB o.isSome
theorem LK(inj:∀ a b,nm a=nm b→a=b):∀ (t:List It) (r:Bool) (eT eU eB:Nat) (E:Lp),(∀ x∈t,x.c∈G.ord)→(t.map (·.c)).Nodup→t.length < 1000→((oW G.sc (t.map It.ci)).1≠0→r=false→FR=FW nS A6 nR DP DR DW)→
  A9 (wf w b b2) (A3 (F7 w.2 fr nS A6 nR)) (KC w.2 fr) (fun L=>L.Perm (T7 w.2 nm G A R FR aS aN aE nS fr aT aU aB r X t eT eU eB E))
   (fun e L=>e=.fin (.done (jP (oW G.sc (t.map It.ci)).2))∧L.Perm (T7 w.2 nm G A R FR aS aN aE nS fr aT aU aB (r || (oW G.sc (t.map It.ci)).1 != 0) ((oW G.sc (t.map It.ci)).2.getD X) (BP (t.drop (oW G.sc (t.map It.ci)).1)) (eT+(oW G.sc (t.map It.ci)).1) (eU+(oW G.sc (t.map It.ci)).1) (eB+(oW G.sc (t.map It.ci)).1) (E++(t.take (oW G.sc (t.map It.ci)).1).flatMap Yi))):=by
 intro t
 induction t with
 | nil=>
  intro r eT eU eB E _ _ _ _
  have e:(oW G.sc (([]:List It).map It.ci))=(0,none):=rfl
  rw [e]
  refine (Spec.nP.k (T9 w b b2 fr aT r aS aN aE aB aU nS A6 nR (nm X) _ eT rfl (fun L=>L=[(aU,A0 (.seq ⟨[]⟩ eU)),(aB,A7 (A8 w.2 [] eB))]++(FR r++(E++([]++(EV nm G A++R))))))).nV ?_ ?_
  ·intro L p
   exact ⟨_,p,_,rfl,rfl⟩
  ·rintro e L ⟨A1,P',rfl,rfl,rfl⟩
   refine ⟨_,.refl _,rfl,.of_eq ?_⟩
   unfold T7
   simp [BP,Spec.o8,cq]
   exact ⟨rfl,rfl⟩
 | cons x t ih=>
  intro r eT eU eB E hc nd hl hF
  obtain ⟨nx,nd'⟩:=List.nodup_cons.mp (show (x.c::t.map (·.c)).Nodup from nd)
  cases hy:(G.sc x.c)[x.i]? with
  | some y=>
   have e:oW G.sc ((x::t).map It.ci)=(0,some y):=by
    show oW G.sc ((x.c,x.i)::t.map It.ci)=_
    rw [LJ,hy]
   rw [e]
   refine (jA A R FR aS aN aE nS A6 nR fr aT aU aB X (hc x (.head _)) hy (by simp at hl; lia) r eT eU eB E).nV (fun L h=>⟨L,.refl _,h⟩) fun e L ⟨h1,h2⟩=>⟨L,.refl _,h1,?_⟩
   simpa using h2
  | none=>
   have e:oW G.sc ((x::t).map It.ci)=((oW G.sc (t.map It.ci)).1+1,(oW G.sc (t.map It.ci)).2):=by
    show oW G.sc ((x.c,x.i)::t.map It.ci)=_
    rw [LJ,hy]
   rw [e] at hF ⊢
   have hB:=j9 (w:=w) (b:=b) (b2:=b2) A R FR aS aN aE nS A6 nR fr aT aU aB DP DR DW X inj (hc x (.head _)) hy (by simp at hl; lia) nx r (hF (by simp)) eT eU eB E
   have hI:=ih true (eT+1) (eU+1) (eB+1) (E++Yi x) (fun x m=>hc x (.tail _ m)) nd' (by simp at hl; lia) (fun q h=>by cases h)
   refine A9.again (p9:=fun c L=>c=KC w.2 fr∧L.Perm (T7 w.2 nm G A R FR aS aN aE nS fr aT aU aB true X t (eT+1) (eU+1) (eB+1) (E++Yi x))) AI (hB.nV (fun L h=>⟨L,.refl _,h⟩) ?_) ?_
   ·rintro e L ⟨rfl,h⟩
    exact ⟨L,.refl _,_,rfl,by kernel_rfl,rfl,h⟩
   ·intro c L0 ⟨ec,h⟩
    subst ec
    refine (hI.nV (fun L h=>⟨L,.refl _,h⟩) fun e L ⟨h1,h2⟩=>⟨L,.refl _,h1,?_⟩) L0 h
    have n0:((oW G.sc (t.map It.ci)).1+1 != 0)=true:=by simp
    rw [n0,Bool.or_true]
    rw [Bool.true_or] at h2
    rw [List.drop_succ_cons,List.take_succ_cons,List.flatMap_cons,← List.append_assoc,Nat.add_comm _ 1,← Nat.add_assoc,← Nat.add_assoc,← Nat.add_assoc]
    exact h2
end
end
section
structure Dr where
 ring:Option (List Nat)
 seen:List Nat
 node:Nat
 pK:Bool
def M5(sc:Nat→List Nat)(k:List (Nat×Nat)→List Nat→Nat→Bool→Option Dr)(s:List (Nat×Nat))(S:List Nat)(X:Nat)(r:Bool):Option Dr:=match oW sc s with
 | (p,some y)=>k (EB (s.drop p)) S y (r || p != 0)
 | (p,none)=>some ⟨none,S,X,r || p != 0⟩
def out(sc:Nat→List Nat):Nat→List (Nat×Nat)→List Nat→Nat→Bool→Option Dr
 | 0,_,_,_,_=>none
 | n+1,s,S,X,r=>
  if X∈S then
   if X∈s.map (·.1) then some ⟨some ((s.map (·.1)).reverse.drop (LL X (s.map (·.1)))++[X]),S,X,r⟩
   else M5 sc (out sc n) s S X r
  else M5 sc (out sc n) ((X,0)::s) (X::S) X r
inductive Q4 (sc:Nat→List Nat) (n:Nat) (s:List (Nat×Nat)) (S:List Nat) (X:Nat) (r:Bool) (res:Dr):Prop
 | y (p:Nat) (y:Nat) (ho:oW sc s=(p,some y)) (h:out sc n (EB (s.drop p)) S y (r || p != 0)=some res):Q4 sc n s S X r res
 | n (p:Nat) (ho:oW sc s=(p,none)) (h:res=⟨none,S,X,r || p != 0⟩):Q4 sc n s S X r res
theorem Nj{sc:Nat→List Nat}{n:Nat}{s:List (Nat×Nat)}{S:List Nat}{X:Nat}{r:Bool}{res:Dr}(h:M5 sc (out sc n) s S X r=some res):Q4 sc n s S X r res:=by
 unfold M5 at h
 rcases e:oW sc s with ⟨p,_ | y⟩<;>rw [e] at h
 ·exact .n p e (Option.some.inj h).symm
 ·exact .y p y e h
inductive UY (sc:Nat→List Nat) (n:Nat) (s:List (Nat×Nat)) (S:List Nat) (X:Nat) (r:Bool) (res:Dr):Prop
 | ring (hX:X∈S) (hn:X∈s.map (·.1)) (h:res=⟨some ((s.map (·.1)).reverse.drop (LL X (s.map (·.1)))++[X]),S,X,r⟩):UY sc n s S X r res
 | old (hX:X∈S) (hn:X∉s.map (·.1)) (h:Q4 sc n s S X r res):UY sc n s S X r res
 | new (hX:X∉S) (h:Q4 sc n ((X,0)::s) (X::S) X r res):UY sc n s S X r res
theorem Ni{sc:Nat→List Nat}{n:Nat}{s:List (Nat×Nat)}{S:List Nat}{X:Nat}{r:Bool}{res:Dr}(h:out sc (n+1) s S X r=some res):UY sc n s S X r res:=by
 have h:(if X∈S then if X∈s.map (·.1) then some (⟨some ((s.map (·.1)).reverse.drop (LL X (s.map (·.1)))++[X]),S,X,r⟩:Dr) else M5 sc (out sc n) s S X r else M5 sc (out sc n) ((X,0)::s) (X::S) X r)=some res:=h
 by_cases hX:X∈S
 ·rw [if_pos hX] at h
  by_cases hn:X∈s.map (·.1)
  ·rw [if_pos hn] at h; exact .ring hX hn (Option.some.inj h).symm
  ·rw [if_neg hn] at h; exact .old hX hn (Nj h)
 ·rw [if_neg hX] at h; exact .new hX (Nj h)
def Q5(nm:Nat→Str)(t:List It)(e:Nat):Data:=.seq ⟨AL nm (t.map (·.c)).reverse⟩ e
noncomputable def Mg(t:List It)(e:Nat):Data:=.seq ⟨(t.map (fun x=>Value.ref x.aM)).reverse⟩ e
def Q6(P:Params)(nm:Nat→Str)(t:List It)(e:Nat):Data:=A8 P (H8 nm (t.map (·.c))) e
def Gv(nm:Nat→Str)(G:GS)(A:GA):Lp:=G.ord.map fun c=>(A.aI c,AG (nm c) (G.np c) (A.aX c) (A.aL c))
def cB(P:Params)(nm:Nat→Str)(G:GS)(A:GA)(FR:Bool→Lp)(aS aN aE nS fr aT aU aB:Nat)(r:Bool)(X:Nat)(t:List It)(eT eU eB:Nat)(DE:Data)(R:Lp):Lp:=
 [(fr,FY r P aS aN aT aU aE aB nS (nm X)),(aT,A0 (Q5 nm t eT)),(aU,A0 (Mg t eU)),(aE,Bp DE),(aB,A7 (Q6 P nm t eB)),(aN,A7 (A8 P (AY nm A G.ord) G.ord.length))]++(FR r++(t.flatMap (PB A)++(Gv nm G A++(EV nm G A++R))))
theorem fM{α:Type}{L Q F S l:List α}(f T U B:α)(h:L.Perm (F++(S++(l++Q)))):([f,T,U,B]++L).Perm ([f,T,U,B]++(F++([]++(S++(l++Q))))):=
 Df [[f],[T],[U],[B],L,F,S,l,Q] (.a (.q [0,1,2,3]) (.l 4)) (.a (.q [0,1,2,3]) (.a (.l 5) (.a (.n) (.r [6,7] (.l 8))))) (.l 4) (.r [5,6,7] (.l 8)) h rfl
theorem fL{α:Type}(f T U B:α)(F E S l Q:List α):([f,T,U,B]++(F++(([]++E)++(S++(l++Q))))).Perm ([f,T,U,B]++(F++(S++(l++(E++Q))))):=
 FQ [[f],[T],[U],[B],F,E,S,l,Q] (.a (.q [0,1,2,3]) (.a (.l 4) (.a (.a (.n) (.l 5)) (.r [6,7] (.l 8))))) (.a (.q [0,1,2,3]) (.r [4,6,7,5] (.l 8))) rfl
theorem fw{α:Type}{L F S l' Q l:List α}(f T U B m i k:α)(h:L.Perm (F++(S++(l'++Q))))(hl:l.Perm (k::l')):([f,T,U,B,m,i,k]++L).Perm ([f,T,U,B]++(F++([]++(([m,i]++S)++(l++Q))))):=
 Df [[f],[T],[U],[B],[m],[i],[k],L,F,S,l,Q,l'] (.a (.q [0,1,2,3,4,5,6]) (.l 7)) (.a (.q [0,1,2,3]) (.a (.l 8) (.a (.n) (.a (.a (.q [4,5]) (.l 9)) (.r [10] (.l 11)))))) (.r [7,6] (.l 12)) (.a (.r [8,9,12] (.l 11)) (.l 10)) (h.append hl.symm) rfl
theorem fv{α:Type}{l' S l:List α}(F Q:List α)(f T U B m i k:α)(hl:l.Perm (k::l')):([f,T,U,B]++(F++(([]++[])++(([m,i]++S)++(l++Q))))).Perm ([f,T,U,B,m,i,k]++(F++(S++(l'++Q)))):=
 Df [[f],[T],[U],[B],F,[m],[i],S,l,Q,[k],l'] (.a (.q [0,1,2,3]) (.a (.l 4) (.a (.a (.n) (.n)) (.a (.a (.q [5,6]) (.l 7)) (.r [8] (.l 9)))))) (.a (.q [0,1,2,3,5,6,10]) (.r [4,7,11] (.l 9))) (.l 8) (.r [10] (.l 11)) hl rfl
theorem ft{α:Type}{l' S l:List α}(F E Q:List α)(f T U B m i k:α)(hl:l.Perm (k::l')):([f,T,U,B]++(F++(([]++([m,i]++E))++(S++(l++Q))))).Perm ([f,T,U,B,m,i,k]++(F++((E++S)++(l'++Q)))):=
 Df [[f],[T],[U],[B],F,[m],[i],E,S,l,Q,[k],l'] (.a (.q [0,1,2,3]) (.a (.l 4) (.a (.a (.n) (.a (.q [5,6]) (.l 7))) (.r [8,9] (.l 10))))) (.a (.q [0,1,2,3,5,6,11]) (.a (.l 4) (.a (.r [7] (.l 8)) (.r [12] (.l 10))))) (.l 9) (.r [11] (.l 12)) hl rfl
def e9(A:GA)(t:List It):Nat→Lp
 | 0=>t.flatMap (PB A)
 | p+1=>(t.take p).flatMap Yi++(BP (t.drop p)).flatMap (PB A)
def oZ(a:Nat):Nat→Data
 | 0=>(AW a ((0+1:Nat):Int)).data
 | _+1=>(BW ((0:Nat):Int)).data
section
variable{w:World}{b b2:Bool}{nm:Nat→Str}{G:GS}(inj:∀ a b,nm a=nm b→a=b)(A:GA)(FR:Bool→Lp)(aS aN aE nS A6 nR fr aT aU aB:Nat)(DP DR DW:Data)
include inj
theorem jF(Q:Lp)(X:Nat)(t:List It)(r:Bool)(eT eU eB:Nat)(hc:∀ x∈t,x.c∈G.ord)(nd:(t.map (·.c)).Nodup)(hl:t.length < 1000){p:Nat}{o:Option Nat}(e:oW G.sc (t.map It.ci)=(p,o))(hF:p≠0→r=false→FR=FW nS A6 nR DP DR DW) :
  (T6 w.2 (jP o) r (r || p != 0) aS aN aE nS A6 nR fr aT aU aB (nm X) (nm (o.getD X)) (Q5 nm t eT) (Mg t eU) (Q6 w.2 nm t eB) (Q5 nm (BP (t.drop p)) (eT+p)) (Mg (BP (t.drop p)) (eU+p)) (Q6 w.2 nm (BP (t.drop p)) (eB+p))).nP (wf w b b2) (A3 (F7 w.2 fr nS A6 nR))
   (fun L=>L.Perm (FR r++(t.flatMap (PB A)++(EV nm G A++Q)))) (fun L=>L.Perm (FR (r || p != 0)++((BP (t.drop p)).flatMap (PB A)++(EV nm G A++((t.take p).flatMap Yi++Q))))):=by
 have h:=LK (w:=w) (b:=b) (b2:=b2) A Q FR aS aN aE nS A6 nR fr aT aU aB DP DR DW X inj t r eT eU eB [] hc nd hl (by rw [e]; exact hF)
 rw [e] at h
 refine A9.qG h ?_ ?_
 ·intro L p
  exact ⟨_,fM _ _ _ _ p,.refl _⟩
 ·rintro e L ⟨rfl,p⟩
  exact ⟨fun q=>0,_,.refl _,rfl,p.trans (fL _ _ _ _ _ _ _ _ _)⟩
theorem jE(Q:Lp)(X:Nat)(t:List It)(r:Bool)(eT eU eB:Nat)(hX:X∈G.ord)(hc:∀ x∈t,x.c∈G.ord)(nd:(X::t.map (·.c)).Nodup)(hl:t.length+1 < 1000){p:Nat}{o:Option Nat}(e:oW G.sc ((X,0)::t.map It.ci)=(p,o))(hF:p≠0→r=false→FR=FW nS A6 nR DP DR DW)(aM nZ:Nat) :
  (T5 w.2 (jP o) r (r || p != 0) aS aN aE nS A6 nR fr aT aU aB aM nZ (A.aL X) (nm X) (nm (o.getD X)) (.seq ⟨AL nm (t.map (·.c)).reverse++[.str (nm X) 0]⟩ eT) (.seq ⟨(t.map (fun x=>Value.ref x.aM)).reverse++[.ref aM]⟩ eU) (A8 w.2 (H8 nm (t.map (·.c))++[(nm X,.int (t.length:Nat) 0)]) eB) (Q5 nm (BP ((⟨X,0,0,0⟩::t).drop p)) (eT+p)) (Mg (BP ((⟨X,0,aM,0⟩::t).drop p)) (eU+p)) (Q6 w.2 nm (BP ((⟨X,0,0,0⟩::t).drop p)) (eB+p)) (oZ (A.aL X) p) (ED nm G X)).nP (wf w b b2) (A3 (F7 w.2 fr nS A6 nR))
   (fun L=>L.Perm (FR r++(t.flatMap (PB A)++(Ye nm G A X++Q)))) (fun L=>L.Perm (FR (r || p != 0)++(e9 A t p++(Ye nm G A X++Q)))):=by
 have e1:Q5 nm (⟨X,0,aM,nZ⟩::t) eT=.seq ⟨AL nm (t.map (·.c)).reverse++[.str (nm X) 0]⟩ eT:=by
  unfold Q5 AL; rw [List.map_cons,List.reverse_cons,List.map_append]; rfl
 have e2:Mg (⟨X,0,aM,nZ⟩::t) eU=.seq ⟨(t.map (fun x=>Value.ref x.aM)).reverse++[.ref aM]⟩ eU:=by
  unfold Mg; rw [List.map_cons,List.reverse_cons]
 have e3:Q6 w.2 nm (⟨X,0,aM,nZ⟩::t) eB=A8 w.2 (H8 nm (t.map (·.c))++[(nm X,.int (t.length:Nat) 0)]) eB:=by
  unfold Q6; rw [List.map_cons]; show A8 _ (H8 nm (t.map (·.c))++[(nm X,.int ((t.map (·.c)).length:Nat) 0)]) _=_; rw [List.length_map]
 rw [← e1,← e2,← e3]
 clear e1 e2 e3
 have h:=LK (w:=w) (b:=b) (b2:=b2) A Q FR aS aN aE nS A6 nR fr aT aU aB DP DR DW X inj (⟨X,0,aM,nZ⟩::t) r eT eU eB [] (fun x m=>by cases m with | head=>exact hX | tail _ m=>exact hc x m) nd (by simpa using hl) (by rw [show (⟨X,0,aM,nZ⟩::t:List It).map It.ci=(X,0)::t.map It.ci from rfl,e]; exact hF)
 rw [show (⟨X,0,aM,nZ⟩::t:List It).map It.ci=(X,0)::t.map It.ci from rfl,e] at h
 have hp:=BN (fun c=>(A.aL c,A0 (ED nm G c))) hX
 refine A9.qG h (fun L p=>⟨_,fw _ _ _ _ _ _ _ p hp,.refl _⟩) fun e L ⟨e1,q⟩=>?_
 cases p with
 | zero=>exact ⟨fun z=>0,_,.refl _,e1,q.trans (fv _ _ _ _ _ _ _ _ _ hp)⟩
 | succ p=>exact ⟨fun z=>0,_,.refl _,e1,q.trans (ft _ _ _ _ _ _ _ _ _ _ hp)⟩
end
end
section
def Xm(P:Params)(fr:Nat)(o:Option Nat):End:=Xo P fr o.isSome
inductive WS (w':World) (nm:Nat→Str) (G:GS) (A:GA) (FR:Bool→Lp) (aS aN aE nS fr aT aU aB:Nat) (r:Bool) (X:Nat) (s:List (Nat×Nat)) (S:List Nat) (L:Lp):Prop
 | mk (t:List It) (DE:Data) (R:Lp) (eT eU eB:Nat) (h0:t.map It.ci=s) (h1:C6 w' (S.map nm) DE) (h2:L.Perm (cB w'.params nm G A FR aS aN aE nS fr aT aU aB r X t eT eU eB DE R)):WS w' nm G A FR aS aN aE nS fr aT aU aB r X s S L
theorem fK{α:Type}(f T U E B N:α)(F S I l R:List α):([f,T,U,E,B,N]++(F++(S++(I++(l++R))))).Perm ([f,T,U,E,B]++(F++(S++(l++(N::(I++R)))))):=
 FQ [[f],[T],[U],[E],[B],[N],F,S,I,l,R] (.a (.q [0,1,2,3,4,5]) (.r [6,7,8,9] (.l 10))) (.a (.q [0,1,2,3,4]) (.r [6,7,9,5,8] (.l 10))) rfl
theorem fJ{α:Type}{L:List α}(f T U E B N:α)(F S I l R e:List α)(h:L.Perm (F++(S++(l++(e++(N::(I++R))))))):([f,T,U,E,B]++L).Perm ([f,T,U,E,B,N]++(F++(S++(I++(l++(e++R)))))):=
 Df [[f],[T],[U],[E],[B],L,[N],F,S,I,l,e,R] (.a (.q [0,1,2,3,4]) (.l 5)) (.a (.q [0,1,2,3,4,6]) (.r [7,8,9,10,11] (.l 12))) (.l 5) (.r [7,8,10,11,6,9] (.l 12)) h rfl
theorem fI{α:Type}(f T U E B N i l:α)(F S R I' l':List α){I L:List α}(hI:I.Perm (i::I'))(hl:L.Perm (l::l')):([f,T,U,E,B,N]++(F++(S++(I++(L++R))))).Perm ([f,T,U,E,B,N,i,l]++(F++(S++(l'++(I'++R))))):=
 Df [[f],[T],[U],[E],[B],[N],F,S,I,L,R,[i],[l],l',I'] (.a (.q [0,1,2,3,4,5]) (.r [6,7,8,9] (.l 10))) (.a (.q [0,1,2,3,4,5,11,12]) (.r [6,7,13,14] (.l 10))) (.r [8] (.l 9)) (.a (.r [11] (.l 14)) (.r [12] (.l 13))) (hI.append hl) rfl
theorem fH{α:Type}{P':List α}(f T U E B N i l m n:α)(F S R I' l':List α){I L:List α}(hI:I.Perm (i::I'))(hl:L.Perm (l::l'))(hP:P'.Perm (F++(S++(l'++(I'++R))))):([f,T,U,E,B,N,i,l]++P'++[m,n]).Perm ([f,T,U,E,B,N]++(F++(([m,n]++S)++(I++(L++R))))):=
 Df [[f],[T],[U],[E],[B],[N],[i],[l],P',[m],[n],F,S,I,L,R,I',l'] (.a (.a (.q [0,1,2,3,4,5,6,7]) (.l 8)) (.q [9,10])) (.a (.q [0,1,2,3,4,5]) (.a (.l 11) (.a (.a (.q [9,10]) (.l 12)) (.r [13,14] (.l 15))))) (.a (.a (.r [6] (.l 16)) (.r [7] (.l 17))) (.l 8)) (.a (.r [13] (.l 14)) (.r [11,12,17,16] (.l 15))) ((hI.symm.append hl.symm).append hP) rfl
theorem fG{α:Type}{P':List α}(f T U E B N i l m n:α)(F S R I' l' e:List α){I L:List α}(hI:I.Perm (i::I'))(hl:L.Perm (l::l'))(hP:P'.Perm (F++((e++S)++(l'++(I'++R))))):([f,T,U,E,B,N,i,l]++P'++[m,n]).Perm ([f,T,U,E,B,N]++(F++(S++(I++(L++([m,n]++(e++R))))))):=
 Df [[f],[T],[U],[E],[B],[N],[i],[l],P',[m],[n],F,S,I,L,e,R,I',l'] (.a (.a (.q [0,1,2,3,4,5,6,7]) (.l 8)) (.q [9,10])) (.a (.q [0,1,2,3,4,5]) (.r [11,12,13,14] (.a (.q [9,10]) (.r [15] (.l 16))))) (.a (.a (.r [6] (.l 17)) (.r [7] (.l 18))) (.l 8)) (.a (.r [13] (.l 14)) (.a (.l 11) (.a (.r [15] (.l 12)) (.r [18,17] (.l 16))))) ((hI.symm.append hl.symm).append hP) rfl
theorem E4{nm:Nat→Str}(inj:∀ a b,nm a=nm b→a=b){X:Nat}{S:List Nat}:nm X∈S.map nm↔X∈S:=
 ⟨fun h=>let ⟨y,hy,e⟩:=List.mem_map.mp h; inj _ _ e ▸ hy,fun h=>List.mem_map_of_mem h⟩
section
variable{w:World}{b b2:Bool}{nm:Nat→Str}{G:GS}(inj:∀ a b,nm a=nm b→a=b)(A:GA)(FR:Bool→Lp)(aS aN aE nS A6 nR fr aT aU aB:Nat)(DP DR DW:Data)
include inj
omit inj in
theorem Xh{α:Type}{P:α→Prop}{a:α}(h:P a):∀ x,x=a→P x:=fun q e=>e ▸ h
theorem Uh{r:Bool}{X:Nat}{s:List (Nat×Nat)}{S:List Nat}(hX:X∈S)(hn:X∉s.map (·.1))(hc:∀ c∈s.map (·.1),c∈G.ord)(nd:(s.map (·.1)).Nodup)(hl:s.length < 1000)(hS:S.length < 1000){p:Nat}{o:Option Nat}(e:oW G.sc s=(p,o))(hF:p≠0→r=false→FR=FW nS A6 nR DP DR DW) :
  A9 (wf w b b2) (A3 (Hu w.2 fr nS A6 nR)) (QI w.2 fr) (WS (wf w b b2) nm G A FR aS aN aE nS fr aT aU aB r X s S)
   (fun e L=>e=Xm w.2 fr o∧WS (wf w b b2) nm G A FR aS aN aE nS fr aT aU aB (r || p != 0) (o.getD X) (EB (s.drop p)) S L):=by
 rintro L0 ⟨t,DE,R,eT,eU,eB,rfl,hE,pm⟩
 have ec:(t.map It.ci).map (·.1)=t.map (·.c):=by rw [List.map_map]; rfl
 rw [ec] at hn hc nd
 rw [List.length_map] at hl
 have hb:(BP (t.drop p)).map It.ci=EB ((t.map It.ci).drop p):=by rw [JR,List.map_drop]
 have pq:=jF (w:=w) (b:=b) (b2:=b2) inj A FR aS aN aE nS A6 nR fr aT aU aB DP DR DW ((aN,A7 (A8 w.2 (AY nm A G.ord) G.ord.length))::(Gv nm G A++R)) X t r eT eU eB (fun x m=>hc _ (List.mem_map_of_mem m)) nd hl e hF
 have hM:=Ce inj hn
 refine (show A9 _ _ _ (fun L=>L.Perm (cB w.2 nm G A FR aS aN aE nS fr aT aU aB r X t eT eU eB DE R)) _ from ?_) L0 pm
 refine Spec.nP.kq (QN w b b2 fr aT aU aE aB o.isSome r (r || p != 0) aS aN nS A6 nR (nm X) (nm (o.getD X)) _ _ DE _ _ _ _ _ _ (S.map nm) _ eB hE ((E4 inj).mpr hX) (by simpa using hS) rfl hM pq) (fun L p=>⟨_,p.trans (fK _ _ _ _ _ _ _ _ _ _ _),.refl _⟩) fun A1 P' hP=>⟨_,fJ _ _ _ _ _ _ _ _ _ _ _ _ hP,rfl,BP (t.drop p),DE,_,_,_,_,hb,hE,.refl _⟩
theorem Ug{r:Bool}{X:Nat}{s:List (Nat×Nat)}{S:List Nat}(hX:X∉S)(qX:X∈G.ord)(hn:X∉s.map (·.1))(hc:∀ c∈s.map (·.1),c∈G.ord)(nd:(s.map (·.1)).Nodup)(hl:s.length+1 < 1000)(hS:S.length < 1000){p:Nat}{o:Option Nat}(e:oW G.sc ((X,0)::s)=(p,o))(hF:p≠0→r=false→FR=FW nS A6 nR DP DR DW) :
  A9 (wf w b b2) (A3 (Hu w.2 fr nS A6 nR)) (QI w.2 fr) (WS (wf w b b2) nm G A FR aS aN aE nS fr aT aU aB r X s S)
   (fun e L=>e=Xm w.2 fr o∧WS (wf w b b2) nm G A FR aS aN aE nS fr aT aU aB (r || p != 0) (o.getD X) (EB (((X,0)::s).drop p)) (X::S) L):=by
 rintro L0 ⟨t,DE,R,eT,eU,eB,rfl,hE,pm⟩
 have ec:(t.map It.ci).map (·.1)=t.map (·.c):=by rw [List.map_map]; rfl
 rw [ec] at hn hc nd
 rw [List.length_map] at hl
 have hM:=Ce inj hn
 have hpi:=BN (fun c=>(A.aI c,AG (nm c) (G.np c) (A.aX c) (A.aL c))) qX
 have hpl:=BN (fun c=>(A.aL c,A0 (ED nm G c))) qX
 have lk:BI (AY nm A G.ord) (nm X)=some (.ref (A.aI X)):=by rw [Au inj,if_pos qX]
 have hb:∀ aM nZ,(BP ((⟨X,0,aM,nZ⟩::t).drop p)).map It.ci=EB (((X,0)::t.map It.ci).drop p):=by
  intro aM nZ; rw [JR,List.map_drop]; rfl
 refine (show A9 _ _ _ (fun L=>L.Perm (cB w.2 nm G A FR aS aN aE nS fr aT aU aB r X t eT eU eB DE R)) _ from ?_) L0 pm
 refine Spec.nX.kq (Spec.oC.d (QM w b b2 fr aT aU aE aB aN (A.aI X) (A.aL X) o.isSome r (r || p != 0) aS nS A6 nR (A.aX X) (G.np X) (nm X) (nm (o.getD X)) (t.map (fun x=>Value.ref x.aM)).reverse t.length eU (fun aM=>Mg (BP ((⟨X,0,aM,0⟩::t).drop p)) (eU+1+p)) (C6 (wf w b b2) (nm X::S.map nm)) (Q5 nm t eT) _ (Mg t eU) DE (Q6 w.2 nm t eB) _ (A8 w.2 (AY nm A G.ord) G.ord.length) _ _ (oZ (A.aL X) p) (ED nm G X) (ED nm G X) _ _ (S.map nm) (H8 nm (t.map (·.c))) (AY nm A G.ord) (AL nm (t.map (·.c)).reverse) eT eB G.ord.length hE (fun m=>hX ((E4 inj).mp m)) (by simpa using hS) rfl rfl lk rfl (by simp; lia) rfl (by simp [AL]) (by lia) rfl rfl hM rfl (by rw [Ft]; simp; lia) rfl fun aM nZ=>Xh (jE (w:=w) (b:=b) (b2:=b2) inj A FR aS aN aE nS A6 nR fr aT aU aB DP DR DW ((G.ord.erase X).map (fun c=>(A.aI c,AG (nm c) (G.np c) (A.aX c) (A.aL c)))++R) X t r (eT+1) (eU+1) (eB+1) qX (fun x m=>hc _ (List.mem_map_of_mem m)) (List.nodup_cons.mpr ⟨hn,nd⟩) hl e hF aM nZ))) (fun L p=>⟨_,p.trans (fI _ _ _ _ _ _ _ _ _ _ _ _ _ hpi hpl),.refl _⟩) ?_
 rintro ⟨z1,z2⟩ A1 P' ⟨⟨hz,ez⟩,hP⟩
 have ez:z2=Mg (BP ((⟨X,0,A1 0,0⟩::t).drop p)) (eU+1+p):=ez
 subst ez
 cases p with
 | zero=>exact ⟨_,fH _ _ _ _ _ _ _ _ _ _ _ _ _ _ _ hpi hpl hP,rfl,BP (⟨X,0,A1 0,A1 1⟩::t),z1,R,eT+1,eU+1,eB+1,hb (A1 0) (A1 1),hz,.refl _⟩
 | succ p=>exact ⟨_,fG _ _ _ _ _ _ _ _ _ _ _ _ _ _ _ _ hpi hpl hP,rfl,BP (t.drop p),z1,_,_,_,_,hb (A1 0) (A1 1),hz,.refl _⟩
end
end
section
theorem Pq(s:List (Nat×Nat)):(EB s).map (·.1)=s.map (·.1):=by cases s<;>rfl
theorem JQ(s:List (Nat×Nat)):(EB s).length=s.length:=by cases s<;>rfl
theorem GZ{sc:Nat→List Nat}:∀ {s:List (Nat×Nat)},(oW sc s).2=none→s.drop (oW sc s).1=[]
 | [],_=>rfl
 | (c,i)::s,h=>by
  rw [LJ] at h ⊢
  cases hy:(sc c)[i]? with
  | some y=>rw [hy] at h; cases h
  | none=>rw [hy] at h; exact GZ (s:=s) h
theorem GY{sc:Nat→List Nat}{y:Nat}:∀ {s:List (Nat×Nat)},(oW sc s).2=some y→∃ c∈s.map (·.1),y∈sc c
 | [],h=>by cases h
 | (c,i)::s,h=>by
  rw [LJ] at h
  cases hy:(sc c)[i]? with
  | some z=>
   rw [hy] at h
   cases h
   exact ⟨c,.head _,List.mem_of_getElem? hy⟩
  | none=>
   rw [hy] at h
   obtain ⟨d,m,e⟩:=GY (s:=s) h
   exact ⟨d,.tail _ m,e⟩
theorem CZ{sc:Nat→List Nat}{res:Dr}:∀ {n:Nat} {s:List (Nat×Nat)} {S:List Nat} {X:Nat} {r:Bool},out sc n s S X r=some res→r=true→res.pK=true
 | 0,_,_,_,_,h,_=>by cases h
 | n+1,s,S,X,r,h,hr=>by
  rcases Ni h with ⟨_,_,rfl⟩ | ⟨_,_,⟨p,y,_,h⟩ | ⟨p,_,rfl⟩⟩ | ⟨_,⟨p,y,_,h⟩ | ⟨p,_,rfl⟩⟩
  ·exact hr
  ·exact CZ h (by rw [hr]; rfl)
  ·rw [hr]; rfl
  ·exact CZ h (by rw [hr]; rfl)
  ·rw [hr]; rfl
def KJ(nm:Nat→Str)(rg:Option (List Nat))(e:End)(Ln:Lp):Prop:=
 match rg with
 | none=>e=.fin (.done .next)∧Ln=[]
 | some l=>∃ A1:Nat→Nat,e=.fin (.done (.ret (.ref (A1 0))))∧Ln=[(A1 0,A0 (.seq ⟨AL nm l⟩ 0))]
theorem ZX{α:Type}(f T U E B N:α)(F:List α):([f,T,U,E,B,N]++F).Perm ([f,T,E,B]++(U::N::F)):=
 FQ [[f],[T],[U],[E],[B],[N],F] (.a (.q [0,1,2,3,4,5]) (.l 6)) (.a (.q [0,1,3,4]) (.r [2,5] (.l 6))) rfl
structure KV(G:GS)(n:Nat)(s:List (Nat×Nat))(S:List Nat)(X:Nat):Prop where
 ord:∀ c∈s.map (·.1),c∈G.ord
 nd:(s.map (·.1)).Nodup
 sub:∀ c∈s.map (·.1),c∈S
 ls:s.length+n < 999
 lS:S.length+n < 999
 hX:X∈G.ord
theorem KV.B{G:GS}{n:Nat}{s:List (Nat×Nat)}{S:List Nat}{X Y:Nat}(h:KV G (n+1) s S X)(p:Nat)(hY:Y∈G.ord):KV G n (EB (s.drop p)) S Y:=by
 have e:(EB (s.drop p)).map (·.1)=(s.map (·.1)).drop p:=by rw [Pq,List.map_drop]
 have hs:∀ c∈(EB (s.drop p)).map (·.1),c∈s.map (·.1):=fun c m=>List.mem_of_mem_drop (e ▸ m)
 exact ⟨fun c m=>h.ord c (hs c m),by rw [e]; exact h.nd.sublist (List.drop_sublist _ _),fun c m=>h.sub c (hs c m),by rw [JQ,List.length_drop]; exact Nat.lt_of_le_of_lt (Nat.add_le_add (Nat.sub_le _ _) (Nat.le_succ n)) h.ls,Nat.lt_of_le_of_lt (Nat.le_succ _) h.lS,hY⟩
theorem KV.C{G:GS}{n:Nat}{s:List (Nat×Nat)}{S:List Nat}{X Y:Nat}(h:KV G (n+1) s S X)(hn:X∉S)(p:Nat)(hY:Y∈G.ord):KV G n (EB (((X,0)::s).drop p)) (X::S) Y:=by
 have e:(EB (((X,0)::s).drop p)).map (·.1)=(X::s.map (·.1)).drop p:=by rw [Pq,List.map_drop]; rfl
 have hs:∀ c∈(EB (((X,0)::s).drop p)).map (·.1),c∈X::s.map (·.1):=fun c m=>List.mem_of_mem_drop (e ▸ m)
 refine ⟨fun c m=>?_,?_,fun c m=>?_,by rw [JQ,List.length_drop]; exact Nat.lt_of_le_of_lt (Nat.add_le_add_right (Nat.sub_le _ _) n) (by rw [List.length_cons,Nat.add_right_comm]; exact h.ls),by rw [List.length_cons,Nat.add_right_comm]; exact h.lS,hY⟩
 ·cases hs c m with
  | head=>exact h.hX
  | tail _ m=>exact h.ord c m
 ·rw [e]; exact List.Nodup.sublist (List.drop_sublist _ _) (List.nodup_cons.mpr ⟨fun m=>hn (h.sub _ m),h.nd⟩)
 ·cases hs c m with
  | head=>exact .head _
  | tail _ m=>exact .tail _ (h.sub c m)
section
variable{w:World}{b b2:Bool}{nm:Nat→Str}{G:GS}(inj:∀ a b,nm a=nm b→a=b)(A:GA)(FR:Bool→Lp)(aS aN aE nS A6 nR fr aT aU aB:Nat)(DP DR DW:Data)
include inj
theorem ZZ{r:Bool}{X:Nat}{s:List (Nat×Nat)}{S:List Nat}(hX:X∈S)(hn:X∈s.map (·.1))(nd:(s.map (·.1)).Nodup)(hl:s.length < 1000)(hS:S.length < 1000) :
  Aj (wf w b b2) (A3 (Hu w.2 fr nS A6 nR)) (QI w.2 fr) (WS (wf w b b2) nm G A FR aS aN aE nS fr aT aU aB r X s S)
   (fun e Lk Ln=>WS (wf w b b2) nm G A FR aS aN aE nS fr aT aU aB r X s S Lk∧KJ nm (some ((s.map (·.1)).reverse.drop (LL X (s.map (·.1)))++[X])) e Ln):=by
 rintro L0 ⟨t,DE,R,eT,eU,eB,rfl,hE,pm⟩
 have ec:(t.map It.ci).map (·.1)=t.map (·.c):=by rw [List.map_map]; rfl
 rw [ec] at hn nd ⊢
 rw [List.length_map] at hl
 have hM:=JX inj nd hn
 have hi:=PE hn
 have hi:LL X (t.map (·.c)) < t.length:=by rw [List.length_map] at hi; exact hi
 have eR:(AL nm (t.map (·.c)).reverse).drop (LL X (t.map (·.c)))++[.str (nm X) 0]=AL nm ((t.map (·.c)).reverse.drop (LL X (t.map (·.c)))++[X]):=by
  unfold AL; rw [List.map_append,List.map_drop]; rfl
 refine (show Aj _ _ _ (fun L=>L.Perm (cB w.2 nm G A FR aS aN aE nS fr aT aU aB r X t eT eU eB DE R)) _ from ?_) L0 pm
 refine (Spec.nX.n (Spec.nP.d (QO w b b2 fr aT aE aB r aS aN aU nS A6 nR (nm X) (LL X (t.map (·.c))) (Q5 nm t eT) DE (Q6 w.2 nm t eB) _ (.seq ⟨AL nm ((t.map (·.c)).reverse.drop (LL X (t.map (·.c)))++[X])⟩ 0) (AL nm (t.map (·.c)).reverse) eT eB (S.map nm) (H8 nm (t.map (·.c))) rfl (by simp [AL]; lia) (by simp [AL]; lia) hE ((E4 inj).mpr hX) (by simpa using hS) rfl hM rfl (by rw [eR]) (fun L=>L=(aU,A0 (Mg t eU))::(aN,A7 (A8 w.2 (AY nm A G.ord) G.ord.length))::(FR r++(t.flatMap (PB A)++(Gv nm G A++(EV nm G A++R)))))))).nV ?_ ?_
 ·intro L p
  exact ⟨_,p.trans (ZX _ _ _ _ _ _ _),_,rfl,rfl⟩
 ·rintro e Lk Ln ⟨_,A1,P',rfl,rfl,rfl,rfl⟩
  exact ⟨_,(ZX _ _ _ _ _ _ _).symm,⟨t,DE,R,eT,eU,eB,rfl,hE,.refl _⟩,A1,rfl,rfl⟩
omit inj in
theorem Km{C:Code}{Pre:Lp→Prop}{r:Bool}{X:Nat}{s:List (Nat×Nat)}{S:List Nat}(h:A9 (wf w b b2) (A3 (Hu w.2 fr nS A6 nR)) C Pre fun e L=>e=Xm w.2 fr none∧WS (wf w b b2) nm G A FR aS aN aE nS fr aT aU aB r X s S L)(hs:s=[]) :
  Aj (wf w b b2) (A3 (Hu w.2 fr nS A6 nR)) C Pre fun e Lk Ln=>(∃ s2,((none:Option (List Nat))=none→s2=[])∧WS (wf w b b2) nm G A FR aS aN aE nS fr aT aU aB r X s2 S Lk)∧KJ nm none e Ln:=by
 refine (A9.n0 h).nV (fun L h=>⟨L,.refl _,h⟩) ?_
 rintro e Lk Ln ⟨⟨rfl,h1⟩,rfl⟩
 exact ⟨Lk,.refl _,⟨_,fun q=>hs,h1⟩,rfl,rfl⟩
theorem Nh(oO:∀ c∈G.ord,∀ d∈G.sc c,d∈G.ord):∀ (n:Nat) (s:List (Nat×Nat)) (S:List Nat) (X:Nat) (r:Bool) (res:Dr),out G.sc n s S X r=some res→KV G n s S X→(res.pK=true→FR=FW nS A6 nR DP DR DW)→
  Aj (wf w b b2) (A3 (Hu w.2 fr nS A6 nR)) (QI w.2 fr) (WS (wf w b b2) nm G A FR aS aN aE nS fr aT aU aB r X s S)
   (fun e Lk Ln=>(∃ s2,(res.ring=none→s2=[])∧WS (wf w b b2) nm G A FR aS aN aE nS fr aT aU aB res.pK res.node s2 res.seen Lk)∧KJ nm res.ring e Ln):=by
 intro n
 induction n with
 | zero=>intro s S X r res h; cases h
 | succ n ih=>
  intro s S X r res h iv hF
  have:=iv.ls; have:=iv.lS
  rcases Ni h with ⟨hX,hn,rfl⟩ | ⟨hX,hn,h⟩ | ⟨hX,h⟩
  ·refine (ZZ inj A FR aS aN aE nS A6 nR fr aT aU aB hX hn iv.nd (by lia) (by lia)).nV (fun L h=>⟨L,.refl _,h⟩) ?_
   rintro e Lk Ln ⟨h1,h2⟩
   exact ⟨Lk,.refl _,⟨s,(fun h=>by cases h),h1⟩,h2⟩
  ·rcases h with ⟨p,y,ho,h⟩ | ⟨p,ho,rfl⟩
   ·obtain ⟨c,mc,hy⟩:=GY (congrArg Prod.snd ho)
    have hB:=Uh (w:=w) (b:=b) (b2:=b2) inj A FR aS aN aE nS A6 nR fr aT aU aB DP DR DW (r:=r) hX hn iv.ord iv.nd (by lia) (by lia) ho fun hp hr=>hF (CZ h (by simpa using Or.inr hp))
    exact A9.goN AI (by kernel_rfl) hB (ih _ _ _ _ _ h (iv.B p (oO c (iv.ord c mc) y hy)) hF)
   ·have hB:=Uh (w:=w) (b:=b) (b2:=b2) inj A FR aS aN aE nS A6 nR fr aT aU aB DP DR DW (r:=r) hX hn iv.ord iv.nd (by lia) (by lia) ho fun hp hr=>hF (by simpa using Or.inr hp)
    exact Km _ _ _ _ _ _ _ _ _ _ _ _ hB (by have:=GZ (congrArg Prod.snd ho); rw [ho] at this; rw [this]; rfl)
  ·have hn:X∉s.map (·.1):=fun m=>hX (iv.sub _ m)
   rcases h with ⟨p,y,ho,h⟩ | ⟨p,ho,rfl⟩
   ·obtain ⟨c,mc,hy⟩:=GY (congrArg Prod.snd ho)
    have hB:=Ug (w:=w) (b:=b) (b2:=b2) inj A FR aS aN aE nS A6 nR fr aT aU aB DP DR DW (r:=r) hX iv.hX hn iv.ord iv.nd (by lia) (by lia) ho fun hp hr=>hF (CZ h (by simpa using Or.inr hp))
    exact A9.goN AI (by kernel_rfl) hB (ih _ _ _ _ _ h (iv.C hX p (oO c (by cases mc with | head=>exact iv.hX | tail _ m=>exact iv.ord c m) y hy)) hF)
   ·have hB:=Ug (w:=w) (b:=b) (b2:=b2) inj A FR aS aN aE nS A6 nR fr aT aU aB DP DR DW (r:=r) hX iv.hX hn iv.ord iv.nd (by lia) (by lia) ho fun hp hr=>hF (by simpa using Or.inr hp)
    exact Km _ _ _ _ _ _ _ _ _ _ _ _ hB (by have:=GZ (congrArg Prod.snd ho); rw [ho] at this; rw [this]; rfl)
end
end
section
def Jb(sc:Nat→List Nat)(fuel:Nat):List Nat→List Nat→Bool→Option (Option (List Nat)×Bool)
 | [],_,r=>some (none,r)
 | X::l,S,r=>
  if X∈S then Jb sc fuel l S r
  else match out sc fuel [] S X r with
   | none=>none
   | some res=>match res.ring with
    | some rg=>some (some rg,res.pK)
    | none=>Jb sc fuel l res.seen res.pK
theorem bW(sc:Nat→List Nat)(fuel X:Nat)(l S:List Nat)(r:Bool):Jb sc fuel (X::l) S r=if X∈S then Jb sc fuel l S r
  else match out sc fuel [] S X r with
   | none=>none
   | some res=>match res.ring with
    | some rg=>some (some rg,res.pK)
    | none=>Jb sc fuel l res.seen res.pK:=rfl
inductive YX (sc:Nat→List Nat) (fuel X:Nat) (l S:List Nat) (r:Bool) (res:Option (List Nat)×Bool):Prop
 | seen (hX:X∈S) (h:Jb sc fuel l S r=some res):YX sc fuel X l S r res
 | new (hX:X∉S) (o:Dr) (ho:out sc fuel [] S X r=some o) (h:(∃ rg,o.ring=some rg∧res=(some rg,o.pK))∨(o.ring=none∧Jb sc fuel l o.seen o.pK=some res)):YX sc fuel X l S r res
theorem V0{sc:Nat→List Nat}{fuel X:Nat}{l S:List Nat}{r:Bool}{res:Option (List Nat)×Bool}(h:Jb sc fuel (X::l) S r=some res):YX sc fuel X l S r res:=by
 rw [bW] at h
 by_cases hX:X∈S
 ·rw [if_pos hX] at h; exact .seen hX h
 ·rw [if_neg hX] at h
  cases ho:out sc fuel [] S X r with
  | none=>rw [ho] at h; cases h
  | some o=>
   rw [ho] at h
   refine .new hX o ho ?_
   dsimp only at h
   cases hr:o.ring with
   | none=>rw [hr] at h; exact .inr ⟨rfl,h⟩
   | some rg=>rw [hr] at h; exact .inl ⟨rg,rfl,(Option.some.inj h).symm⟩
def cO(P:Params)(nm:Nat→Str)(aT aU aB eT eU eB:Nat):Lp:=[(aT,A0 (Q5 nm [] eT)),(aU,A0 (Mg [] eU)),(aB,A7 (Q6 P nm [] eB))]
def bD(P:Params)(nm:Nat→Str)(r:Bool)(aS aN aT aU aE aB nS:Nat)(X0:Option Nat):Obj:=jS r P aS aN aT aU aE aB nS (X0.map nm)
def nH(P:Params)(nm:Nat→Str)(G:GS)(A:GA)(FR:Bool→Lp)(aN aE fr aT aU aB aI:Nat)(It F:Obj)(r:Bool)(eT eU eB:Nat)(DE:Data)(R:Lp):Lp:=
 [(aI,It),(aN,A7 (A8 P (AY nm A G.ord) G.ord.length)),(fr,F),(aE,Bp DE)]++(cO P nm aT aU aB eT eU eB++(FR r++(Gv nm G A++(EV nm G A++R))))
theorem fE{α:Type}{P:List α}(f T U E B N:α)(F S:List α)(h:P.Perm ([T,U,B]++(F++S))):([f,E,N]++P).Perm ([f,T,U,E,B,N]++(F++([]++S))):=
 Df [[f],[E],[N],P,[T],[U],[B],F,S] (.a (.q [0,1,2]) (.l 3)) (.a (.q [0,4,5,1,6,2]) (.a (.l 7) (.a (.n) (.l 8)))) (.l 3) (.a (.q [4,5,6]) (.r [7] (.l 8))) h rfl
theorem fD{α:Type}(f T U E B N:α)(F S I l R:List α):([f,T,U,E,B,N]++(F++(S++(I++(l++R))))).Perm ([f,E,N]++([T,U,B]++(F++(I++(l++(S++R)))))):=
 FQ [[f],[T],[U],[E],[B],[N],F,S,I,l,R] (.a (.q [0,1,2,3,4,5]) (.r [6,7,8,9] (.l 10))) (.a (.q [0,3,5]) (.a (.q [1,2,4]) (.r [6,8,9,7] (.l 10)))) rfl
theorem fC{α:Type}{P':List α}(I N f T U E B:α)(F:List α)(h:P'.Perm ([T,U,B]++F)):([I,N,f,E]++P').Perm ([I,N,f,T,U,E,B]++F):=
 Df [[I],[N],[f],[E],P',[T],[U],[B],F] (.a (.q [0,1,2,3]) (.l 4)) (.a (.q [0,1,2,5,6,3,7]) (.l 8)) (.l 4) (.a (.q [5,6,7]) (.l 8)) h rfl
theorem fB{α:Type}(I N f T U E B:α)(F:List α):([I,N]++([f,E,T,U,B]++F)).Perm ([I,N,f,T,U,E,B]++F):=
 FQ [[I],[N],[f],[E],[T],[U],[B],F] (.a (.q [0,1]) (.a (.q [2,3,4,5,6]) (.l 7))) (.a (.q [0,1,2,4,5,3,6]) (.l 7)) rfl
theorem Gj{sc:Nat→List Nat}{fuel:Nat}{res:Option (List Nat)×Bool}:∀ {l:List Nat} {S:List Nat} {r:Bool},Jb sc fuel l S r=some res→r=true→res.2=true
 | [],_,_,h,hr=>by cases h; exact hr
 | X::l,S,r,h,hr=>by
  rcases V0 h with ⟨_,h⟩ | ⟨_,o,ho,⟨rg,_,rfl⟩ | ⟨_,h⟩⟩
  ·exact Gj h hr
  ·exact CZ ho hr
  ·exact Gj h (CZ ho hr)
theorem GB{sc:Nat→List Nat}{res:Dr}:∀ {n:Nat} {s:List (Nat×Nat)} {S:List Nat} {X:Nat} {r:Bool},out sc n s S X r=some res→res.seen.length≤S.length+n
 | 0,_,_,_,_,h=>by cases h
 | n+1,s,S,X,r,h=>by
  rcases Ni h with ⟨_,_,rfl⟩ | ⟨_,_,⟨p,y,_,h⟩ | ⟨p,_,rfl⟩⟩ | ⟨_,⟨p,y,_,h⟩ | ⟨p,_,rfl⟩⟩
  ·exact Nat.le_add_right _ _
  ·exact Nat.le_succ_of_le (GB h)
  ·exact Nat.le_add_right _ _
  ·have:=GB h
   rwa [List.length_cons,Nat.add_right_comm] at this
  ·exact Nat.add_le_add_left (Nat.le_add_left 1 n) _
def RC(nm:Nat→Str)(rg:Option (List Nat)):Option Data:=rg.map fun l=>.seq ⟨AL nm l⟩ 0
theorem PY{nm:Nat→Str}{rg:Option (List Nat)}{e:End}{Ln:Lp}(h:KJ nm rg e Ln):∃ A1,e=MT (.fin (.done .next)) (RC nm rg) A1∧Ln=((List.range (Wf (RC nm rg)).length).map A1).zip (Wf (RC nm rg)):=by
 cases rg with
 | none=>exact ⟨fun q=>0,h⟩
 | some l=>exact h
inductive WO (P:Params) (nm:Nat→Str) (G:GS) (A:GA) (FR:Bool→Lp) (aT aU aB:Nat) (res:Dr) (L:Lp):Prop
 | mk (DT DU DB:Data) (R:Lp) (h0:res.ring=none→∃ eT eU eB,DT=Q5 nm [] eT∧DU=Mg [] eU∧DB=Q6 P nm [] eB) (h1:L.Perm ([(aT,A0 DT),(aU,A0 DU),(aB,A7 DB)]++(FR res.pK++(Gv nm G A++(EV nm G A++R))))):WO P nm G A FR aT aU aB res L
section
variable{w:World}{b b2:Bool}{nm:Nat→Str}{G:GS}(inj:∀ a b,nm a=nm b→a=b)(A:GA)(FR:Bool→Lp)(aS aN aE nS A6 nR fr aT aU aB:Nat)(DP DR DW:Data)
include inj
theorem Yq(oO:∀ c∈G.ord,∀ d∈G.sc c,d∈G.ord){n:Nat}{S:List Nat}{X:Nat}{r:Bool}{res:Dr}(h:out G.sc n [] S X r=some res)(hX:X∈G.ord)(hn:n < 900)(hS:S.length+n < 999)(hF:res.pK=true→FR=FW nS A6 nR DP DR DW){DE:Data}(hE:C6 (wf w b b2) (S.map nm) DE)(eT eU eB:Nat)(R:Lp) :
  Spec.oC (Ua w.2 (RC nm res.ring) r res.pK aS aN aT aU aB nS A6 nR fr aE (nm X) (nm res.node) (A8 w.2 (AY nm A G.ord) G.ord.length) DE) (fun z q=>C6 (wf w b b2) (res.seen.map nm) z) (Ua w.2 (RC nm res.ring) r res.pK aS aN aT aU aB nS A6 nR fr aE (nm X) (nm res.node) (A8 w.2 (AY nm A G.ord) G.ord.length) DE .plain) (wf w b b2) (A3 (Hu w.2 fr nS A6 nR))
   (fun L=>L.Perm (cO w.2 nm aT aU aB eT eU eB++(FR r++(Gv nm G A++(EV nm G A++R))))) (WO w.2 nm G A FR aT aU aB res):=by
 have hh:=Nh (w:=w) (b:=b) (b2:=b2) inj A FR aS aN aE nS A6 nR fr aT aU aB DP DR DW oO n [] S X r res h ⟨fun c m=>(by cases m),.nil,fun c m=>(by cases m),(by simp; lia),hS,hX⟩ hF
 refine Spec.nX.z (Aj.toD hh ?_ ?_)
 ·intro P hP
  exact ⟨_,fE _ _ _ _ _ _ _ _ hP,[],DE,R,eT,eU,eB,rfl,hE,.refl _⟩
 ·rintro e Lk Ln ⟨⟨s2,hs,t,DE',R',eT',eU',eB',ht,hE',pm⟩,he⟩
  obtain ⟨A1,rfl,rfl⟩:=PY he
  refine ⟨DE',A1,_,⟨hE',_,_,_,_,fun hr=>?_,.refl _⟩,rfl,pm.trans (fD _ _ _ _ _ _ _ _ _ _ _),rfl⟩
  rw [hs hr] at ht
  have ht:t=[]:=List.map_eq_nil_iff.mp ht
  subst ht
  exact ⟨_,_,_,rfl,rfl,rfl⟩
inductive FS (w':World) (nm:Nat→Str) (G:GS) (A:GA) (FR:Bool→Lp) (aS aN aE nS fr aT aU aB aI:Nat) (i:Nat) (X0:Option Nat) (r:Bool) (S:List Nat) (L:Lp):Prop
 | mk (DE:Data) (R:Lp) (eT eU eB:Nat) (h0:C6 w' (S.map nm) DE) (h1:L.Perm (nH w'.params nm G A FR aN aE fr aT aU aB aI (Cu aN i G.ord.length G.ord.length) (bD w'.params nm r aS aN aT aU aE aB nS X0) r eT eU eB DE R)):FS w' nm G A FR aS aN aE nS fr aT aU aB aI i X0 r S L
variable(aI:Nat)
theorem IJ{G:GS}{i X:Nat}(h:G.ord[i]?=some X):(AY nm A G.ord)[i]?=some (nm X,.ref (A.aI X)):=by unfold AY; rw [List.getElem?_map,h]; rfl
theorem CR(G:GS):(AY nm A G.ord).length=G.ord.length:=by simp [AY]
theorem jK{i X:Nat}{X0:Option Nat}(hi:G.ord[i]?=some X){r:Bool}{S:List Nat}(hX:X∈S)(hS:S.length < 1000) :
  A9 (wf w b b2) (A3 (HE w.2 fr nS A6 nR)) (Es w.2 aI fr) (FS (wf w b b2) nm G A FR aS aN aE nS fr aT aU aB aI i X0 r S)
   (fun e L=>e=.fin (.again (Es w.2 aI fr))∧FS (wf w b b2) nm G A FR aS aN aE nS fr aT aU aB aI (i+1) (some X) r S L):=by
 rintro L0 ⟨DE,R,eT,eU,eB,hE,pm⟩
 exact ((Tc w b b2 aI aN fr aE r (X0.map nm) aS aT aU aB nS A6 nR i G.ord.length (nm X) _ (AY nm A G.ord) G.ord.length _ DE (S.map nm) rfl (CR inj A G) (IJ inj A hi) hE (by simpa using hS) ((E4 inj).mpr hX) (fun L=>L=cO w.2 nm aT aU aB eT eU eB++(FR r++(Gv nm G A++(EV nm G A++R))))).kp (oK:=fun L=>L=L0) (by rintro _ rfl; exact pm) (fun A1=>⟨_,.refl _,rfl,DE,R,eT,eU,eB,hE,.refl _⟩)) L0 rfl
theorem jM(oO:∀ c∈G.ord,∀ d∈G.sc c,d∈G.ord){i X n:Nat}{X0:Option Nat}(hi:G.ord[i]?=some X){r:Bool}{S:List Nat}{res:Dr}(h:out G.sc n [] S X r=some res)(hr:res.ring=none)(hX:X∉S)(hn:n < 900)(hS:S.length+n < 999)(hF:res.pK=true→FR=FW nS A6 nR DP DR DW) :
  A9 (wf w b b2) (A3 (HE w.2 fr nS A6 nR)) (Es w.2 aI fr) (FS (wf w b b2) nm G A FR aS aN aE nS fr aT aU aB aI i X0 r S)
   (fun e L=>e=.fin (.again (Es w.2 aI fr))∧FS (wf w b b2) nm G A FR aS aN aE nS fr aT aU aB aI (i+1) (some res.node) res.pK res.seen L):=by
 rintro L0 ⟨DE,R,eT,eU,eB,hE,pm⟩
 have qT:=Yq (w:=w) (b:=b) (b2:=b2) inj A FR aS aN aE nS A6 nR fr aT aU aB DP DR DW oO h (List.mem_of_getElem? hi) hn hS hF hE eT eU eB R
 rw [hr] at qT
 refine ((Spec.nX.n (Spec.oC.d (PU w b b2 aI aN fr aE none r res.pK (X0.map nm) aS aT aU aB nS A6 nR i G.ord.length (nm X) (nm res.node) _ (AY nm A G.ord) G.ord.length _ _ _ DE _ _ (S.map nm) rfl (CR inj A G) (IJ inj A hi) hE (by simp; lia) (fun m=>hX ((E4 inj).mp m)) rfl qT))).kk.nV (oK:=fun L=>L=L0) ?_ ?_) L0 rfl
 ·rintro _ rfl
  exact ⟨_,pm,_,.refl _,rfl⟩
 ·rintro e L ⟨_,_,⟨z,A1,P',⟨hz,DT,DU,DB,R',h0,hP⟩,rfl,rfl,rfl⟩,rfl⟩
  obtain ⟨eT',eU',eB',rfl,rfl,rfl⟩:=h0 hr
  refine ⟨_,.refl _,rfl,z,R',eT',eU',eB',hz,?_⟩
  show ((_++P')++([]:Lp)).Perm _
  rw [List.append_nil]
  exact List.Perm.append_left _ hP
inductive FE (w':World) (nm:Nat→Str) (G:GS) (A:GA) (FR:Bool→Lp) (aN aE nS fr aT aU aB aI:Nat) (r:Bool) (L:Lp):Prop
 | mk (z:Nat→Data) (R:Lp) (h0:L.Perm ([(aI,lM (z 0)),(aN,A7 (A8 w'.params (AY nm A G.ord) G.ord.length)),(fr,Xd r (z 1) (.ref 181) (.ref nS) (.ref 182)),(aT,A0 (z 2)),(aU,A0 (z 3)),(aE,Bp (z 4)),(aB,A7 (z 5))]++(FR r++(Gv nm G A++(EV nm G A++R))))):FE w' nm G A FR aN aE nS fr aT aU aB aI r L
theorem jL(oO:∀ c∈G.ord,∀ d∈G.sc c,d∈G.ord){i X n:Nat}{X0:Option Nat}(hi:G.ord[i]?=some X){r:Bool}{S:List Nat}{res:Dr}{rg:List Nat}(h:out G.sc n [] S X r=some res)(hr:res.ring=some rg)(hX:X∉S)(hn:n < 900)(hS:S.length+n < 999)(hF:res.pK=true→FR=FW nS A6 nR DP DR DW) :
  Aj (wf w b b2) (A3 (HE w.2 fr nS A6 nR)) (Es w.2 aI fr) (FS (wf w b b2) nm G A FR aS aN aE nS fr aT aU aB aI i X0 r S)
   (fun e Lk Ln=>FE (wf w b b2) nm G A FR aN aE nS fr aT aU aB aI res.pK Lk∧KJ nm (some rg) e Ln):=by
 rintro L0 ⟨DE,R,eT,eU,eB,hE,pm⟩
 have qT:=Yq (w:=w) (b:=b) (b2:=b2) inj A FR aS aN aE nS A6 nR fr aT aU aB DP DR DW oO h (List.mem_of_getElem? hi) hn hS hF hE eT eU eB R
 rw [hr] at qT
 refine ((Spec.nX.n (Spec.oC.d (PU w b b2 aI aN fr aE (some (.seq ⟨AL nm rg⟩ 0)) r res.pK (X0.map nm) aS aT aU aB nS A6 nR i G.ord.length (nm X) (nm res.node) _ (AY nm A G.ord) G.ord.length _ _ _ DE _ _ (S.map nm) rfl (CR inj A G) (IJ inj A hi) hE (by simp; lia) (fun m=>hX ((E4 inj).mp m)) rfl qT))).nV (oK:=fun L=>L=L0) ?_ ?_) L0 rfl
 ·rintro _ rfl
  exact ⟨_,pm,_,.refl _,rfl⟩
 ·rintro e Lk Ln ⟨z,A1,P',⟨hz,DT,DU,DB,R',_,hP⟩,rfl,rfl,rfl⟩
  exact ⟨_,fC _ _ _ _ _ _ _ _ hP,⟨(fun j=>match j with | 0=>(Cu aN ((i:Int)+1) G.ord.length G.ord.length).data | 1=>lV w.2 aS aN aT aU aE aB (nm res.node) | 2=>DT | 3=>DU | 4=>z | _=>DB),R',.refl _⟩,A1,rfl,rfl⟩
theorem jN{i:Nat}(hi:i=G.ord.length){X0:Option Nat}{r:Bool}{S:List Nat} :
  Aj (wf w b b2) (A3 (HE w.2 fr nS A6 nR)) (Es w.2 aI fr) (FS (wf w b b2) nm G A FR aS aN aE nS fr aT aU aB aI i X0 r S)
   (fun e Lk Ln=>FE (wf w b b2) nm G A FR aN aE nS fr aT aU aB aI r Lk∧KJ nm none e Ln):=by
 subst hi
 rintro L0 ⟨DE,R,eT,eU,eB,hE,pm⟩
 refine ((Spec.nX.n (Spec.nP.d (Td w b b2 aI aN fr nS A6 nR G.ord.length G.ord.length (AY nm A G.ord) G.ord.length _ _ rfl (CR inj A G) (Nat.le_of_eq (CR inj A G)) rfl (fun L=>L=[(fr,bD w.2 nm r aS aN aT aU aE aB nS X0),(aE,Bp DE)]++(cO w.2 nm aT aU aB eT eU eB++(FR r++(Gv nm G A++(EV nm G A++R)))))))).nV (oK:=fun L=>L=L0) ?_ ?_) L0 rfl
 ·rintro _ rfl
  exact ⟨_,pm,_,rfl,rfl⟩
 ·rintro e Lk Ln ⟨_,A1,P',rfl,rfl,rfl,rfl⟩
  have eO:bD w.2 nm r aS aN aT aU aE aB nS X0=Xd r (bD w.2 nm r aS aN aT aU aE aB nS X0).data (.ref 181) (.ref nS) (.ref 182):=by cases X0<;>rfl
  rw [eO]
  exact ⟨_,fB _ _ _ _ _ _ _ _,⟨(fun j=>match j with | 0=>(LZ (G.ord.length:Int) G.ord.length G.ord.length).data | 1=>(bD w.2 nm r aS aN aT aU aE aB nS X0).data | 2=>Q5 nm [] eT | 3=>Mg [] eU | 4=>DE | _=>Q6 w.2 nm [] eB),R,.refl _⟩,rfl,rfl⟩
theorem TZ(oO:∀ c∈G.ord,∀ d∈G.sc c,d∈G.ord){fuel:Nat}(hf:fuel < 50){res:Option (List Nat)×Bool}(hF:res.2=true→FR=FW nS A6 nR DP DR DW):∀ (n i:Nat) (X0:Option Nat) (r:Bool) (S:List Nat),i+n=G.ord.length→S.length+(n+1)*fuel < 999→Jb G.sc fuel (G.ord.drop i) S r=some res→
  Aj (wf w b b2) (A3 (HE w.2 fr nS A6 nR)) (Es w.2 aI fr) (FS (wf w b b2) nm G A FR aS aN aE nS fr aT aU aB aI i X0 r S)
   (fun e Lk Ln=>FE (wf w b b2) nm G A FR aN aE nS fr aT aU aB aI res.2 Lk∧KJ nm res.1 e Ln):=by
 intro n
 induction n with
 | zero=>
  intro i X0 r S hi hS h
  have hi:i=G.ord.length:=by lia
  rw [hi,List.drop_length] at h
  cases h
  exact jN inj A FR aS aN aE nS A6 nR fr aT aU aB aI hi
 | succ n ih=>
  intro i X0 r S hi hS h
  have oX:i < G.ord.length:=Cc hi
  have hp:G.ord[i]?=some G.ord[i]:=List.getElem?_eq_getElem oX
  have hd:G.ord.drop i=G.ord[i]::G.ord.drop (i+1):=List.drop_eq_getElem_cons oX
  rw [hd] at h
  have hS1:S.length+(n+1)*fuel+fuel < 999:=by rw [Nat.succ_mul] at hS; lia
  have hS2:S.length+fuel < 999:=by have:=Nat.zero_le ((n+1)*fuel); lia
  rcases V0 h with ⟨hX,h⟩ | ⟨hX,o,ho,⟨rg,hr,rfl⟩ | ⟨hr,h⟩⟩
  ·exact A9.goN AI (by kernel_rfl) (jK (w:=w) (b:=b) (b2:=b2) inj A FR aS aN aE nS A6 nR fr aT aU aB aI hp (r:=r) hX (by lia)) (ih (i+1) _ r S (Hp hi) (by lia) h)
  ·exact jL inj A FR aS aN aE nS A6 nR fr aT aU aB DP DR DW aI oO hp ho hr hX (by lia) hS2 hF
  ·have hs:=jM (w:=w) (b:=b) (b2:=b2) inj A FR aS aN aE nS A6 nR fr aT aU aB DP DR DW aI oO (X0:=X0) hp ho hr hX (by lia) hS2 (fun h2=>hF (Gj h h2))
   have:=GB ho
   exact A9.goN AI (by kernel_rfl) hs (ih (i+1) _ _ _ (Hp hi) (by lia) h)
end
end
section
def TQ(A6 nR:Nat)(DR DW:Data)(r:Bool):Lp:=[(A6,I3 r DR nR),(nR,Dp nR DW)]
theorem BC{nm:Nat→Str}{G:GS}{A:GA}{R:Lp}:(G.ord.flatMap (B9 nm G A)++R).Perm (Gv nm G A++(EV nm G A++R)):=by
 have h:∀ l:List Nat,(l.flatMap (B9 nm G A)).Perm (l.map (fun c=>(A.aI c,AG (nm c) (G.np c) (A.aX c) (A.aL c)))++l.map (fun c=>(A.aL c,A0 (ED nm G c)))):=by
  intro l
  induction l with
  | nil=>exact .refl _
  | cons c l ih=>
   rw [List.flatMap_cons,List.map_cons,List.map_cons]
   refine (List.Perm.append_left _ ih).trans ?_
   unfold B9 ED
   classical
   rw [List.perm_iff_count]; intro a
   simp only [List.count_cons,List.count_append,List.count_nil]; lia
 refine ((h G.ord).append_right R).trans (.of_eq ?_)
 rw [List.append_assoc]; rfl
theorem fN{α:Type}{P:List α}(I N f T U E B:α)(F Z:List α)(h:P.Perm (F++Z)):([I,N,f,T,U,E,B]++P).Perm ([I,N,f,E]++([T,U,B]++(F++Z))):=
 Df [[I],[N],[f],[T],[U],[E],[B],P,F,Z] (.a (.q [0,1,2,3,4,5,6]) (.l 7)) (.a (.q [0,1,2,5]) (.a (.q [3,4,6]) (.r [8] (.l 9)))) (.l 7) (.r [8] (.l 9)) h rfl
theorem ZW{α:Type}(F I l R:List α):(I++(l++(F++R))).Perm (F++(I++(l++R))):=
 FQ [I,l,F,R] (.r [0,1,2] (.l 3)) (.r [2,0,1] (.l 3)) rfl
theorem ZV{α:Type}(F S R:List α):(F++(S++R)).Perm (S++(F++R)):=
 FQ [F,S,R] (.r [0,1] (.l 2)) (.r [1,0] (.l 2)) rfl
theorem Spec.nP.mono{S:Spec}{w:World}{Sh:Pos→List Frame→Prop}{I I' O O':Lp→Prop}(h:S.nP w Sh I O)(hi:∀ L,I' L→I L)(ho:∀ L,O L→O' L):S.nP w Sh I' O':=
 fun P hI=>(h P (hi P hI)).nV (fun q e=>e) fun e L ⟨A,P',a,b,c,d⟩=>⟨A,P',ho _ a,b,c,d⟩
def Q9(nm:Nat→Str)(G:GS):Data:=.seq ⟨AL nm (As G G.ord)⟩ (As G G.ord).length
theorem NZ{P:Params}{nm:Nat→Str}{G:GS}{A:GA}{R' Lx:Lp}:QG P nm G (A8 P (AY nm A G.ord) G.ord.length) ((Gv nm G A++(EV nm G A++R'))++Lx):=
 ⟨A,R'++Lx,rfl,(BC.trans (.of_eq (by simp only [List.append_assoc]))).symm⟩
section
variable{w:World}{b b2:Bool}{nm:Nat→Str}{G:GS}(inj:∀ a b,nm a=nm b→a=b)(A:GA)(oO:∀ c∈G.ord,∀ d∈G.sc c,d∈G.ord)(hs:G.ord.length < 20){fuel:Nat}(hf:fuel < 40)
include inj oO hs hf
theorem qu(FR:Bool→Lp)(aS aN nS A6 nR:Nat)(DP DR DW:Data){r2:Bool}{rg:Option (List Nat)}(h:Jb G.sc fuel G.ord [] false=some (rg,r2))(hF:r2=true→FR=FW nS A6 nR DP DR DW)(R:Lp){DE:Data}(hE:C6 (wf w b b2) [] DE)(aI fr aT aU aE aB:Nat) :
  Spec.oC (JI w.2 (RC nm rg) r2 aS nS A6 nR aN aI fr aT aU aE aB G.ord.length G.ord.length (A8 w.2 (AY nm A G.ord) G.ord.length) DE) (fun q q=>True) (JI w.2 (RC nm rg) r2 aS nS A6 nR aN aI fr aT aU aE aB G.ord.length G.ord.length (A8 w.2 (AY nm A G.ord) G.ord.length) DE z0) (wf w b b2) (A3 (HE w.2 fr nS A6 nR))
   (fun L=>L.Perm (FR false++(Gv nm G A++(EV nm G A++R)))) (fun L=>∃ R',L.Perm (FR r2++(Gv nm G A++(EV nm G A++R')))):=by
 have hm:(G.ord.length+1)*fuel < 999:=Nat.lt_of_le_of_lt (Nat.mul_le_mul (show G.ord.length+1≤20 by lia) (show fuel≤40 by lia)) (by decide)
 have hh:=TZ (w:=w) (b:=b) (b2:=b2) inj A FR aS aN aE nS A6 nR fr aT aU aB DP DR DW aI oO (by lia) (res:=(rg,r2)) hF G.ord.length 0 none false [] (by lia) (by simpa using hm) h
 refine Spec.nX.z (Aj.toD hh ?_ ?_)
 ·intro P hP
  exact ⟨_,fN _ _ _ _ _ _ _ _ _ hP,DE,R,0,0,0,hE,.refl _⟩
 ·rintro e Lk Ln ⟨⟨z,R',pm⟩,he⟩
  obtain ⟨A1,rfl,rfl⟩:=PY he
  exact ⟨z,A1,_,⟨trivial,R',.refl _⟩,rfl,pm,rfl⟩
theorem Xb(FT:Bool→Lp)(aS aD aN nS A6 nR rn:Nat)(DR DW:Data){r2:Bool}{rg:Option (List Nat)}(h:Jb G.sc fuel G.ord [] false=some (rg,r2))(hF:r2=true→FT=TQ A6 nR DR DW)(R:Lp) :
  (Yl w.2 (RC nm rg) r2 aS aD aN nS A6 nR rn 0 0 (A8 w.2 (AY nm A G.ord) G.ord.length)).nP (wf w b b2) (A3 (NJ w.2 nS A6 nR))
   (fun L=>L.Perm (FT false++(Gv nm G A++(EV nm G A++R)))) (fun L=>∃ R',L.Perm (FT r2++(Gv nm G A++(EV nm G A++R')))):=by
 have hlen:=CR (nm:=nm) inj A G
 have hy:=Xa w b b2 aS aD aN (RC nm rg) r2 nS A6 nR rn 0 0 (AY nm A G.ord) _ G.ord.length (C6 (wf w b b2) []) (A8 w.2 (AY nm A G.ord) G.ord.length) (A8 w.2 (AY nm A G.ord) G.ord.length) _ _ rfl rfl rfl rfl (by rw [hlen]; exact fun DE hE aI fr aT aU aE aB=>qu inj A oO hs hf (fun r=>(nS,RM r (ZY w.2 aS) A6)::FT r) aS aN nS A6 nR (ZY w.2 aS) DR DW h (fun hr=>by rw [hF hr]; rfl) R hE aI fr aT aU aE aB)
 have hk:=Spec.nX.n (Spec.nP.d hy)
 refine Spec.nX.p (Aj.toD hk ?_ ?_)
 ·intro P hP
  exact ⟨_,.append_left [(aS,AJ aD),(aD,AK w.2 aN (.ref rn) 0 0),(aN,A7 (A8 w.2 (AY nm A G.ord) G.ord.length))] (.cons (nS,RM false (ZY w.2 aS) A6) hP),_,.refl _,rfl⟩
 ·rintro e Lk Ln ⟨_,A1,P',⟨R',pm⟩,rfl,rfl,rfl⟩
  exact ⟨(),A1,FT r2++(Gv nm G A++(EV nm G A++R')),⟨R',.refl _⟩,rfl,List.Perm.append_left _ pm,rfl⟩
variable{c0:Nat}{rest:List Nat}(ho:G.ord=c0::rest)(hn:∀ c,0≤G.np c)
include ho hn
theorem Vo(aS aD aN fr nR:Nat)(D DF DW:Data)(h:Jb G.sc fuel G.ord [] false=some (none,true)) :
  (ZD w.2 aS aD aN fr nR D DF DW (Q9 nm G)).nP (wf w b b2) (A3 [.fun1 (DQ w.2 fr),.fun1 (BO w.2 nR),.bi "claim.caller" 0]) (QG w.2 nm G D) (QG w.2 nm G D):=by
 intro P hQ
 obtain ⟨A,R,rfl,pm⟩:=hQ
 have hlen:=CR (nm:=nm) inj A G
 have hy:=RN w b b2 aS aD aN true fr nR (AY nm A G.ord) G.ord.length (rest.foldl (fun q c=>A.aI c) (A.aI c0)) (A8 w.2 (AY nm A G.ord) G.ord.length) (A8 w.2 (AY nm A G.ord) G.ord.length) (Q9 nm G) (fun L=>L=H5 nm G A (TQ fr nR DF DW false++R)) (fun q=>True) (fun L=>∃ R',L.Perm (TQ fr nR DF DW true++(Gv nm G A++(EV nm G A++R')))) rfl rfl
  (by rw [hlen]; exact fun aI aA aK f=>Jv A _ aI aN aA aK f hn (by lia) ho)
  (fun nS rn=>Spec.nP.mono (Xb inj A oO hs hf (TQ fr nR DF DW) aS aD aN nS fr nR rn DF DW h (fun q=>rfl) R) (by
   rintro L rfl
   refine BC.trans ?_
   exact (ZW _ _ _ _)) (fun q h=>h))
 have hk:=Spec.nX.n (Spec.nP.d hy)
 refine (Spec.nX.p (S:=ZD w.2 aS aD aN fr nR _ DF DW (Q9 nm G)) (O:=QG w.2 nm G (A8 w.2 (AY nm A G.ord) G.ord.length)) (Aj.toD (I:=fun L=>L=P) hk ?_ ?_)) P rfl
 ·rintro P' rfl
  refine ⟨_,?_,_,rfl,rfl⟩
  refine (List.Perm.append_left _ pm).trans ?_
  exact (List.Perm.append_left [(aS,AJ aD),(aD,AK w.2 aN .none 0 0),(aN,A7 (A8 w.2 (AY nm A G.ord) G.ord.length))] (ZV (TQ fr nR DF DW false) (G.ord.flatMap (B9 nm G A)) R))
 ·rintro e Lk Ln ⟨_,A1,P',⟨R',pm2⟩,rfl,rfl,rfl⟩
  refine ⟨(),A1,Gv nm G A++(EV nm G A++R'),⟨A,R',rfl,BC.symm⟩,rfl,?_,rfl⟩
  exact List.Perm.append_left _ pm2
theorem Vn(aS aD aN fr nR:Nat)(D DF DW:Data){r2:Bool}{x:Nat}{rg:List Nat}(hl:rg.length < 1000)(h:Jb G.sc fuel G.ord [] false=some (some (x::rg),r2)) :
  (Yc w.2 aS aD aN fr nR D DF DW (Q9 nm G)).nP (wf w b b2) (A3 [.fun1 (DQ w.2 fr),.fun1 (BO w.2 nR),.bi "claim.caller" 0]) (QG w.2 nm G D) (QG w.2 nm G D):=by
 intro P hQ
 obtain ⟨A,R,rfl,pm⟩:=hQ
 have hlen:=CR (nm:=nm) inj A G
 cases r2 with
 | true=>
  have hy:=Na w b b2 aS aD aN fr nR (AY nm A G.ord) G.ord.length (rest.foldl (fun q c=>A.aI c) (A.aI c0)) 0 (A8 w.2 (AY nm A G.ord) G.ord.length) (A8 w.2 (AY nm A G.ord) G.ord.length) (Q9 nm G) (.seq ⟨AL nm (x::rg)⟩ 0) (fun L=>L=H5 nm G A (TQ fr nR DF DW false++R)) (fun q=>True) (fun L=>∃ R',L.Perm (TQ fr nR DF DW true++(Gv nm G A++(EV nm G A++R')))) (AL nm (x::rg)) rg.length 0 rfl rfl rfl (by simp [AL]) hl
   (by rw [hlen]; exact fun aI aA aK f=>Jv A _ aI aN aA aK f hn (by lia) ho)
   (fun nS rn=>Spec.nP.mono (Xb inj A oO hs hf (TQ fr nR DF DW) aS aD aN nS fr nR rn DF DW h (fun q=>rfl) R) (by
    rintro L rfl
    refine BC.trans ?_
    exact (ZW _ _ _ _)) (fun q h=>h))
  have hk:=Spec.nX.n (Spec.nP.d hy)
  refine (Spec.nX.p (S:=Yc w.2 aS aD aN fr nR _ DF DW (Q9 nm G)) (O:=QG w.2 nm G (A8 w.2 (AY nm A G.ord) G.ord.length)) (Aj.pR (I:=fun L=>L=P) hk ?_ ?_)) P rfl
  ·rintro P' rfl
   refine ⟨_,?_,_,rfl,rfl⟩
   refine (List.Perm.append_left _ pm).trans ?_
   exact (List.Perm.append_left [(aS,AJ aD),(aD,AK w.2 aN .none 0 0),(aN,A7 (A8 w.2 (AY nm A G.ord) G.ord.length))] (ZV (TQ fr nR DF DW false) (G.ord.flatMap (B9 nm G A)) R))
  ·rintro e Lk Ln ⟨_,A1,P',⟨R',pm2⟩,rfl,rfl,rfl⟩
   refine ⟨(),A1,Gv nm G A++(EV nm G A++R'),[(A1 3,_),(A1 4,_),(A1 5,_)],NZ,rfl,List.Perm.append_left _ pm2,.refl _⟩
 | false=>
  have hy:=Nb w b b2 aS aD aN fr nR (AY nm A G.ord) G.ord.length (rest.foldl (fun q c=>A.aI c) (A.aI c0)) 0 (A8 w.2 (AY nm A G.ord) G.ord.length) (A8 w.2 (AY nm A G.ord) G.ord.length) (Q9 nm G) (.seq ⟨AL nm (x::rg)⟩ 0) DF DW (fun L=>L=H5 nm G A R) (fun q=>True) (fun L=>∃ R',L.Perm ([]++(Gv nm G A++(EV nm G A++R')))) (AL nm (x::rg)) rg.length 0 rfl rfl rfl (by simp [AL]) hl
   (by rw [hlen]; exact fun aI aA aK f=>Jv A _ aI aN aA aK f hn (by lia) ho)
   (fun nS rn=>Spec.nP.mono (Xb inj A oO hs hf (fun q=>[]) aS aD aN nS fr nR rn DF DW h (fun h=>by cases h) R) (by
    rintro L rfl
    exact BC) (fun q h=>h))
  have hk:=Spec.nX.n (Spec.nP.d hy)
  refine (Spec.nX.p (S:=Yc w.2 aS aD aN fr nR _ DF DW (Q9 nm G)) (O:=QG w.2 nm G (A8 w.2 (AY nm A G.ord) G.ord.length)) (Aj.pR (I:=fun L=>L=P) hk ?_ ?_)) P rfl
  ·rintro P' rfl
   exact ⟨_,List.Perm.append_left _ pm,_,rfl,rfl⟩
  ·rintro e Lk Ln ⟨_,A1,P',⟨R',pm2⟩,rfl,rfl,rfl⟩
   refine ⟨(),A1,Gv nm G A++(EV nm G A++R'),[(A1 3,_),(A1 4,_),(A1 5,_)],NZ,rfl,List.Perm.append_left _ pm2,.refl _⟩
end
end
theorem XW{p:Program}{w:World}(a b:Int)(t u:Nat):CT p w (.call (.builtin "int.__eq__") ⟨[.int a t,.int b u],[]⟩) (BU (decide (a=b))):=
 EM (T:=.pure (.done (.ret (.bool (decide (a=b)))))) (by kernel_rfl) (by kernel_rfl) (fun q q q=>by rw [← BD]; kernel_rfl) (I1 (R:=BU _) rfl)
def WU(a b:Int)(v:Bool):AA:=Gz (.call (.builtin "int.__eq__") ⟨[.int a 0,.int b 0],[]⟩) fun q=>.ok (.ret (.bool v))
theorem Kz{p:Program}{w:World}{kt:KT}{a b:Int}{v:Bool}(h:decide (a=b)=v):(WU a b v).Ok p w kt:=C0 fun c hc=>by
 obtain ⟨t,u,rfl⟩:=Pd hc
 intro s k g l cd pc rest
 obtain ⟨s',res,e,G,go⟩:=XW (p:=p) (w:=w) a b t u s k g l cd pc rest
 exact ⟨s',res,⟨0,by rw [e,h]⟩,G,go⟩
def Tq(P:Params):Stmt:=(Cd (Ea (We P))).getD 2 (.Pass default)
def Xy(P:Params):Stmt:=(FX (Tq P)).getD 4 (.Pass default)
def bL(P:Params)(fr:Nat):Env:=AS P 175 We fr
def Xw(P:Params)(aI fr:Nat):Code:=.forLoop (KG (Tq P)) (.ref aI) (FX (Tq P)) (KH (Tq P)) (bL P fr)
def Tv(P:Params)(aI fr:Nat):Code:=.forLoop (KG (Xy P)) (.ref aI) (FX (Xy P)) (KH (Xy P)) (bL P fr)
noncomputable def EK:List Sh:=[.func,.whil,.func,.func,.bi "claim.caller" 0]
def Dw:List Sh:=.for_::EK
def Pe(P:Params)(aS aT aN:Nat)(X:Str)(aI:Nat):Option (Str×Nat)→Obj
 | none=>C3 (.dict ⟨[kE P "self" (.ref aS),kE P "nodes" (.ref aT),kE P "n2i" (.ref aN),kE P "node" (.str X 0),kE P "nodeinfo" (.ref aI),kE P "stat" (.int (-1) 0)]⟩ 6)
 | some (Y,aJ)=>C3 (.dict ⟨[kE P "self" (.ref aS),kE P "nodes" (.ref aT),kE P "n2i" (.ref aN),kE P "node" (.str X 0),kE P "nodeinfo" (.ref aI),kE P "stat" (.int (-1) 0),kE P "successor" (.str Y 0),kE P "successor_info" (.ref aJ)]⟩ 8)
def jY(P:Params)(aS aT aN:Nat):Option (Str×Nat×Option (Str×Nat))→Obj
 | none=>C3 (.dict ⟨[kE P "self" (.ref aS),kE P "nodes" (.ref aT),kE P "n2i" (.ref aN)]⟩ 3)
 | some (X,aI,o)=>Pe P aS aT aN X aI o
noncomputable def jZ:Option (Str×Nat×Option (Str×Nat))→Option (Str×Nat)
 | none=>none
 | some (_,_,o)=>o
def d6(P:Params)(F1 F2:Obj)(nZ aL fr aN aR aD aS:Nat)(po nf:Int)(DL DN DR oN DI:Data):Spec:=
 ⟨Tv P nZ fr,[nZ,aL,fr,aN,aR,aD,aS],[AW aL 0,A0 DL,F1,A7 DN,A0 DR,AK P aN (.ref aR) po nf,AJ aD],Dw,fun q=>.fin (.done .next),fun q=>[{ cls:=.type "list_iterator",data:=DI },A0 DL,F2,A7 DN,A0 oN,AK P aN (.ref aR) po nf,AJ aD],fun q=>[]⟩
def lD(P:Params)(F1 F2:Obj)(aL fr aN aR aD aS:Nat)(po nf:Int)(DL DN DR oN DI:Data):AA:=B6 (fun q=>Dw) [9,5,2,3,8,7,6] [true,true,false,true,true] [] (fun x=>d6 P F1 F2 (A2 x 9) aL fr aN aR aD aS po nf DL DN DR oN DI)
theorem WX{F1 F2:Obj}{aL fr aN aR aD aS:Nat}{po nf:Int}{DL DN DR oN DI:Data}{I O:Lp→Prop}(h:∀ nZ,(d6 w.2 F1 F2 nZ aL fr aN aR aD aS po nf DL DN DR oN DI).nP (wf w b b2) (A3 Dw) I O):(lD w.2 F1 F2 aL fr aN aR aD aS po nf DL DN DR oN DI).oB pw (wf w b b2) (A4 w.2) I O:=
 AF (w:=wf w b b2) (Sf:=fun q=>A3 Dw) (fun q=>h _) (fun q=>Ac (by intro h; cases h)) (by decide) (fun q=>⟨rfl,rfl,fun q=>rfl⟩) (fun q q=>rfl)
def Y1(P:Params)(names:List Value)(fr nZ aT aS aD aN aR:Nat)(po nf oL:Int)(DN DR oN DF:Data)(k:Nat):Spec:=
 ⟨Xw P nZ fr,[nZ,aT,fr,aS,aD,aN,aR],[Qj aT 0,AV (.seq ⟨names⟩ 0),jY P aS aT aN none,AJ aD,AK P aN (.ref aR) po nf,A7 DN,A0 DR],EK,fun q=>.fin (.done .next),fun q=>[Yy k,AV (.seq ⟨names⟩ 0),C3 DF,AJ aD,AK P aN (.ref aR) po oL,A7 DN,A0 oN],fun q=>[]⟩
def jd(P:Params)(nZ aL fr aN aJ aR aD aS:Nat)(aT aI i xJ lJ:Nat)(X Y:Str)(o:Option (Str×Nat))(nq po nf:Int)(DL DN DR oN:Data):Spec:=⟨Tv P nZ fr,[nZ,aL,fr,aN,aJ,aR,aD,aS],[AW aL i,A0 DL,Pe P aS aT aN X aI o,A7 DN,AG Y nq xJ lJ,A0 DR,AK P aN (.ref aR) po nf,AJ aD],Dw,fun A=>.fin (.again (Tv P nZ fr)),fun A=>[AW aL ((i:Int)+1),A0 DL,Pe P aS aT aN X aI (some (Y,aJ)),A7 DN,AG Y (nq-1) xJ lJ,A0 DR,AK P aN (.ref aR) po nf,AJ aD],fun A=>[]⟩
variable(w b b2)
theorem Tw(nZ aL fr aN aJ aR aD aS:Nat)(aT aI i xJ lJ:Nat)(X Y:Str)(o:Option (Str×Nat))(nq po nf:Int)(DL DN DR oN:Data)(N:List (Str×Value))(nn:Nat)(hN:DN=A8 w.2 N nn)(vs:List Value)(e:Nat)(hL:DL=.seq ⟨vs⟩ e)(hi:vs[i]?=some (.str Y 0))(hJ:BI N Y=some (.ref aJ))(hq:decide (nq-1=0)=false)(I:Lp→Prop):(jd w.2 nZ aL fr aN aJ aR aD aS aT aI i xJ lJ X Y o nq po nf DL DN DR oN).nP (wf w b b2) (A3 (Dw)) (I) (I):=by
 refine BZ (Cs.oo o (⟨#[]⟩,0)) (fun z D=>jd w.2 nZ aL fr aN aJ aR aD aS aT aI i xJ lJ X Y z nq po nf (gD D 0) (gD D 1) (gD D 2) oN) (fun z D l=>jd w.2 nZ aL fr aN aJ aR aD aS aT aI i xJ lJ X Y z nq po nf (gD D 0) (gD D 1) (gD D 2) oN) (fun z D=>(Af [Ao 0 1 i (gD D 0) (.str Y 0),HT 3 (gD D 1) Y (.ref aJ),WU (nq-1) 0 false])) 3 (fun z=>[]) [false,true,false,true,false,true,false,false] (hD 7 88 170323072839741141710476663897445645630691307067729787594146335553763621350) 0 [0,7] 0 [DL,DN,DR] (fun E0 ke=>?_)
 exact .q (AO hL hi) fun y y y=>.q (D9 (w:=wf w b b2) hN hJ) fun y y y=>.q (Kz hq) fun y y y=>.nh ke rfl
def ja(P:Params)(nZ aL fr aN aJ aR aD aS:Nat)(aT aI i xJ lJ:Nat)(X Y:Str)(o:Option (Str×Nat))(nq po nf:Int)(DL DN DR oN:Data):Spec:=⟨Tv P nZ fr,[nZ,aL,fr,aN,aJ,aR,aD,aS],[AW aL i,A0 DL,Pe P aS aT aN X aI o,A7 DN,AG Y nq xJ lJ,A0 DR,AK P aN (.ref aR) po nf,AJ aD],Dw,fun A=>.fin (.again (Tv P nZ fr)),fun A=>[AW aL ((i:Int)+1),A0 DL,Pe P aS aT aN X aI (some (Y,aJ)),A7 DN,AG Y (nq-1) xJ lJ,A0 oN,AK P aN (.ref aR) po nf,AJ aD],fun A=>[]⟩
theorem Tt(nZ aL fr aN aJ aR aD aS:Nat)(aT aI i xJ lJ:Nat)(X Y:Str)(o:Option (Str×Nat))(nq po nf:Int)(DL DN DR oN:Data)(N:List (Str×Value))(nn:Nat)(hN:DN=A8 w.2 N nn)(vs:List Value)(e:Nat)(hL:DL=.seq ⟨vs⟩ e)(hi:vs[i]?=some (.str Y 0))(hJ:BI N Y=some (.ref aJ))(hq:decide (nq-1=0)=true)(rs:List Value)(er:Nat)(hR:DR=.seq ⟨rs⟩ er)(rq:oN=.seq ⟨rs++[.str Y 0]⟩ (er+1))(rm:rs.length < 1000)(I:Lp→Prop):(ja w.2 nZ aL fr aN aJ aR aD aS aT aI i xJ lJ X Y o nq po nf DL DN DR oN).nP (wf w b b2) (A3 (Dw)) (I) (I):=by
 refine BZ (Cs.oo o (⟨#[]⟩,0)) (fun z D=>ja w.2 nZ aL fr aN aJ aR aD aS aT aI i xJ lJ X Y z nq po nf (gD D 0) (gD D 1) (gD D 2) oN) (fun z D l=>ja w.2 nZ aL fr aN aJ aR aD aS aT aI i xJ lJ X Y z nq po nf (gD D 0) (gD D 1) (gD D 2) (ud l 0 0)) (fun z D=>(Af [Ao 0 1 i (gD D 0) (.str Y 0),HT 3 (gD D 1) Y (.ref aJ),WU (nq-1) 0 true,CV 5 (gD D 2) oN (.str Y 0)])) 4 (fun z=>[]) [false,true,false,true,false,true,false,false] (hD 10 106 3666670880008000835050000050000000000050005350500000500000000505050005505000005000000000005000533344433331) 0 [0,7,1] 0 [DL,DN,DR] (fun E0 ke=>?_)
 exact .q (AO hL hi) fun y y y=>.q (D9 (w:=wf w b b2) hN hJ) fun y y y=>.q (Kz hq) fun y y y=>.cons (Ab hR rq (by have:=A5; lia)) fun u3 y g3=>.nh ke (@id (eD (u3.d 0)=oN) (g3.1.1) ▸ rfl)
def jc(P:Params)(nZ aL:Nat)(fr i:Nat)(DL oR:Data):Spec:=⟨Tv P nZ fr,[nZ,aL],[AW aL i,A0 DL],Dw,fun A=>.fin (.done .next),fun A=>[BW i,A0 oR],fun A=>[]⟩
theorem Tu(nZ aL:Nat)(fr i:Nat)(DL oR:Data)(vs:List Value)(e:Nat)(hL:DL=.seq ⟨vs⟩ e)(hi:vs.length≤i)(eL:oR=DL)(I:Lp→Prop):(jc w.2 nZ aL fr i DL oR).nP (wf w b b2) (A3 (Dw)) (I) (I):=by
 refine B8 (fun D=>jc w.2 nZ aL fr i (gD D 0) oR) (fun D l=>jc w.2 nZ aL fr i (gD D 0) (ud l 0 2)) (fun D=>(Af [Bh "list_iterator.__next__" 0 1 (.for_::Dw) (fun X=>AW (A2 X 1) i) (BW i) (A0 (gD D 0))])) 1 [] [false,true] [1,4] 0 [] 1 [DL] (fun E0 ke=>?_)
 exact .cons (BE (by decide) hL hi (by simp [gD]) (fun q=>rfl)) fun u0 q g0=>.nh ke (@id (eD (u0.d 2)=oR) (g0.1.1.trans eL.symm) ▸ rfl)
def jW(P:Params)(nZ aT fr aN aI aL aS aD aR:Nat)(i xI:Nat)(X:Str)(st:Option (Str×Nat×Option (Str×Nat)))(o:Option (Str×Nat))(po nf:Int)(DT DN oE DL oR DR oN DI:Data):Spec:=⟨Xw P nZ fr,[nZ,aT,fr,aN,aI,aL,aS,aD,aR],[Qj aT i,AV DT,jY P aS aT aN st,A7 DN,AG X (-1) xI aL,A0 DL,AJ aD,AK P aN (.ref aR) po nf,A0 DR],EK,fun A=>.fin (.again (Xw P nZ fr)),fun A=>[Qj aT ((i:Int)+1),AV DT,Pe P aS aT aN X aI o,A7 oE,AG X (-2) xI aL,A0 oR,AJ aD,AK P aN (.ref aR) po (nf+1),A0 oN],fun A=>[]⟩
theorem To(nZ aT fr aN aI aL aS aD aR:Nat)(i xI:Nat)(X:Str)(st:Option (Str×Nat×Option (Str×Nat)))(o:Option (Str×Nat))(po nf:Int)(DT DN oE DL oR DR oN DI:Data)(I O:Lp→Prop)(N:List (Str×Value))(nn:Nat)(hN:DN=A8 w.2 N nn)(ts:List Value)(et:Nat)(hT:DT=.seq ⟨ts⟩ et)(hi:ts[i]?=some (.str X 0))(hX:(BI N X).getD .none=.ref aI)(eN:oE=DN)(eL:oR=DL)(pq:∀ nZ,(d6 w.2 (Pe w.2 aS aT aN X aI (jZ st)) (Pe w.2 aS aT aN X aI o) nZ aL fr aN aR aD aS po nf DL DN DR oN DI).nP (wf w b b2) (A3 Dw) I O):(jW w.2 nZ aT fr aN aI aL aS aD aR i xI X st o po nf DT DN oE DL oR DR oN DI).nP (wf w b b2) (A3 (EK)) (I) (O):=by
 refine B8 (fun D=>jW w.2 nZ aT fr aN aI aL aS aD aR i xI X st o po nf (gD D 0) (gD D 1) oE (gD D 2) oR (gD D 3) oN DI) (fun D l=>jW w.2 nZ aT fr aN aI aL aS aD aR i xI X st o po nf (gD D 0) (gD D 1) (ud l 0 6) (gD D 2) (ud l 0 2) (gD D 3) (ud l 0 8) (ud l 0 0)) (fun D=>(Af [Kr 0 1 i (gD D 0) (.str X 0),ER 3 (gD D 1) X (.ref aI),lD w.2 (Pe w.2 aS aT aN X aI (jZ st)) (Pe w.2 aS aT aN X aI o) aL fr aN aR aD aS po nf (gD D 2) (gD D 1) (gD D 3) oN DI])) 3 [] [false,true,false,true,false,true,false,false,true] (hD 12 129 11908126799783562274848946898682090030465850188307365086732571032873718383708974296726027009071533517701352436750545751884495122010227657237) 0 [0,8] 0 [DT,DN,DL,DR] (fun E0 ke=>?_) (by rcases st with _ | ⟨_,_,_ | _⟩<;>cases o<;>kernel_rfl)
 exact .q (Jy hT hi) fun z z z=>.q (BF (w:=wf w b b2) hN hX) fun z z z=>.cons (WX pq) fun u2 z g2=>.nh ke (@id (eD (u2.d 0)=DI) (g2.1.1) ▸ @id (eD (u2.d 2)=oR) (g2.1.2.1.trans eL.symm) ▸ @id (eD (u2.d 6)=oE) (g2.1.2.2.1.trans eN.symm) ▸ @id (eD (u2.d 8)=oN) (g2.1.2.2.2.1) ▸ rfl)
def jX(P:Params)(nZ aT:Nat)(fr i:Nat)(DT rI:Data):Spec:=⟨Xw P nZ fr,[nZ,aT],[Qj aT i,AV DT],EK,fun A=>.fin (.done .next),fun A=>[Yy i,AV rI],fun A=>[]⟩
theorem Tp(nZ aT:Nat)(fr i:Nat)(DT rI:Data)(vs:List Value)(e:Nat)(hT:DT=.seq ⟨vs⟩ e)(hi:vs.length≤i)(t9:rI=DT)(I:Lp→Prop):(jX w.2 nZ aT fr i DT rI).nP (wf w b b2) (A3 (EK)) (I) (I):=by
 refine B8 (fun D=>jX w.2 nZ aT fr i (gD D 0) rI) (fun D l=>jX w.2 nZ aT fr i (gD D 0) (ud l 0 2)) (fun D=>(Af [Bh "tuple_iterator.__next__" 0 1 (.for_::EK) (fun X=>Qj (A2 X 1) i) (Yy i) (AV (gD D 0))])) 1 [] [false,true] [1,4] 0 [] 1 [DT] (fun E0 ke=>?_)
 exact .cons (M8 (by decide) hT hi (by simp [gD]) (fun q=>rfl)) fun u0 q g0=>.nh ke (@id (eD (u0.d 2)=rI) (g0.1.1.trans t9.symm) ▸ rfl)
noncomputable def dG(aS:Nat):Obj:={ cls:=.type "method",data:=.fields #[.ref 175,.ref aS] }
def lE(P:Params)(names:List Value)(fr it tu aS aD aN aR:Nat)(po nf oL:Int)(DN DR oN:Data)(k:Nat)(nums:List Nat):AA:=Nk (fun q=>EK) nums [false,false,true,false,false,true,true] [] (fun x=>Y1 P names (A2 x fr) (A2 x it) (A2 x tu) aS aD aN aR po nf oL DN DR oN .plain k) (fun x z=>Y1 P names (A2 x fr) (A2 x it) (A2 x tu) aS aD aN aR po nf oL DN DR oN z k) (fun q q=>True)
theorem WY{w:World}{b b2:Bool}{names:List Value}{fr it tu aS aD aN aR:Nat}{po nf oL:Int}{DN DR oN:Data}{k:Nat}{nums:List Nat}{I O:Lp→Prop}(h:∀ fr it tu,Spec.oC (fun z=>Y1 w.2 names fr it tu aS aD aN aR po nf oL DN DR oN z k) (fun q q=>True) (Y1 w.2 names fr it tu aS aD aN aR po nf oL DN DR oN .plain k) (wf w b b2) (A3 EK) I O)(nd:nums.Nodup)(hl:nums.length=7):(lE w.2 names fr it tu aS aD aN aR po nf oL DN DR oN k nums).oB pw (wf w b b2) (A4 w.2) I O:=
 Fg (w:=wf w b b2) (Sf:=fun q=>A3 EK) (fun q=>h _ _ _) (fun q q=>⟨rfl,rfl,rfl⟩) (fun q q q q q=>rfl) (fun q=>Ac (by intro h; cases h)) nd (fun q=>⟨hl.symm,hl.symm,fun q q=>hl.symm⟩) (fun q q=>rfl)
theorem Ov{α:Type}:∀ l:List α,l≠[]→l.length≤4→(∃ a,l=[a])∨(∃ a b,l=[a,b])∨(∃ a b c,l=[a,b,c])∨∃ a b c d,l=[a,b,c,d]
 | [],h,_=>absurd rfl h
 | [a],_,_=>.inl ⟨a,rfl⟩
 | [a,b],_,_=>.inr (.inl ⟨a,b,rfl⟩)
 | [a,b,c],_,_=>.inr (.inr (.inl ⟨a,b,c,rfl⟩))
 | [a,b,c,d],_,_=>.inr (.inr (.inr ⟨a,b,c,d,rfl⟩))
 | _::_::_::_::_::_,_,h=>by simp at h
def dc(P:Params)(pI aS aD aN aR:Nat)(nm:Nat→Str)(L:List Nat)(po nf oL:Int)(DN oE DR oN:Data):Spec:=⟨.call (.ref pI) ⟨(L.map fun c=>.str (nm c) 0),[]⟩,[pI,aS,aD,aN,aR],[dG aS,AJ aD,AK P aN (.ref aR) po nf,A7 DN,A0 DR],Cx,fun A=>.fin (.done (.ret .none)),fun A=>[dG aS,AJ aD,AK P aN (.ref aR) po oL,A7 oE,A0 oN],fun A=>[]⟩
theorem Y2(pI aS aD aN aR:Nat)(nm:Nat→Str)(L:List Nat)(po nf oL:Int)(DN oE DR oN:Data)(I O:Lp→Prop)(oQ:L≠[])(hl:L.length≤4)(eN:oE=DN)(pq:∀ fr it tu,Spec.oC (fun z=>Y1 w.2 (L.map fun c=>.str (nm c) 0) fr it tu aS aD aN aR po nf oL DN DR oN z L.length) (fun q q=>True) (Y1 w.2 (L.map fun c=>.str (nm c) 0) fr it tu aS aD aN aR po nf oL DN DR oN .plain L.length) (wf w b b2) (A3 EK) I O):(dc w.2 pI aS aD aN aR nm L po nf oL DN oE DR oN).nP (wf w b b2) (A3 (Cx)) (I) (O):=by
 refine B8 (fun D=>dc w.2 pI aS aD aN aR nm L po nf oL (gD D 0) oE (gD D 1) oN) (fun D l=>dc w.2 pI aS aD aN aR nm L po nf oL (gD D 0) (ud l 0 10) (gD D 1) (ud l 0 12)) (fun D=>(Af [lE w.2 (L.map fun c=>.str (nm c) 0) 6 7 5 aS aD aN aR po nf oL (gD D 0) (gD D 1) oN L.length [7,5,6,1,2,3,4]])) 1 [] [false,false,false,true,true] (hD 10 41 86667773022000200027302200020002707777001) 3 [] 20 [DN,DR] (fun E0 ke=>?_) (by rcases Ov L oQ hl with ⟨_,rfl⟩ | ⟨_,_,rfl⟩ | ⟨_,_,_,rfl⟩ | ⟨_,_,_,_,rfl⟩<;>kernel_rfl)
 exact .cons (WY pq (by decide) rfl) fun u0 q g0=>.nh ke (@id (eD (u0.d 10)=oE) ((let ⟨z,_,h⟩:=g0.1; h.2.1).trans eN.symm) ▸ @id (eD (u0.d 12)=oN) ((let ⟨z,_,h⟩:=g0.1; h.2.2.1)) ▸ rfl)
section
def bN(P:Params)(names:List Value)(pI aS aD aN aR:Nat)(po nf oL:Int):Spec:=
 ⟨.call (.ref pI) ⟨names,[]⟩,[pI,aS,aD],[dG aS,AJ aD,AK P aN (.ref aR) po nf],Cx,fun q=>.fin (.done (.ret .none)),fun q=>[dG aS,AJ aD,AK P aN (.ref aR) po oL],fun q=>[]⟩
def lC(P:Params)(names:List Value)(aN aR:Nat)(po nf oL:Int)(m1 m2 m3:Nat):AA:=B6 (fun q=>Cx) [m1,m2,m3] [] [] (fun x=>bN P names (A2 x m1) (A2 x m2) (A2 x m3) aN aR po nf oL)
variable{w b b2}
theorem WW{names:List Value}{aN aR m1 m2 m3:Nat}{po nf oL:Int}{I O:Lp→Prop}(h:∀ pI aS aD:Nat,(bN w.2 names pI aS aD aN aR po nf oL).nP (wf w b b2) (A3 Cx) I O)(nd:[m1,m2,m3].Nodup):(lC w.2 names aN aR po nf oL m1 m2 m3).oB pw (wf w b b2) (A4 w.2) I O:=
 AF (w:=wf w b b2) (Sf:=fun q=>A3 Cx) (fun q=>h _ _ _) (fun q=>Ac (by intro h; cases h)) nd (fun q=>⟨rfl,rfl,fun q=>rfl⟩) (fun q q=>rfl)
def b7(P:Params)(aS aD aN aR:Nat)(po oU nf:Int)(DG:Data):Spec:=
 ⟨.call (.ref 154) ⟨[.ref aS],[]⟩,[aS,aD],[AJ aD,AK P aN (.ref aR) po nf],Cx,fun A=>.fin (.done (.ret (.ref (A 0)))),fun q=>[AJ aD,AK P aN (.ref aR) oU nf],fun q=>[AV DG]⟩
def l9(P:Params)(aN aR:Nat)(po oU nf:Int)(DG:Data)(m2 m3:Nat):AA:=B6 (fun q=>Cx) [m2,m3] [] [true] (fun x=>b7 P (A2 x m2) (A2 x m3) aN aR po oU nf DG)
theorem WL{aN aR m2 m3:Nat}{po oU nf:Int}{DG:Data}{I O:Lp→Prop}(h:∀ aS aD:Nat,(b7 w.2 aS aD aN aR po oU nf DG).nP (wf w b b2) (A3 Cx) I O)(nd:[m2,m3].Nodup):(l9 w.2 aN aR po oU nf DG m2 m3).oB pw (wf w b b2) (A4 w.2) I O:=
 AF (w:=wf w b b2) (Sf:=fun q=>A3 Cx) (fun q=>h _ _) (fun q=>Ac (by intro h; cases h)) nd (fun q=>⟨rfl,rfl,fun q=>rfl⟩) (fun q q=>rfl)
def cg(P:Params):Option Str→List DictEntry
 | none=>[]
 | some X=>[kE P "name" (.str X 0)]
noncomputable def cf:Option Str→Nat
 | none=>8
 | some _=>9
def Jp(l:List U)(k:Nat):List Value:=(List.range (k+1)).map fun j=>.ref (un l (k-j) 0 0+bif j==0 then 1 else 0)
def wt(P:Params)(fr nY aG aS aD:Nat)(o:Option Str)(X Y:Str)(nm:Nat→Str)(L:List Nat)(wh:Bool)(T po oU nf oL:Int)(nQ nR aN aR:Nat)(ov qR DG:Data):Spec:=⟨Lz P fr,[fr,nY,aG,aS,aD],[I3 true (.dict ⟨Gx P nQ aS X Y wh nY T aG++cg P o⟩ (cf o)) nR,A0 ov,AV (.seq ⟨L.map fun c=>.str (nm c) 0⟩ 0),AJ aD,AK P aN (.ref aR) po nf],Ar,fun A=>.fin (.again (Lz P fr)),fun A=>[I3 true (.dict ⟨Gx P nQ aS X Y wh nY (T+1) (A 0)++[kE P "name" (.str (nm (L.getLastD 0)) 0)]⟩ 9) nR,A0 qR,AV (.seq ⟨L.map fun c=>.str (nm c) 0⟩ 0),AJ aD,AK P aN (.ref aR) oU oL],fun A=>AV DG::L.map fun c=>AV (.seq #[.str (nm c) 0,.int T 0] 0)⟩
noncomputable def kQ(rs:List Value)(er:Nat)(ov:Data)(k:Nat)(l:List U):AA:=CV 1 (bif k==0 then ov else ud l 0 0) (.seq ⟨rs++Jp l k⟩ (er+(k+1))) (.ref (un l 0 0 0+bif k==0 then 1 else 0))
noncomputable def Yp(P:Params)(nm:Nat→Str)(L:List Nat)(po oU nf oL:Int)(aN aR er:Nat)(rs:List Value)(ov DG:Data):List (List U→AA):=
 (fun q=>O5 2 (.seq ⟨L.map fun c=>.str (nm c) 0⟩ 0) L.length)::((List.range' 0 L.length).map (kQ rs er ov)++Af [GK (L.length+9) 2,lC P (L.map fun c=>.str (nm c) 0) aN aR po nf oL (L.length+8) 3 4,l9 P aN aR po oU oL DG 3 4])
theorem M0(u:U)(l:List U)(k:Nat):Jp (u::l) (k+1)=Jp l k++[.ref (un (u::l) 0 0 0+0)]:=by
 unfold Jp
 rw [List.range_succ,List.map_append]
 refine congr (congrArg _ (List.map_congr_left fun j m=>?_)) (by rw [List.map_singleton,Nat.sub_self]; rfl)
 rw [Nat.succ_sub (Nat.le_of_lt_succ (List.mem_range.mp m))]; rfl
theorem Bv.rows{E:List U→Lp→Prop}{w:World}{I:Lp→Prop}{fs:List (List U→AA)}{rs:List Value}{er:Nat}{ov:Data}(h:rs.length+10≤sizeLine):∀ (m k:Nat) (u:U) (l:List U),k+m≤5→ud (u::l) 0 0=.seq ⟨rs++Jp l k⟩ (er+(k+1))→(∀ u' l',ud (u'::l') 0 0=.seq ⟨rs++Jp l' (k+m)⟩ (er+(k+m+1))→Bv E pw w (A4 w.2) I fs (u'::l'))→Bv E pw w (A4 w.2) I ((List.range' (k+1) m).map (kQ rs er ov)++fs) (u::l)
 | 0,_,u,l,_,hR,K=>K u l hR
 | m+1,k,u,l,hk,hR,K=>.cons (Ab hR (by rw [M0,← List.append_assoc]; rfl) (by rw [List.length_append]; simp [Jp]; lia)) fun u' q g=>Bv.rows h m (k+1) u' (u::l) (by lia) g.1.1 fun u2 l2 h2=>K u2 l2 (by rw [show k+(m+1)=k+1+m by lia]; exact h2)
def dX(n:Nat):List Nat:=hD 8 15 29951873888832++(List.replicate n [1,1,1,2,2,2,2,1,1,6,6,6,6,3,6,6]).flatten++(n+8)::hD 7 25 682064316492716191952++List.replicate 5 (n+10)++(n+9)::hD 7 23 4531875430702305651
def kR(P:Params)(fr nY aG aS aD:Nat)(X Y:Str)(nm:Nat→Str)(L:List Nat)(o:Option Str)(wh:Bool)(T po oU nf oL:Int)(nQ nR aN aR:Nat)(DG:Data)(D:List Data)(l:List U):Spec:=wt P fr nY aG aS aD o X Y nm L wh T po oU nf oL nQ nR aN aR (gD D 0) (ud l 3 0) (ud l 0 1)
def dY(n:Nat)(_:List Data)(l:List U):List (Nat×Nat):=(List.range n).map fun i=>(i+1,un l (n-1-i+4) 0 0+bif i==0 then 1 else 0)
section
variable(w:World)(b2:Bool)(fr nY aG aS aD:Nat)(X Y:Str)(nm:Nat→Str)(wh:Bool)(T po oU nf oL:Int)(nQ nR aN aR er:Nat)(rs:List Value)(DG:Data)
noncomputable def kN(n:Nat)(L:List Nat)(o:Option Str):=V8 w b2 (fun D=>wt w.2 fr nY aG aS aD o X Y nm L wh T po oU nf oL nQ nR aN aR (gD D 0) .plain DG) (fun D=>Yp w.2 nm L po oU nf oL aN aR er rs (gD D 0) DG) (n+4) (dY n) ((n+10)::(List.range n).map (· + 6)) [false,true,false,false,false] (dX n) 0 (4::List.replicate (n-1) 1++[4,1]) 0
noncomputable def kP(n:Nat)(L:List Nat)(o:Option Str):=V7 w b2 (fun D=>wt w.2 fr nY aG aS aD o X Y nm L wh T po oU nf oL nQ nR aN aR (gD D 0) .plain DG) (kR w.2 fr nY aG aS aD X Y nm L o wh T po oU nf oL nQ nR aN aR DG) (fun D=>Yp w.2 nm L po oU nf oL aN aR er rs (gD D 0) DG) (n+4) (dY n) ((n+10)::(List.range n).map (· + 6)) [false,true,false,false,false] (dX n) 0 (4::List.replicate (n-1) 1++[4,1]) 0
theorem QD(L:List Nat)(o:Option Str)(h:L.length∈[1,2,3,4]):kN w b2 fr nY aG aS aD X Y nm wh T po oU nf oL nQ nR aN aR er rs DG L.length L o=kP w b2 fr nY aG aS aD X Y nm wh T po oU nf oL nQ nR aN aR er rs DG L.length L o:=by
 have k:∀ (f:Nat→Nat) (c:Str),([1,2,3,4].flatMap fun n=>[(n,none),(n,some c)]).map (fun z=>kN w b2 fr nY aG aS aD X Y nm wh T po oU nf oL nQ nR aN aR er rs DG z.1 ((List.range z.1).map f) z.2)=([1,2,3,4].flatMap fun n=>[(n,none),(n,some c)]).map fun z=>kP w b2 fr nY aG aS aD X Y nm wh T po oU nf oL nQ nR aN aR er rs DG z.1 ((List.range z.1).map f) z.2:=fun f c=>by kernel_rfl
 have k:=List.map_inj_left.mp (k (fun i=>L.getD i 0) (o.getD X)) (L.length,o) (List.mem_flatMap.mpr ⟨_,h,by cases o with | none=>exact .head _ | some c=>exact .tail _ (.head _)⟩)
 rwa [show (List.range (L.length,o).1).map (fun i=>L.getD i 0)=L from List.ext_getElem (by simp) fun i h1 h2=>by simp [h2]] at k
end
theorem Mr:∀ n∈[1,2,3,4],(((n+10)::(List.range n).map (· + 6)).all fun j=>Nat.ble 5 j)=true∧((n+10)::(List.range n).map (· + 6)).Nodup:=by decide
theorem VC(w:World)(b b2:Bool)(fr nY aG aS aD:Nat)(o:Option Str)(X Y:Str)(nm:Nat→Str)(L:List Nat)(wh:Bool)(T po oU nf oL:Int)(nQ nR aN aR er:Nat)(rs:List Value)(ov DG:Data)(I J O:Lp→Prop)(oQ:L≠[])(hl:L.length≤4)(hR:ov=.seq ⟨rs⟩ er)(rm:rs.length < 1000)(su:∀ pI aS aD:Nat,(bN w.2 (L.map fun c=>.str (nm c) 0) pI aS aD aN aR po nf oL).nP (wf w b b2) (A3 Cx) I J)(so:∀ aS aD:Nat,(b7 w.2 aS aD aN aR po oU oL DG).nP (wf w b b2) (A3 Cx) J O):Spec.oC (fun (qR:Data)=>wt w.2 fr nY aG aS aD o X Y nm L wh T po oU nf oL nQ nR aN aR ov qR DG) (fun (qR:Data) A=>qR=.seq ⟨rs++(List.range L.length).map fun i=>.ref (A (i+1))⟩ (er+L.length)) (wt w.2 fr nY aG aS aD o X Y nm L wh T po oU nf oL nQ nR aN aR ov .plain DG) (wf w b b2) (A3 Ar) I O:=by
 have lc:L.length∈[1,2,3,4]:=by rcases Ov L oQ hl with ⟨_,rfl⟩ | ⟨_,_,rfl⟩ | ⟨_,_,_,rfl⟩ | ⟨_,_,_,_,rfl⟩<;>simp
 refine Hz (fun D=>wt w.2 fr nY aG aS aD o X Y nm L wh T po oU nf oL nQ nR aN aR (gD D 0) .plain DG) (kR w.2 fr nY aG aS aD X Y nm L o wh T po oU nf oL nQ nR aN aR DG) (fun D=>Yp w.2 nm L po oU nf oL aN aR er rs (gD D 0) DG) (L.length+4) (dY L.length) ((L.length+10)::(List.range L.length).map (· + 6)) [false,true,false,false,false] (dX L.length) 0 (4::List.replicate (L.length-1) 1++[4,1]) 0 [ov] (fun E0 ke=>?_) (QD w b2 fr nY aG aS aD X Y nm wh T po oU nf oL nQ nR aN aR er rs DG L o lc) rfl rfl (by unfold Yp; rw [List.length_cons,List.length_append,List.length_map,List.length_range']; rfl) (fun z=>rfl) rfl (fun z z=>rfl) (Mr _ lc).1 (Mr _ lc).2
 have hs:rs.length+10≤sizeLine:=by have:=A5; lia
 obtain ⟨m,hm⟩:∃ m,L.length=m+1:=⟨L.length-1,by have:=List.length_pos_iff.mpr oQ; lia⟩
 unfold Yp
 rw [hm]
 refine .q (J2 (w:=wf w b b2) rfl (by rw [List.length_map,hm]) (by rw [List.length_map]; lia)) fun u0 z z=>.cons (Ab hR rfl (by lia)) fun u1 z g1=>Bv.rows hs m 0 u1 [u0] (by lia) g1.1.1 fun u2 l hR=>.note (ES (by lia)) fun z z z=>.cons (WW su (by simp)) fun z z z=>.cons (WL so (by decide)) fun u5 z g5=>?_
 obtain rfl:eD (u5.d 1)=DG:=g5.2.1
 refine .nil fun P hP=>ke _ _ ⟨_,rfl,hP,fun A a=>hR.trans ?_⟩
 rw [hm] at a ⊢
 rw [Nat.zero_add]
 exact congrArg (fun x=>Data.seq ⟨rs++x⟩ _) (List.map_congr_left fun i mi=>congrArg Value.ref (a _ (List.mem_map_of_mem (f:=fun i=>(i+1,un _ (m+1-1-i+4) 0 0+bif i==0 then 1 else 0)) mi)).symm)
end
section
noncomputable def D7(l:List Nat)(G:GS):GS:={ G with np:=fun c=>if c∈l then -1 else G.np c }
def lR(P:Params)(nm:Nat→Str)(G:GS)(A:GA)(R:Lp)(aS aD aN aR:Nat)(po nf:Int)(DR:Data):Lp:=
 [(aS,AJ aD),(aD,AK P aN (.ref aR) po nf),(aN,A7 (A8 P (AY nm A G.ord) G.ord.length)),(aR,A0 DR)]++(G.ord.flatMap (B9 nm G A)++R)
noncomputable def Ja(l:List Nat)(e:Nat):Nat:=if l=[] then e else e+1
def KD(P:Params)(t:Bool)(nm:Nat→Str)(A:GA)(np:Nat→Int)(aS aD aN aR:Nat)(l:List Nat)(po nf:Int)(e:Nat)(DN:Data):Spec:=
 ⟨.call (.ref 154) ⟨[.ref aS],[]⟩,[aS,aD,aN,aR]++l.map A.aI,[AJ aD,AK P aN (.ref aR) po nf,A7 DN,A0 (.seq ⟨AL nm l⟩ e)]++l.map (fun c=>AG (nm c) (np c) (A.aX c) (A.aL c)),bif t then Cx else VY,fun A1=>.fin (.done (.ret (.ref (A1 0)))),fun q=>[AJ aD,AK P aN (.ref aR) (po+(l.length:Nat)) nf,A7 DN,A0 (.seq #[] (Ja l e))]++l.map (fun c=>AG (nm c) (-1) (A.aX c) (A.aL c)),fun q=>[AV (.seq ⟨AL nm l⟩ 0)]⟩
noncomputable def b0(k:Nat):List Nat:=[k,1,0,0,0,1,0,0,0,1,1,0,2]
def ct(g:Nat):List Nat:=
 let k:=g+5
 [0,0,k,k,0]++b0 k++[0,0]++b0 k++[4,1000000,4,4,k+1,k+1,k+1,k+1,k+1,k+2,k+2,k+2,k+2,k,k]++b0 k++[k,k,k,k+2,k+2,k+2,k+3,k+3,k+3,k+3,k+3,k+2,k+3,k+3]++
  (List.range g).flatMap (fun i=>[k,k,0,k,k,3,3,3,i+5,0,0,0,i+5,0,i+5,0,i+5,0,0,0,0,0,0,0,0,i+5,0,0,0,0,0,i+5,0,i+5,k+3,k+3,k+3,k+3,k+2,k+3,k+3])++[k+5]++b0 k++[4,4,4,4,4,4,4,4,4]++b0 k++[0,0,k,k+2,k+2,k+2,1,0,0,0,1,0,1,0,1,0,0,0,1,0,2,2,2,k]
noncomputable def Yk(nm:Nat→Str)(A:GA)(l:List Nat)(D:Data):List (List U→AA):=Af (GK (l.length+5) 3::l.map fun c=>HT 2 D (nm c) (.ref (A.aI c)))
theorem TK(w:World)(b2:Bool)(nm:Nat→Str)(A:GA)(np:Nat→Int)(aS aD aN aR:Nat)(po nf:Int)(e:Nat)(l:List Nat)(x t:Bool)(h:l.length≤4):Mq w x b2 (fun D=>KD w.2 t nm A np aS aD aN aR l po nf e (gD D 0)) (fun D=>Yk nm A l (gD D 0)) (l.length+1) (fun q q=>[]) [l.length+6] [false,false,true] (ct l.length) (bif l.isEmpty then 1000000 else 10) (List.replicate (l.length-1) 3) 1=Mp w x b2 (fun D=>KD w.2 t nm A np aS aD aN aR l po nf e (gD D 0)) (fun D q=>KD w.2 t nm A np aS aD aN aR l po nf e (gD D 0)) (fun D=>Yk nm A l (gD D 0)) (l.length+1) (fun q q=>[]) [l.length+6] [false,false,true] (ct l.length) (bif l.isEmpty then 1000000 else 10) (List.replicate (l.length-1) 3) 1:=
 IW (List.range 5) ((Cs.bb x).pp (Cs.bb t)) (F:=fun l z=>Mq w z.1 b2 (fun D=>KD w.2 z.2 nm A np aS aD aN aR l po nf e (gD D 0)) (fun D=>Yk nm A l (gD D 0)) (l.length+1) (fun q q=>[]) [l.length+6] [false,false,true] (ct l.length) (bif l.isEmpty then 1000000 else 10) (List.replicate (l.length-1) 3) 1) (G:=fun l z=>Mp w z.1 b2 (fun D=>KD w.2 z.2 nm A np aS aD aN aR l po nf e (gD D 0)) (fun D q=>KD w.2 z.2 nm A np aS aD aN aR l po nf e (gD D 0)) (fun D=>Yk nm A l (gD D 0)) (l.length+1) (fun q q=>[]) [l.length+6] [false,false,true] (ct l.length) (bif l.isEmpty then 1000000 else 10) (List.replicate (l.length-1) 3) 1) (fun f=>by kernel_rfl) (List.mem_range.mpr (Nat.lt_succ_of_le h))
theorem TL(w:World)(b b2 t:Bool)(nm:Nat→Str)(A:GA)(np:Nat→Int)(aS aD aN aR:Nat)(po nf:Int)(e:Nat)(l:List Nat)(hl:l.length≤4)(DN:Data)(N:List (Str×Value))(nn:Nat)(hN:DN=A8 w.2 N nn)(h:∀ c∈l,BI N (nm c)=some (.ref (A.aI c)))(I:Lp→Prop):(KD w.2 t nm A np aS aD aN aR l po nf e DN).nP (wf w b b2) (A3 (bif t then Cx else VY)) I I:=
 (NP (fun _:Unit=>KD w.2 t nm A np aS aD aN aR l po nf e DN) (fun q q=>True) (fun D=>KD w.2 t nm A np aS aD aN aR l po nf e (gD D 0)) (fun D q=>KD w.2 t nm A np aS aD aN aR l po nf e (gD D 0)) (fun D=>Yk nm A l (gD D 0)) (l.length+1) (fun q q=>[]) [l.length+6] [false,false,true] _ _ _ 1 [DN]
  (fun q he=>.note (ES (by lia)) fun q q q=>.all (fun o m=>by obtain ⟨c,hc,rfl⟩:=List.mem_map.mp m; exact D9 (w:=wf w b b2) hN (h c hc)) (fun q=>.nh he rfl) _)
  (TK w b2 nm A np aS aD aN aR po nf e l b t hl) rfl rfl (by simp [Yk,Af]) (fun q=>rfl) (by simp [KD]) (fun q q=>by simp [KD]) (by simp [KD]) (by simp)).pp
theorem Ng{α:Type}[DecidableEq α](f g:Nat→α)(h:Nat→List α)(hh:∀ c,h c=[f c,g c]):∀ l:List Nat,(l.flatMap h).Perm (l.map f++l.map g)
 | []=>.refl _
 | c::l=>by
  have ih:=Ng f g h hh l
  rw [List.perm_iff_count] at ih ⊢; intro z
  have ih:=ih z
  simp only [List.flatMap_cons,List.map_cons,hh,List.count_cons,List.count_append,List.count_nil] at ih ⊢; lia
theorem Ue{α:Type}{a F T R i s:List α}(h:F.Perm ((i++s)++T)):(a++(F++R)).Perm ((a++i)++(s++(T++R))):=
 Df [a,F,R,i,s,T] (.r [0,1] (.l 2)) (.a (.r [0] (.l 3)) (.r [4,5] (.l 2))) (.l 1) (.a (.r [3] (.l 4)) (.l 5)) h rfl
section
variable{w:World}{b b2:Bool}{nm:Nat→Str}{G:GS}(inj:∀ a b,nm a=nm b→a=b)(A:GA)(R:Lp)(no:G.ord.Nodup)
include inj no
theorem PI(t:Bool)(aS aD aN aR:Nat)(po nf:Int)(l:List Nat)(e:Nat)(nd:l.Nodup)(ho:∀ c∈l,c∈G.ord)(hl:l.length≤4) :
  Aj (wf w b b2) (A3 (bif t then Cx else VY)) (.call (.ref 154) ⟨[.ref aS],[]⟩) (fun L=>L.Perm (lR w.2 nm G A R aS aD aN aR po nf (.seq ⟨AL nm l⟩ e)))
   (fun e' Lk Ln=>∃ A1:Nat→Nat,e'=.fin (.done (.ret (.ref (A1 0))))∧Lk.Perm (lR w.2 nm (D7 l G) A R aS aD aN aR (po+l.length) nf (.seq #[] (Ja l e)))∧Ln=[(A1 0,AV (.seq ⟨AL nm l⟩ 0))]):=by
 classical
 obtain ⟨T,p1,p2⟩:=bA (f:=B9 nm G A) (g:=B9 nm (D7 l G) A) no nd ho (fun d q hd=>by unfold B9 D7; simp only [if_neg hd])
 have q1:=Ng (fun c=>(A.aI c,AG (nm c) (G.np c) (A.aX c) (A.aL c))) (fun c=>(A.aL c,A0 (ED nm G c))) (B9 nm G A) (fun q=>rfl) l
 have q2:(l.flatMap (B9 nm (D7 l G) A)).Perm (l.map (fun c=>(A.aI c,AG (nm c) (-1) (A.aX c) (A.aL c)))++l.map (fun c=>(A.aL c,A0 (ED nm G c)))):=by
  rw [C9 (g:=B9 nm (D7 l G) A) (f:=fun c=>[(A.aI c,AG (nm c) (-1) (A.aX c) (A.aL c)),(A.aL c,A0 (ED nm G c))]) (fun c hc=>by unfold B9 D7; simp only [if_pos hc]; rfl)]
  exact Ng _ _ _ (fun q=>rfl) l
 have z1:∀ (f:Nat→Obj),(l.map A.aI).zip (l.map f)=l.map fun c=>(A.aI c,f c):=fun f=>by rw [List.zip_map']
 refine (Spec.nX.n (Spec.nP.d (TL w b b2 t nm A G.np aS aD aN aR po nf e l hl (A8 w.2 (AY nm A G.ord) G.ord.length) (AY nm A G.ord) G.ord.length rfl (fun c m=>by rw [Au inj,if_pos (ho c m)]) (fun L=>L=l.map (fun c=>(A.aL c,A0 (ED nm G c)))++(T++R)))) (by simp [KD]) (fun q=>rfl) (fun q q=>by simp [KD])).nV ?_ ?_
 ·intro L p
  refine ⟨_,p.trans ((Ue (p1.trans (q1.append_right _))).trans (.of_eq ?_)),_,rfl,rfl⟩
  show _=([(aS,_),(aD,_),(aN,_),(aR,_)]++(l.map A.aI).zip (l.map _))++_
  rw [z1]
 ·rintro e' Lk Ln ⟨_,A1,P',rfl,rfl,rfl,rfl⟩
  refine ⟨_,.refl _,A1,rfl,.trans (.of_eq ?_) (Ue (p2.trans (q2.append_right _))).symm,rfl⟩
  show ([(aS,_),(aD,_),(aN,_),(aR,_)]++(l.map A.aI).zip (l.map _))++_=_
  rw [z1]; rfl
theorem XY(aS aD aN aR:Nat){l:List Nat}(e:Nat)(nd:l.Nodup)(ho:∀ c∈l,c∈G.ord)(hl:l.length≤4)(D:Data) :
  (Yj w.2 aS aD aN aR l.length D (.seq ⟨AL nm l⟩ e) (.seq #[] (Ja l e)) (.seq ⟨AL nm l⟩ 0)).nP (wf w b b2) (A3 Ar) (QG w.2 nm G D) (QG w.2 nm (D7 l G) D):=by
 intro P hQ
 obtain ⟨A,R,rfl,pm⟩:=hQ
 have h:=PI (w:=w) (b:=b) (b2:=b2) inj A R no false aS aD aN aR 0 0 l e nd ho hl
 refine (Spec.nX.p (S:=Yj w.2 aS aD aN aR l.length _ (.seq ⟨AL nm l⟩ e) (.seq #[] (Ja l e)) (.seq ⟨AL nm l⟩ 0)) (O:=QG w.2 nm (D7 l G) (A8 w.2 (AY nm A G.ord) G.ord.length)) (Aj.toD (I:=fun L=>L=P) h ?_ ?_)) P rfl
 ·rintro P' rfl
  exact ⟨_,List.Perm.append_left _ pm,.refl _⟩
 ·rintro e' Lk Ln ⟨A1,rfl,pm2,rfl⟩
  refine ⟨(),A1,(D7 l G).ord.flatMap (B9 nm (D7 l G) A)++R,⟨A,R,rfl,.refl _⟩,rfl,?_,rfl⟩
  rw [show (0:Int)+(l.length:Int)=(l.length:Int) by lia] at pm2
  exact pm2
def RG(P:Params)(nm:Nat→Str)(aN aR:Nat)(A:GA)(G:GS)(l:List Nat)(e:Nat)(L:Lp):Prop:=
 ∃ R,L.Perm ([(aN,A7 (A8 P (AY nm A G.ord) G.ord.length)),(aR,A0 (.seq ⟨AL nm l⟩ e))]++(G.ord.flatMap (B9 nm G A)++R))
theorem XZ(aS aD aN aR:Nat)(po nf:Int){l:List Nat}(e:Nat)(nd:l.Nodup)(ho:∀ c∈l,c∈G.ord)(hl:l.length≤4) :
  (b7 w.2 aS aD aN aR po (po+l.length) nf (.seq ⟨AL nm l⟩ 0)).nP (wf w b b2) (A3 Cx) (RG w.2 nm aN aR A G l e) (RG w.2 nm aN aR A (D7 l G) [] (Ja l e)):=by
 intro P hQ
 obtain ⟨R,pm⟩:=hQ
 have h:=PI (w:=w) (b:=b) (b2:=b2) inj A R no true aS aD aN aR po nf l e nd ho hl
 refine (Spec.nX.p (S:=b7 w.2 aS aD aN aR po (po+l.length) nf (.seq ⟨AL nm l⟩ 0)) (O:=RG w.2 nm aN aR A (D7 l G) [] (Ja l e)) (Aj.toD (I:=fun L=>L=P) h ?_ ?_)) P rfl
 ·rintro P' rfl
  exact ⟨_,List.Perm.append_left _ pm,.refl _⟩
 ·rintro e' Lk Ln ⟨A1,rfl,pm2,rfl⟩
  exact ⟨(),A1,[(aN,A7 (A8 w.2 (AY nm A G.ord) G.ord.length)),(aR,A0 (.seq #[] (Ja l e)))]++((D7 l G).ord.flatMap (B9 nm (D7 l G) A)++R),⟨R,.refl _⟩,rfl,pm2,rfl⟩
end
end
section
def JE(nm:Nat→Str)(A:GA)(f:Nat→Int)(l:List Nat):Lp:=l.map fun c=>(A.aI c,AG (nm c) (f c) (A.aX c) (A.aL c))
theorem GO{α β:Type}{f g:α→β}:∀ {l:List α},(∀ c∈l,f c=g c)→l.map f=l.map g
 | [],_=>rfl
 | a::l,h=>by rw [List.map_cons,List.map_cons,h a (.head _),GO fun c m=>h c (.tail _ m)]
theorem Hg{nm:Nat→Str}{A:GA}{f g:Nat→Int}{l:List Nat}(h:∀ c∈l,f c=g c):JE nm A f l=JE nm A g l:=
 GO fun c m=>by rw [h c m]
theorem PD(nm:Nat→Str)(A:GA)(f:Nat→Int){l:List Nat}{y:Nat}(h:y∈l)(nd:l.Nodup)(v:Int):∃ T,(JE nm A f l).Perm ((A.aI y,AG (nm y) (f y) (A.aX y) (A.aL y))::T)∧(JE nm A (upd f y v) l).Perm ((A.aI y,AG (nm y) v (A.aX y) (A.aL y))::T):=by
 refine ⟨JE nm A f (l.erase y),BN _ h,?_⟩
 have p:=BN (fun c=>(A.aI c,AG (nm c) (upd f y v c) (A.aX c) (A.aL c))) h
 rw [show upd f y v y=v from Ak f y v] at p
 have e:JE nm A (upd f y v) (l.erase y)=JE nm A f (l.erase y):=Hg fun c m=>AB f v fun e=>by subst e; exact List.Nodup.not_mem_erase nd m
 rw [← e]; exact p
def Fb:List Nat→(Nat→Int)→List Nat→Nat→(Nat→Int)×List Nat×Nat
 | [],f,q,e=>(f,q,e)
 | y::l,f,q,e=>if f y-1=0 then Fb l (upd f y (f y-1)) (q++[y]) (e+1) else Fb l (upd f y (f y-1)) q e
theorem Pg(y:Nat)(l:List Nat)(f:Nat→Int)(q:List Nat)(e:Nat):Fb (y::l) f q e=if f y-1=0 then Fb l (upd f y (f y-1)) (q++[y]) (e+1) else Fb l (upd f y (f y-1)) q e:=rfl
theorem Ez{X:Nat}:∀ {l:List Nat} {f:Nat→Int} {q:List Nat} {e:Nat},X∉l→(Fb l f q e).1 X=f X
 | [],_,_,_,_=>rfl
 | y::l,f,q,e,h=>by
  have hn:X≠y:=fun e=>h (by subst e; exact .head _)
  have hl:X∉l:=fun m=>h (.tail _ m)
  rw [Pg]
  split
  ·rw [Ez hl,AB _ _ hn]
  ·rw [Ez hl,AB _ _ hn]
theorem IS:∀ {l:List Nat} {f:Nat→Int} {q:List Nat} {e:Nat},(Fb l f q e).2.1.length≤q.length+l.length
 | [],_,_,_=>Nat.le_refl _
 | y::l,f,q,e=>by
  rw [Pg]
  split
  ·have:=IS (l:=l) (f:=upd f y (f y-1)) (q:=q++[y]) (e:=e+1)
   rw [List.length_append,Nat.add_assoc] at this
   rw [List.length_cons,Nat.add_comm l.length]; exact this
  ·exact Nat.le_trans IS (Nat.add_le_add_left (Nat.le_succ _) _)
noncomputable def GU(l:List Nat)(y:Option Nat):Option Nat:=l.foldl (fun q y=>some y) y
noncomputable def oY(nm:Nat→Str)(A:GA)(y:Option Nat):Option (Str×Nat):=y.map fun y=>(nm y,A.aI y)
def bF(P:Params)(nm:Nat→Str)(A:GA)(aS aT aN X:Nat)(y:Option Nat):Obj:=Pe P aS aT aN (nm X) (A.aI X) (oY nm A y)
def d7(P:Params)(nm:Nat→Str)(G:GS)(A:GA)(R:Lp)(aS aT aN aR aD fr nZ:Nat)(po nf:Int)(X:Nat)(It:Obj)(y0:Option Nat)(f:Nat→Int)(q:List Nat)(e:Nat):Lp:=
 [(nZ,It),(A.aL X,A0 (ED nm G X)),(fr,bF P nm A aS aT aN X y0),(aN,A7 (A8 P (AY nm A G.ord) G.ord.length)),(aR,A0 (.seq ⟨AL nm q⟩ e)),(aD,AK P aN (.ref aR) po nf),(aS,AJ aD)]++(JE nm A f (G.ord.erase X)++R)
theorem RQ{α:Type}(i l f n r d s j:α)(T R:List α){F:List α}(h:F.Perm (j::T)):([i,l,f,n,r,d,s]++(F++R)).Perm ([i,l,f,n,j,r,d,s]++(T++R)):=
 Df [[i],[l],[f],[n],[r],[d],[s],F,R,[j],T] (.a (.q [0,1,2,3,4,5,6]) (.r [7] (.l 8))) (.a (.q [0,1,2,3,9,4,5,6]) (.r [10] (.l 8))) (.l 7) (.r [9] (.l 10)) h rfl
section
variable{w:World}{b b2:Bool}{nm:Nat→Str}{G:GS}(inj:∀ a b,nm a=nm b→a=b)(A:GA)(R:Lp)(no:G.ord.Nodup)(aS aT aN aR aD fr:Nat)(po nf:Int)
include inj no
theorem Tr(nZ X:Nat){i y:Nat}(hi:(G.sc X)[i]?=some y)(hy:y∈G.ord)(se:y≠X)(y0:Option Nat)(f:Nat→Int)(q:List Nat)(e:Nat)(hq:q.length < 1000) :
  A9 (wf w b b2) (A3 Dw) (Tv w.2 nZ fr) (fun L=>L.Perm (d7 w.2 nm G A R aS aT aN aR aD fr nZ po nf X (AW (A.aL X) i) y0 f q e))
   (fun e' L=>e'=.fin (.again (Tv w.2 nZ fr))∧L.Perm (d7 w.2 nm G A R aS aT aN aR aD fr nZ po nf X (AW (A.aL X) ((i:Int)+1)) (some y) (upd f y (f y-1)) (if f y-1=0 then q++[y] else q) (if f y-1=0 then e+1 else e))):=by
 have hm:y∈G.ord.erase X:=(List.mem_erase_of_ne se).mpr hy
 obtain ⟨T,p1,p2⟩:=PD nm A f hm (no.erase X) (f y-1)
 have hv:((G.sc X).map fun d=>Value.str (nm d) 0)[i]?=some (.str (nm y) 0):=by rw [List.getElem?_map,hi]; rfl
 have lk:BI (AY nm A G.ord) (nm y)=some (.ref (A.aI y)):=by rw [Au inj,if_pos hy]
 by_cases hz:f y-1=0
 ·rw [if_pos hz,if_pos hz]
  have e2:(Data.seq ⟨AL nm (q++[y])⟩ (e+1))=.seq ⟨AL nm q++[.str (nm y) 0]⟩ (e+1):=by unfold AL; simp
  exact Spec.nP.kp (Tt w b b2 nZ (A.aL X) fr aN (A.aI y) aR aD aS aT (A.aI X) i (A.aX y) (A.aL y) (nm X) (nm y) (oY nm A y0) (f y) po nf (ED nm G X) _ (.seq ⟨AL nm q⟩ e) (.seq ⟨AL nm (q++[y])⟩ (e+1)) (AY nm A G.ord) G.ord.length rfl _ _ rfl hv lk (decide_eq_true hz) _ _ rfl e2 (by simp [AL]; lia) (fun L=>L=T++R)) (fun z p=>p.trans (RQ _ _ _ _ _ _ _ _ _ _ p1)) fun A1=>⟨_,.refl _,rfl,(RQ _ _ _ _ _ _ _ _ _ _ p2).symm⟩
 ·rw [if_neg hz,if_neg hz]
  exact Spec.nP.kp (Tw w b b2 nZ (A.aL X) fr aN (A.aI y) aR aD aS aT (A.aI X) i (A.aX y) (A.aL y) (nm X) (nm y) (oY nm A y0) (f y) po nf (ED nm G X) _ (.seq ⟨AL nm q⟩ e) .plain (AY nm A G.ord) G.ord.length rfl _ _ rfl hv lk (decide_eq_false hz) (fun L=>L=T++R)) (fun z p=>p.trans (RQ _ _ _ _ _ _ _ _ _ _ p1)) fun A1=>⟨_,.refl _,rfl,(RQ _ _ _ _ _ _ _ _ _ _ p2).symm⟩
theorem Ts(nZ X:Nat)(hX:X∉G.sc X)(hc:∀ d∈G.sc X,d∈G.ord):∀ (n i:Nat) (y0:Option Nat) (f:Nat→Int) (q:List Nat) (e:Nat),i+n=(G.sc X).length→q.length+n < 1000→
  A9 (wf w b b2) (A3 Dw) (Tv w.2 nZ fr) (fun L=>L.Perm (d7 w.2 nm G A R aS aT aN aR aD fr nZ po nf X (AW (A.aL X) i) y0 f q e))
   (fun e' L=>e'=.fin (.done .next)∧L.Perm (d7 w.2 nm G A R aS aT aN aR aD fr nZ po nf X (BW ((G.sc X).length:Nat)) (GU ((G.sc X).drop i) y0) (Fb ((G.sc X).drop i) f q e).1 (Fb ((G.sc X).drop i) f q e).2.1 (Fb ((G.sc X).drop i) f q e).2.2)):=by
 intro n
 induction n with
 | zero=>
  intro i y0 f q e hi hq
  have hi:i=(G.sc X).length:=by lia
  subst hi
  rw [List.drop_length]
  exact Spec.nP.kp (Tu w b b2 nZ (A.aL X) fr (G.sc X).length (ED nm G X) (ED nm G X) _ _ rfl (by simp) rfl (fun L=>L=[(fr,bF w.2 nm A aS aT aN X y0),(aN,A7 (A8 w.2 (AY nm A G.ord) G.ord.length)),(aR,A0 (.seq ⟨AL nm q⟩ e)),(aD,AK w.2 aN (.ref aR) po nf),(aS,AJ aD)]++(JE nm A f (G.ord.erase X)++R))) (fun y p=>p) fun A1=>⟨_,.refl _,rfl,.refl _⟩
 | succ n ih=>
  intro i y0 f q e hi hq
  have oX:i < (G.sc X).length:=Cc hi
  have hp:(G.sc X)[i]?=some (G.sc X)[i]:=List.getElem?_eq_getElem oX
  have hd:(G.sc X).drop i=(G.sc X)[i]::(G.sc X).drop (i+1):=List.drop_eq_getElem_cons oX
  have hmem:(G.sc X)[i]∈G.sc X:=List.getElem_mem oX
  have hs:=Tr (w:=w) (b:=b) (b2:=b2) inj A R no aS aT aN aR aD fr po nf nZ X hp (hc _ hmem) (fun e=>hX (Eq.subst (motive:=fun z=>z∈G.sc X) e hmem)) y0 f q e (by lia)
  have hq2:(if f (G.sc X)[i]-1=0 then q++[(G.sc X)[i]] else q).length+n < 1000:=by
   split
   ·rw [List.length_append,List.length_singleton]; lia
   ·lia
  have hI:=ih (i+1) (some (G.sc X)[i]) (upd f (G.sc X)[i] (f (G.sc X)[i]-1)) (if f (G.sc X)[i]-1=0 then q++[(G.sc X)[i]] else q) (if f (G.sc X)[i]-1=0 then e+1 else e) (Hp hi) hq2
  have eD:Fb ((G.sc X).drop i) f q e=Fb ((G.sc X).drop (i+1)) (upd f (G.sc X)[i] (f (G.sc X)[i]-1)) (if f (G.sc X)[i]-1=0 then q++[(G.sc X)[i]] else q) (if f (G.sc X)[i]-1=0 then e+1 else e):=by
   rw [hd]
   rw [Pg]
   split<;>rfl
  have eL:GU ((G.sc X).drop i) y0=GU ((G.sc X).drop (i+1)) (some (G.sc X)[i]):=by rw [hd]; rfl
  rw [eD,eL]
  exact A9.go AI (by kernel_rfl) hs (hI)
theorem Xx(X:Nat)(hX:X∉G.sc X)(hc:∀ d∈G.sc X,d∈G.ord)(y0:Option Nat)(f:Nat→Int)(q:List Nat)(e:Nat)(hq:q.length+(G.sc X).length < 1000)(nZ:Nat) :
  (d6 w.2 (bF w.2 nm A aS aT aN X y0) (bF w.2 nm A aS aT aN X (GU (G.sc X) y0)) nZ (A.aL X) fr aN aR aD aS po nf (ED nm G X) (A8 w.2 (AY nm A G.ord) G.ord.length) (.seq ⟨AL nm q⟩ e) (.seq ⟨AL nm (Fb (G.sc X) f q e).2.1⟩ (Fb (G.sc X) f q e).2.2) (BW ((G.sc X).length:Nat)).data).nP (wf w b b2) (A3 Dw)
   (fun L=>L.Perm (JE nm A f (G.ord.erase X)++R)) (fun L=>L.Perm (JE nm A (Fb (G.sc X) f q e).1 (G.ord.erase X)++R)):=by
 have h:=Ts (w:=w) (b:=b) (b2:=b2) inj A R no aS aT aN aR aD fr po nf nZ X hX hc (G.sc X).length 0 y0 f q e (by lia) hq
 rw [List.drop_zero] at h
 refine A9.qG h ?_ ?_
 ·intro L p
  exact ⟨_,List.Perm.append_left _ p,.refl _⟩
 ·rintro e' L ⟨rfl,p⟩
  exact ⟨fun z=>0,_,.refl _,rfl,p⟩
end
end
section
def bG(P:Params)(nm:Nat→Str)(A:GA)(aS aT aN:Nat)(st:Option (Nat×Option Nat)):Obj:=jY P aS aT aN (st.map fun s=>(nm s.1,A.aI s.1,oY nm A s.2))
noncomputable def Z1:Option (Nat×Option Nat)→Option Nat
 | none=>none
 | some (_,y)=>y
def bO(P:Params)(nm:Nat→Str)(G:GS)(A:GA)(R:Lp)(aS aT aN aR aD fr nZ:Nat)(po:Int)(ts:List Nat)(It:Obj)(st:Option (Nat×Option Nat))(f:Nat→Int)(q:List Nat)(e:Nat)(nf:Int):Lp:=
 [(nZ,It),(aT,AV (.seq ⟨AL nm ts⟩ 0)),(fr,bG P nm A aS aT aN st),(aS,AJ aD),(aD,AK P aN (.ref aR) po nf),(aN,A7 (A8 P (AY nm A G.ord) G.ord.length)),(aR,A0 (.seq ⟨AL nm q⟩ e))]++(JE nm A f G.ord++(EV nm G A++R))
theorem ZU{α:Type}(t u f s d n q i l:α)(F' L' R:List α){F L:List α}(h:F.Perm (i::F'))(h2:L.Perm (l::L')):([t,u,f,s,d,n,q]++(F++(L++R))).Perm ([t,u,f,n,i,l,s,d,q]++(F'++(L'++R))):=
 Df [[t],[u],[f],[s],[d],[n],[q],F,L,R,[i],[l],F',L'] (.a (.q [0,1,2,3,4,5,6]) (.r [7,8] (.l 9))) (.a (.q [0,1,2,5,10,11,3,4,6]) (.r [12,13] (.l 9))) (.r [7] (.l 8)) (.a (.r [10] (.l 12)) (.r [11] (.l 13))) (h.append h2) rfl
def Ey(sc:Nat→List Nat):List Nat→(Nat→Int)→List Nat→Nat→Option ((Nat→Int)×List Nat×Nat)
 | [],f,q,e=>some (f,q,e)
 | X::l,f,q,e=>if f X=-1∧X∉sc X then Ey sc l (Fb (sc X) (upd f X (-2)) q e).1 (Fb (sc X) (upd f X (-2)) q e).2.1 (Fb (sc X) (upd f X (-2)) q e).2.2 else none
theorem Y4(sc:Nat→List Nat)(X:Nat)(l:List Nat)(f:Nat→Int)(q:List Nat)(e:Nat):Ey sc (X::l) f q e=if f X=-1∧X∉sc X then Ey sc l (Fb (sc X) (upd f X (-2)) q e).1 (Fb (sc X) (upd f X (-2)) q e).2.1 (Fb (sc X) (upd f X (-2)) q e).2.2 else none:=rfl
def eA(sc:Nat→List Nat):List Nat→Option (Nat×Option Nat)→Option (Nat×Option Nat)
 | [],st=>st
 | X::l,st=>eA sc l (some (X,GU (sc X) (Z1 st)))
section
variable{w:World}{b b2:Bool}{nm:Nat→Str}{G:GS}(inj:∀ a b,nm a=nm b→a=b)(A:GA)(R:Lp)(no:G.ord.Nodup)(oO:∀ c∈G.ord,∀ d∈G.sc c,d∈G.ord)(aS aT aN aR aD fr:Nat)(po:Int)(ts:List Nat)
include inj no oO
theorem Tj(nZ:Nat){i X:Nat}(hi:ts[i]?=some X)(qX:X∈G.ord)(st:Option (Nat×Option Nat))(f:Nat→Int)(q:List Nat)(e:Nat)(nf:Int)(hf:f X=-1)(hX:X∉G.sc X)(hq:q.length+(G.sc X).length < 1000) :
  A9 (wf w b b2) (A3 EK) (Xw w.2 nZ fr) (fun L=>L.Perm (bO w.2 nm G A R aS aT aN aR aD fr nZ po ts (Qj aT i) st f q e nf))
   (fun e' L=>e'=.fin (.again (Xw w.2 nZ fr))∧L.Perm (bO w.2 nm G A R aS aT aN aR aD fr nZ po ts (Qj aT ((i:Int)+1)) (some (X,GU (G.sc X) (Z1 st))) (Fb (G.sc X) (upd f X (-2)) q e).1 (Fb (G.sc X) (upd f X (-2)) q e).2.1 (Fb (G.sc X) (upd f X (-2)) q e).2.2 (nf+1))):=by
 have hv:(AL nm ts)[i]?=some (.str (nm X) 0):=by unfold AL; rw [List.getElem?_map,hi]; rfl
 have lk:(BI (AY nm A G.ord) (nm X)).getD .none=.ref (A.aI X):=by rw [Au inj,if_pos qX]; rfl
 have p1:=BN (fun c=>(A.aI c,AG (nm c) (f c) (A.aX c) (A.aL c))) qX
 rw [hf] at p1
 have p2:=BN (fun c=>(A.aI c,AG (nm c) ((Fb (G.sc X) (upd f X (-2)) q e).1 c) (A.aX c) (A.aL c))) qX
 rw [Ez hX,Ak] at p2
 have pl:=BN (fun c=>(A.aL c,A0 (ED nm G c))) qX
 have ec:JE nm A (upd f X (-2)) (G.ord.erase X)=JE nm A f (G.ord.erase X):=Hg fun c m=>AB f (-2) fun e=>by subst e; exact List.Nodup.not_mem_erase no m
 have pq:=fun y0 nZ=>Xx (w:=w) (b:=b) (b2:=b2) inj A (Ye nm G A X++R) no aS aT aN aR aD fr po nf X hX (oO X qX) y0 (upd f X (-2)) q e hq nZ
 rw [ec] at pq
 have e1:oY nm A (Z1 st)=jZ (st.map fun s=>(nm s.1,A.aI s.1,oY nm A s.2)):=by cases st<;>rfl
 have h:=pq (Z1 st)
 unfold bF at h
 rw [e1] at h
 refine (Spec.nP.k (To w b b2 nZ aT fr aN (A.aI X) (A.aL X) aS aD aR i (A.aX X) (nm X) _ _ po nf (.seq ⟨AL nm ts⟩ 0) (A8 w.2 (AY nm A G.ord) G.ord.length) (A8 w.2 (AY nm A G.ord) G.ord.length) (ED nm G X) (ED nm G X) (.seq ⟨AL nm q⟩ e) _ _ _ _ (AY nm A G.ord) G.ord.length rfl (AL nm ts) 0 rfl hv lk rfl rfl h)).nV ?_ ?_
 ·intro L p
  exact ⟨_,p.trans (ZU _ _ _ _ _ _ _ _ _ _ _ _ p1 pl),_,.refl _,rfl⟩
 ·rintro e' L ⟨A1,P',hP,rfl,rfl⟩
  exact ⟨_,.refl _,rfl,(List.Perm.append_left _ hP).trans (ZU _ _ _ _ _ _ _ _ _ _ _ _ p2 pl).symm⟩
set_option tactic.hygienic true in
theorem Tn(nZ:Nat)(rj:∀ c∈ts,c∈G.ord)(pC:∀ c,(G.sc c).length < 20):∀ (n i:Nat) (st:Option (Nat×Option Nat)) (f:Nat→Int) (q:List Nat) (e:Nat) (nf:Int) (r:(Nat→Int)×List Nat×Nat),i+n=ts.length→q.length+n*20 < 900→Ey G.sc (ts.drop i) f q e=some r→
  A9 (wf w b b2) (A3 EK) (Xw w.2 nZ fr) (fun L=>L.Perm (bO w.2 nm G A R aS aT aN aR aD fr nZ po ts (Qj aT i) st f q e nf))
   (fun e' L=>e'=.fin (.done .next)∧L.Perm (bO w.2 nm G A R aS aT aN aR aD fr nZ po ts (Yy (ts.length:Nat)) (eA G.sc (ts.drop i) st) r.1 r.2.1 r.2.2 (nf+n))):=by
 intro n
 induction n with
 | zero=>
  intro i st f q e nf r hi hq hr
  have hi:i=ts.length:=by lia
  subst hi
  rw [List.drop_length] at hr ⊢
  cases hr
  refine (Spec.nP.k (Tp w b b2 nZ aT fr ts.length (.seq ⟨AL nm ts⟩ 0) (.seq ⟨AL nm ts⟩ 0) (AL nm ts) 0 rfl (by simp [AL]) rfl (fun L=>L=[(fr,bG w.2 nm A aS aT aN st),(aS,AJ aD),(aD,AK w.2 aN (.ref aR) po nf),(aN,A7 (A8 w.2 (AY nm A G.ord) G.ord.length)),(aR,A0 (.seq ⟨AL nm q⟩ e))]++(JE nm A f G.ord++(EV nm G A++R))))).nV ?_ ?_
  ·intro L p
   exact ⟨_,p,_,rfl,rfl⟩
  ·rintro e' L ⟨A1,P',rfl,rfl,rfl⟩
   refine ⟨_,.refl _,rfl,.of_eq ?_⟩
   rw [show nf+((0:Nat):Int)=nf by lia]; rfl
 | succ n ih=>
  intro i st f q e nf r hi hq hr
  have oX:i < ts.length:=Cc hi
  have hp:ts[i]?=some ts[i]:=List.getElem?_eq_getElem oX
  have hd:ts.drop i=ts[i]::ts.drop (i+1):=List.drop_eq_getElem_cons oX
  rw [hd] at hr ⊢
  rw [Y4] at hr
  split at hr
  ·rename_i hh
   have h2:=pC ts[i]
   have h3:=IS (l:=G.sc ts[i]) (f:=upd f ts[i] (-2)) (q:=q) (e:=e)
   have hs:=Tj (w:=w) (b:=b) (b2:=b2) inj A R no oO aS aT aN aR aD fr po ts nZ hp (rj _ (List.getElem_mem oX)) st f q e nf hh.1 hh.2 (by lia)
   have hI:=ih (i+1) (some (ts[i],GU (G.sc ts[i]) (Z1 st))) _ _ _ (nf+1) r (Hp hi) (by lia) hr
   have en:nf+1+(n:Int)=nf+((n+1:Nat):Int):=by lia
   rw [en] at hI
   exact A9.go AI (by kernel_rfl) hs (hI)
  ·cases hr
theorem Xz(nZ:Nat)(rj:∀ c∈ts,c∈G.ord)(pC:∀ c,(G.sc c).length < 20)(hl:ts.length < 20)(f:Nat→Int)(q:List Nat)(e:Nat)(nf:Int)(hq:q.length < 20){r:(Nat→Int)×List Nat×Nat}(hr:Ey G.sc ts f q e=some r) :
  (Y1 w.2 (AL nm ts) fr nZ aT aS aD aN aR po nf (nf+ts.length) (A8 w.2 (AY nm A G.ord) G.ord.length) (.seq ⟨AL nm q⟩ e) (.seq ⟨AL nm r.2.1⟩ r.2.2) (bG w.2 nm A aS aT aN (eA G.sc ts none)).data ts.length).nP (wf w b b2) (A3 EK)
   (fun L=>L.Perm (JE nm A f G.ord++(EV nm G A++R))) (fun L=>L.Perm (JE nm A r.1 G.ord++(EV nm G A++R))):=by
 have h:=Tn (w:=w) (b:=b) (b2:=b2) inj A R no oO aS aT aN aR aD fr po ts nZ rj pC ts.length 0 none f q e nf r (by lia) (by lia) (by rw [List.drop_zero]; exact hr)
 rw [List.drop_zero] at h
 have eO:∀ st,bG w.2 nm A aS aT aN st=C3 (bG w.2 nm A aS aT aN st).data:=by
  rintro (_ | ⟨X,_ | y⟩)<;>rfl
 refine A9.qG h ?_ ?_
 ·intro L p
  exact ⟨_,List.Perm.append_left _ p,.refl _⟩
 ·rintro e' L ⟨rfl,p⟩
  refine ⟨fun z=>0,_,.refl _,rfl,p.trans (.of_eq ?_)⟩
  unfold bO
  rw [eO]; rfl
end
end
section
theorem Spec.nP.z{Z:Type}{F:Z→Spec}{S0:Spec}{w:World}{Sh:Pos→List Frame→Prop}{I O:Lp→Prop}(z:Z)(h:(F z).nP w Sh I O)(hC:(F z).C=S0.C)(hp:(F z).oH=S0.oH):Spec.oC F (fun q q=>True) S0 w Sh I O:=by
 intro P hI
 have h:=h P hI
 rw [hC,hp] at h
 exact h.nV (fun q e=>e) fun e L ⟨A,P',a,b,c,d⟩=>⟨z,A,P',True.intro,a,b,c,d⟩
section
variable{w:World}{b b2:Bool}{nm:Nat→Str}{G:GS}(inj:∀ a b,nm a=nm b→a=b)(A:GA)(no:G.ord.Nodup)(oO:∀ c∈G.ord,∀ d∈G.sc c,d∈G.ord)
include inj no oO
theorem Xv(pI aS aD aN aR:Nat)(po nf:Int){l:List Nat}(ho:∀ c∈l,c∈G.ord)(hl:l.length≤4)(oQ:l≠[])(pC:∀ c,(G.sc c).length < 20)(q:List Nat)(e:Nat)(hq:q.length < 20){r:(Nat→Int)×List Nat×Nat}(hr:Ey G.sc l G.np q e=some r) :
  (bN w.2 (AL nm l) pI aS aD aN aR po nf (nf+l.length)).nP (wf w b b2) (A3 Cx) (RG w.2 nm aN aR A G q e) (RG w.2 nm aN aR A { G with np:=r.1 } r.2.1 r.2.2):=by
 intro P hQ
 obtain ⟨R,pm⟩:=hQ
 have hk:=fun fr it tu=>Xz (w:=w) (b:=b) (b2:=b2) inj A R no oO aS tu aN aR aD fr po l it ho pC (by lia) G.np q e nf hq hr
 have hk2:=Spec.nP.k (Y2 w b b2 pI aS aD aN aR nm l po nf _ _ _ _ _ _ _ oQ hl rfl (fun fr it tu=>Spec.nP.z _ (hk fr it tu) rfl rfl))
 refine (A9.qG (S:=bN w.2 (AL nm l) pI aS aD aN aR po nf (nf+l.length)) (I:=fun L=>L=P) hk2 ?_ ?_) P rfl
 ·rintro P' rfl
  exact ⟨_,(List.Perm.append_left _ (pm.trans (List.Perm.append_left _ BC))),_,.refl _,rfl⟩
 ·rintro e' L ⟨A1,P',hP,rfl,rfl⟩
  exact ⟨fun y=>0,[(aN,A7 (A8 w.2 (AY nm A G.ord) G.ord.length)),(aR,A0 (.seq ⟨AL nm r.2.1⟩ r.2.2))]++P',⟨R,List.Perm.append_left _ (hP.trans (BC (G:={ G with np:=r.1 })).symm)⟩,rfl,.refl _⟩
end
end
def we(P:Params)(fr aG:Nat)(o:Option Str)(X Y:Str)(wh:Bool)(T:Int)(nQ nR aS nY:Nat):Spec:=⟨Lz P fr,[fr,aG],[I3 true (.dict ⟨Gx P nQ aS X Y wh nY T aG++cg P o⟩ (cf o)) nR,AV (.seq #[] 0)],Ar,fun A=>.fin (.done .next),fun A=>[I3 true (.dict ⟨Gx P nQ aS X Y wh nY T aG++cg P o⟩ (cf o)) nR,AV (.seq #[] 0)],fun A=>[]⟩
theorem My(fr aG:Nat)(o:Option Str)(X Y:Str)(wh:Bool)(T:Int)(nQ nR aS nY:Nat)(I:Lp→Prop):(we w.2 fr aG o X Y wh T nQ nR aS nY).nP (wf w b b2) (A3 (Ar)) (I) (I):=by
 refine BZ (Cs.oo o ⟨#[]⟩) (fun z D=>we w.2 fr aG z X Y wh T nQ nR aS nY) (fun z D l=>we w.2 fr aG z X Y wh T nQ nR aS nY) (fun z D=>(Af [O5 1 (.seq #[] 0) 0])) 1 (fun z=>[]) [] [0,0,1] 0 [] 0 [] (fun E0 ke=>?_)
 exact .q (J2 (w:=wf w b b2) rfl rfl (by simp)) fun y y y=>.nh ke rfl
section
def Bg(w:World)(Sh:Pos→List Frame→Prop)(C:Code)(Pre:Lp→Lp→Prop)(ni:End→Lp→Lp→Prop):Prop:=
 ∀ K N,Pre K N→Dn w Sh C (fun L=>L=K++N) (Lh ni K)
section
variable{w:World}{Sh:Pos→List Frame→Prop}{C:Code}
theorem Aj.q{ni:End→Lp→Lp→Prop}{qp:End→Lp→Lp→Prop}{K N L0 T:Lp}{Pre:Lp→Prop}(h:Aj w Sh C Pre qp)(hL:Pre L0)(hp:(K++N).Perm L0)(hT:∀ a∈T.map (·.1),a∈N.map (·.1))(h2:∀ e Lk Ln,qp e Lk Ln→∃ K',Lk.Perm (K'++T)∧ni e K' (T++Ln)) :
  Dn w Sh C (fun L=>L=K++N) (Lh ni K):=by
 intro c s pc nj L eL hC H hs
 subst eL
 have nd:=H.nd
 rw [List.map_append] at nd
 obtain ⟨e,s',L',oI,pos',go,⟨Lk,Ln,q,po,k⟩,H',F⟩:=h L0 hL c s pc nj L0 rfl hC (H.perm hp) hs
 obtain ⟨K',pk,oU⟩:=h2 _ _ _ po
 refine ⟨e,s',L',oI,pos',go,⟨K',T++Ln,q.trans ((pk.append_right Ln).trans (.of_eq (List.append_assoc _ _ _))),oU,fun a m=>?_⟩,H',F.life,F.gens,F.drawn,F.os,fun b o e n=>F.old b o e fun m=>n ((hp.map _).mem_iff.mpr m),fun q m=>(F.new q m).imp (fun a=>(hp.map _).mem_iff.mpr a) id⟩
 have m1:a∈L0.map (·.1):=(hp.map _).mem_iff.mp (by rw [List.map_append]; exact List.mem_append_left _ m)
 have m2:=(pk.map (·.1)).mem_iff.mp (k a m1)
 rw [List.map_append] at m2
 rcases List.mem_append.mp m2 with m2 | m2
 ·exact m2
 ·exact absurd rfl ((List.nodup_append.mp nd).2.2 a m a (hT a m2))
theorem Bg.again{Pre:Lp→Lp→Prop}{ni:End→Lp→Lp→Prop}{p9:Code→Lp→Lp→Prop}(oq:∀ p p' nj,Sh p nj→Sh p' nj)(h:Bg w Sh C Pre (fun e K N=>∃ c,e=.fin (.again c)∧B5 c=true∧p9 c K N))(k:∀ c,Bg w Sh (eC c) (p9 c) ni):Bg w Sh C Pre ni:=by
 intro K N hp
 refine Dn.again (p9:=fun c L=>∃ K' N',L.Perm (K'++N')∧p9 c K' N'∧∀ a∈K.map (·.1),a∈K'.map (·.1)) oq ((h K N hp).nV (fun L e=>e) ?_) ?_
 ·rintro e L ⟨K',N',q,⟨c,he,hq,hm⟩,hk⟩
  exact .inl ⟨c,he,hq,K',N',q,hm,hk⟩
 ·rintro c cc s pc nj L ⟨K',N',q,hm,hk⟩ hcc H hs
  obtain ⟨e,s',L',oI,pos',go,⟨K2,N2,q2,po,hk2⟩,H',F⟩:=k c K' N' hm cc s pc nj _ rfl hcc (H.perm q) hs
  exact ⟨e,s',L',oI,pos',go,⟨K2,N2,q2,po,fun a m=>hk2 a (hk a m)⟩,H',F.life,F.gens,F.drawn,F.os,fun b o e n=>F.old b o e fun m=>n ((q.map _).mem_iff.mpr m),fun x m=>(F.new x m).imp (fun a=>(q.map _).mem_iff.mpr a) id⟩
theorem Bg.n{Pre:Lp→Prop}{ni:End→Lp→Lp→Prop}{pV:End→Lp→Lp→Prop}(h:Bg w Sh C (fun K N=>Pre K∧N=[]) ni)(h2:∀ e K N,ni e K N→∃ N2,N.Perm N2∧pV e K N2):Aj w Sh C Pre pV:=by
 intro L0 hp
 refine (h L0 [] ⟨hp,rfl⟩).nV (fun L e=>by rw [e,List.append_nil]) ?_
 rintro e L ⟨K',N',q,po,hk⟩
 obtain ⟨N2,qn,oU⟩:=h2 _ _ _ po
 exact ⟨K',N2,q.trans (.append_left _ qn),oU,hk⟩
theorem Bg.go{Pre:Lp→Lp→Prop}{ni:End→Lp→Lp→Prop}{C1:Code}{M:Lp→Lp→Prop}(oq:∀ p p' nj,Sh p nj→Sh p' nj)(hq:B5 C1=true)(h:Bg w Sh C Pre fun e K N=>e=.fin (.again C1)∧M K N)(k:Bg w Sh (eC C1) M ni):Bg w Sh C Pre ni:=
 .again (p9:=fun c K N=>c=C1∧M K N) oq (fun K N p=>(h K N p).nV (fun z e=>e) fun e L ⟨K',N',q,⟨a,b⟩,hk⟩=>⟨K',N',q,⟨C1,a,hq,rfl,b⟩,hk⟩) fun c K N ⟨a,b⟩=>by subst a; exact k K N b
theorem Bg.pR{Z:Type}{F:Z→Spec}{O:Z→(Nat→Nat)→Lp→Prop}{S:Spec}{I Pre:Lp→Prop}{ni:End→Lp→Lp→Prop}(h:Bg w Sh S.C (fun K N=>Pre K∧N=[]) ni)
  (h1:∀ P,I P→∃ L0,(S.oH++P).Perm L0∧Pre L0) (h2:∀ e K N,ni e K N→∃ z A P' Lx,O z A (P'++Lx)∧e=(F z).fin A∧K.Perm (S.ad.zip ((F z).ch A)++P')∧N.Perm ((F z).p7 A++Lx)) (hp:S.pre.length=S.ad.length:=by rfl) (hF:∀ z,(F z).ad=S.ad:=by exact fun q=>rfl) (hc:∀ z A,((F z).ch A).length=S.ad.length:=by exact fun q q=>rfl):Spec.nX F O S w Sh I:=
 Aj.pR (Bg.n h fun e K N po=>⟨N,.refl _,po⟩) h1 h2 hp hF hc
theorem Spec.nX.of{Z:Type}{F:Z→Spec}{O:Z→(Nat→Nat)→Lp→Prop}{S:Spec}{I:Lp→Prop}(h:∀ P,I P→Spec.nX F O S w Sh fun L=>L=P):Spec.nX F O S w Sh I:=fun P p=>h P p P rfl
theorem Spec.nX.fr{Z:Type}{F:Z→Spec}{O O':Z→(Nat→Nat)→Lp→Prop}{S:Spec}{I:Lp→Prop}(h:Spec.nX F O S w Sh I)(T:Lp)(hO:∀ z A P,O z A P→O' z A (P++T)):Spec.nX F O' S w Sh fun L=>∃ L1,I L1∧L=L1++T:=by
 rintro P ⟨L1,hI,rfl⟩
 refine ((h L1 hI).frame T).nV (fun L e=>⟨_,rfl,by rw [e,List.append_assoc]⟩) ?_
 rintro e L ⟨L2,⟨z,A,P',o,sub,he,rfl⟩,rfl⟩
 refine ⟨z,A,P'++T,hO z A P' o,fun a m=>?_,he,by rw [List.append_assoc]⟩
 rw [List.map_append] at m ⊢
 exact (List.mem_append.mp m).elim (fun m=>List.mem_append_left _ (sub a m)) (List.mem_append_right _)
end
def Mm(sc:Nat→List Nat)(ord:List Nat):Nat→(Nat→Int)→List Nat→Nat→Nat→Option (List (Nat×Nat)×Nat×Nat)
 | 0,_,_,_,_=>none
 | n+1,f,l,T,e=>
  if l=[] then some ([],T,e) else
  match Ey sc l f [] e with
  | none=>none
  | some r=>
   if r.2.1.Nodup∧(∀ c∈r.2.1,c∈ord)∧r.2.1.length≤4 then
    match Mm sc ord n (fun c=>if c∈r.2.1 then -1 else r.1 c) r.2.1 (T+1) (Ja r.2.1 r.2.2) with
    | none=>none
    | some x=>some (l.map (fun c=>(c,T))++x.1,x.2)
   else none
theorem NV(sc:Nat→List Nat)(ord:List Nat)(n:Nat)(f:Nat→Int)(l:List Nat)(T e:Nat):Mm sc ord (n+1) f l T e=if l=[] then some ([],T,e) else
  match Ey sc l f [] e with
  | none=>none
  | some r=>
   if r.2.1.Nodup∧(∀ c∈r.2.1,c∈ord)∧r.2.1.length≤4 then
    match Mm sc ord n (fun c=>if c∈r.2.1 then -1 else r.1 c) r.2.1 (T+1) (Ja r.2.1 r.2.2) with
    | none=>none
    | some x=>some (l.map (fun c=>(c,T))++x.1,x.2)
   else none:=rfl
inductive bz (sc:Nat→List Nat) (ord:List Nat) (n:Nat) (f:Nat→Int) (l:List Nat) (T e:Nat) (res:List (Nat×Nat)×Nat×Nat):Prop
 | mk (r:(Nat→Int)×List Nat×Nat) (x:List (Nat×Nat)×Nat×Nat) (hr:Ey sc l f [] e=some r) (hc:r.2.1.Nodup∧(∀ c∈r.2.1,c∈ord)∧r.2.1.length≤4) (hx:Mm sc ord n (fun c=>if c∈r.2.1 then -1 else r.1 c) r.2.1 (T+1) (Ja r.2.1 r.2.2)=some x) (h:res=(l.map (fun c=>(c,T))++x.1,x.2)):bz sc ord n f l T e res
theorem NW{sc:Nat→List Nat}{ord:List Nat}{n:Nat}{f:Nat→Int}{l:List Nat}{T e:Nat}{res:List (Nat×Nat)×Nat×Nat}(h:Mm sc ord (n+1) f l T e=some res)(hl:l≠[]):bz sc ord n f l T e res:=by
 rw [NV,if_neg hl] at h
 cases hr:Ey sc l f [] e with
 | none=>rw [hr] at h; cases h
 | some r=>
  rw [hr] at h
  dsimp only at h
  by_cases hc:r.2.1.Nodup∧(∀ c∈r.2.1,c∈ord)∧r.2.1.length≤4
  ·rw [if_pos hc] at h
   cases hx:Mm sc ord n (fun c=>if c∈r.2.1 then -1 else r.1 c) r.2.1 (T+1) (Ja r.2.1 r.2.2) with
   | none=>rw [hx] at h; cases h
   | some x=>rw [hx] at h; exact ⟨r,x,hr,hc,hx,(Option.some.inj h).symm⟩
  ·rw [if_neg hc] at h; cases h
def Gw(nm:Nat→Str)(c T:Nat):Obj:=AV (.seq #[.str (nm c) 0,.int (T:Nat) 0] 0)
def BJ(nm:Nat→Str)(ra:List Nat)(rws:List (Nat×Nat)):Lp:=(ra.zip rws).map fun q=>(q.1,Gw nm q.2.1 q.2.2)
theorem Iq{nm:Nat→Str}{ra rb:List Nat}{rws rv:List (Nat×Nat)}(h:ra.length=rws.length):BJ nm (ra++rb) (rws++rv)=BJ nm ra rws++BJ nm rb rv:=by
 unfold BJ
 rw [List.zip_append h,List.map_append]
noncomputable def GV(rws:List (Nat×Nat)):Nat:=(rws.getLast?.map (·.1)).getD 0
theorem Hb{l:List Nat}{T:Nat}(rws:List (Nat×Nat))(h:l≠[]):GV (rws++l.map fun c=>(c,T))=l.getLastD 0:=by
 obtain ⟨l',x,rfl⟩:=List.eq_nil_or_concat l |>.resolve_left h
 simp [GV,← List.append_assoc]
def FB(P:Params)(nm:Nat→Str)(nQ aS:Nat)(X Y:Str)(wh:Bool)(nY:Nat)(T:Nat)(aG cl nR:Nat):Obj:=I3 true (.dict ⟨Gx P nQ aS X Y wh nY (T:Nat) aG++[kE P "name" (.str (nm cl) 0)]⟩ 9) nR
inductive SB (P:Params) (nm:Nat→Str) (G:GS) (A:GA) (X Y:Str) (wh:Bool) (nQ nR fr nY aS aD aN aR ox:Nat) (qD:Data) (f:Nat→Int) (l:List Nat) (T e:Nat) (rws:List (Nat×Nat)) (K N:Lp):Prop
 | mk (aG:Nat) (ra:List Nat) (L1:Lp) (h0:ra.length=rws.length) (h1:N.Perm (BJ nm ra rws++[(aG,AV (.seq ⟨AL nm l⟩ 0))])) (h2:K.Perm ([(fr,FB P nm nQ aS X Y wh nY T aG (GV rws) nR),(nY,A0 (.seq ⟨ra.map .ref⟩ rws.length)),(aS,AJ aD),(aD,AK P aN (.ref aR) ((rws.length+l.length:Nat):Int) (rws.length:Nat)),(ox,AV qD)]++L1)) (h3:RG P nm aN aR A { G with np:=f } [] e L1):SB P nm G A X Y wh nQ nR fr nY aS aD aN aR ox qD f l T e rws K N
inductive SA (P:Params) (nm:Nat→Str) (G:GS) (A:GA) (X Y:Str) (wh:Bool) (nQ nR fr nY aS aD aN aR ox:Nat) (l:List Nat) (f:Nat→Int) (e:Nat) (K:Lp):Prop
 | mk (L1:Lp) (h0:K.Perm ([(fr,I3 true (.dict ⟨Gx P nQ aS X Y wh nY 0 ox⟩ 8) nR),(nY,A0 (.seq #[] 0)),(aS,AJ aD),(aD,AK P aN (.ref aR) (l.length:Nat) 0),(ox,AV (.seq ⟨AL nm l⟩ 0))]++L1)) (h1:RG P nm aN aR A { G with np:=f } [] e L1):SA P nm G A X Y wh nQ nR fr nY aS aD aN aR ox l f e K
theorem Vk{P:Params}{nm:Nat→Str}{aN aR:Nat}{A:GA}{G:GS}{l:List Nat}{e:Nat}{L X:Lp}(h:RG P nm aN aR A G l e L):RG P nm aN aR A G l e (L++X):=by
 obtain ⟨R,p⟩:=h
 exact ⟨R++X,(p.append_right X).trans (.of_eq (by simp only [List.append_assoc]))⟩
theorem fU{α:Type}{K N:List α}(f o s d g t:α)(L r:List α)(hK:K.Perm ([f,o,s,d,g]++L))(hN:N.Perm (r++[t])):(K++N).Perm ([f,o,t,s,d]++(L++(g::r))):=
 Df [K,N,[f],[o],[t],[s],[d],L,[g],r] (.r [0] (.l 1)) (.a (.q [2,3,4,5,6]) (.r [7,8] (.l 9))) (.r [0] (.l 1)) (.a (.a (.q [2,3,5,6,8]) (.l 7)) (.a (.l 9) (.q [4]))) (hK.append hN) rfl
theorem fT{α:Type}(f o s d g t:α)(L r:List α):([f,o,t,s,d]++(L++(g::r))).Perm (([f,o,s,d,g]++(L++[t]))++r):=
 FQ [[f],[o],[t],[s],[d],L,[g],r] (.a (.q [0,1,2,3,4]) (.r [5,6] (.l 7))) (.a (.a (.q [0,1,3,4,6]) (.a (.l 5) (.q [2]))) (.l 7)) rfl
theorem ZK{α:Type}(t:α)(r s:List α):(r++(t::s)).Perm ((r++s)++[t]):=
 FQ [r,[t],s] (.r [0,1] (.l 2)) (.a (.r [0] (.l 2)) (.q [1])) rfl
theorem fR{α:Type}{K N:List α}(f o s d g t:α)(L r:List α)(hK:K.Perm ([f,o,s,d,g]++L))(hN:N.Perm (r++[t])):(K++N).Perm ([f,t]++([o,s,d,g]++(L++r))):=
 Df [K,N,[f],[t],[o],[s],[d],[g],L,r] (.r [0] (.l 1)) (.a (.q [2,3]) (.a (.q [4,5,6,7]) (.r [8] (.l 9)))) (.r [0] (.l 1)) (.a (.a (.q [2,4,5,6,7]) (.l 8)) (.a (.l 9) (.q [3]))) (hK.append hN) rfl
theorem fQ{α:Type}(f o s d g t:α)(L r:List α):([f,t]++([o,s,d,g]++(L++r))).Perm (([f,o,s,d,g]++L)++(r++[t])):=
 FQ [[f],[t],[o],[s],[d],[g],L,r] (.a (.q [0,1]) (.a (.q [2,3,4,5]) (.r [6] (.l 7)))) (.a (.a (.q [0,2,3,4,5]) (.l 6)) (.a (.l 7) (.q [1]))) rfl
theorem fP{α:Type}{K:List α}(f o s d t:α)(L:List α)(hK:K.Perm ([f,o,s,d,t]++L)):(K++[]).Perm ([f,o,t,s,d]++L):=
 Df [K,[f],[o],[t],[s],[d],L] (.a (.l 0) (.n)) (.a (.q [1,2,3,4,5]) (.l 6)) (.l 0) (.a (.q [1,2,4,5,3]) (.l 6)) hK rfl
theorem fO{α:Type}(f o s d t:α)(L:List α):([f,o,t,s,d]++L).Perm (([f,o,s,d,t]++L)++[]):=
 FQ [[f],[o],[t],[s],[d],L] (.a (.q [0,1,2,3,4]) (.l 5)) (.a (.a (.q [0,1,3,4,2]) (.l 5)) (.n)) rfl
section
variable{w:World}{b b2:Bool}{nm:Nat→Str}{G:GS}(inj:∀ a b,nm a=nm b→a=b)(A:GA)(no:G.ord.Nodup)(oO:∀ c∈G.ord,∀ d∈G.sc c,d∈G.ord)(pC:∀ c,(G.sc c).length < 20)(X Y:Str)(wh:Bool)(nQ nR fr nY aS aD aN aR ox:Nat)(qD:Data)
include inj no oO pC
theorem Z6(o:Option Str)(aG:Nat)(l:List Nat)(f:Nat→Int)(T e nr:Nat)(ra:List Nat)(R0:Lp)(r:(Nat→Int)×List Nat×Nat)(oQ:l≠[])(ho:∀ c∈l,c∈G.ord)(hl:l.length≤4)(oV:ra.length < 1000)(hr:Ey G.sc l f [] e=some r)(h1:r.2.1.Nodup)(h2:∀ c∈r.2.1,c∈G.ord)(h3:r.2.1.length≤4) :
  Aj (wf w b b2) (A3 Ar) (Lz w.2 fr) (fun L=>∃ L1,RG w.2 nm aN aR A { G with np:=f } [] e L1∧L=[(fr,I3 true (.dict ⟨Gx w.2 nQ aS X Y wh nY (T:Nat) aG++cg w.2 o⟩ (cf o)) nR),(nY,A0 (.seq ⟨ra.map .ref⟩ nr)),(aG,AV (.seq ⟨AL nm l⟩ 0)),(aS,AJ aD),(aD,AK w.2 aN (.ref aR) ((nr+l.length:Nat):Int) (nr:Nat))]++(L1++R0))
   (fun e' Lk Ln=>e'=.fin (.again (Lz w.2 fr))∧∃ (rH:Nat) (rb:List Nat) (L2:Lp),rb.length=l.length∧RG w.2 nm aN aR A { G with np:=(fun c=>if c∈r.2.1 then -1 else r.1 c) } [] (Ja r.2.1 r.2.2) L2∧Ln=[(rH,AV (.seq ⟨AL nm r.2.1⟩ 0))]++BJ nm rb (l.map fun c=>(c,T))∧Lk=[(fr,FB w.2 nm nQ aS X Y wh nY (T+1) rH (l.getLastD 0) nR),(nY,A0 (.seq ⟨(ra++rb).map .ref⟩ (nr+l.length))),(aG,AV (.seq ⟨AL nm l⟩ 0)),(aS,AJ aD),(aD,AK w.2 aN (.ref aR) ((nr+l.length+r.2.1.length:Nat):Int) ((nr+l.length:Nat):Int))]++(L2++R0)):=by
 have hd:=fun pI aS aD=>Xv (w:=w) (b:=b) (b2:=b2) inj (G:={ G with np:=f }) A no oO pI aS aD aN aR ((nr+l.length:Nat):Int) (nr:Nat) ho hl oQ pC [] e (by simp) hr
 have hg:=fun aS aD=>XZ (w:=w) (b:=b) (b2:=b2) inj (G:={ G with np:=r.1 }) A no aS aD aN aR ((nr+l.length:Nat):Int) ((nr:Nat)+(l.length:Int)) r.2.2 h1 h2 h3
 refine (Spec.nX.n (Spec.oC.d (VC w b b2 fr nY aG aS aD o X Y nm l wh (T:Nat) _ _ _ _ nQ nR aN aR nr (ra.map .ref) (.seq ⟨ra.map .ref⟩ nr) _ _ _ _ oQ hl rfl (by rw [List.length_map]; exact oV) (fun pI aS aD=>(hd pI aS aD).frame R0) (fun aS aD=>(hg aS aD).frame R0)))).nV ?_ ?_
 ·rintro _ ⟨L1,hG,rfl⟩
  exact ⟨_,.refl _,_,⟨L1,hG,rfl⟩,rfl⟩
 ·rintro e' Lk Ln ⟨z,A1,P',⟨hz,L2,qe,rfl⟩,rfl,rfl,rfl⟩
  refine ⟨_,.refl _,rfl,A1 0,(List.range l.length).map fun i=>A1 (i+1),L2,by simp,qe,?_,?_⟩
  ·rcases Ov l oQ hl with ⟨_,rfl⟩ | ⟨_,_,rfl⟩ | ⟨_,_,_,rfl⟩ | ⟨_,_,_,_,rfl⟩<;>rfl
  ·have hz:z=_:=hz
   rw [hz,List.map_append,List.map_map]
   rfl
theorem ek(l:List Nat)(f:Nat→Int)(e:Nat)(r:(Nat→Int)×List Nat×Nat)(oQ:l≠[])(ho:∀ c∈l,c∈G.ord)(hl:l.length≤4)(hr:Ey G.sc l f [] e=some r)(h1:r.2.1.Nodup)(h2:∀ c∈r.2.1,c∈G.ord)(h3:r.2.1.length≤4) :
  Bg (wf w b b2) (A3 Ar) (Lz w.2 fr) (fun K N=>SA w.2 nm G A X Y wh nQ nR fr nY aS aD aN aR ox l f e K∧N=[])
   (fun e' K N=>e'=.fin (.again (Lz w.2 fr))∧SB w.2 nm G A X Y wh nQ nR fr nY aS aD aN aR ox (.seq ⟨AL nm l⟩ 0) (fun c=>if c∈r.2.1 then -1 else r.1 c) r.2.1 1 (Ja r.2.1 r.2.2) (l.map (fun c=>(c,0))) K N):=by
 rintro K N ⟨⟨L1,hK,hG⟩,rfl⟩
 have h:=Z6 (w:=w) (b:=b) (b2:=b2) inj A no oO pC X Y wh nQ nR fr nY aS aD aN aR none ox l f 0 e 0 [] [] r oQ ho hl (by simp) hr h1 h2 h3
 rw [Nat.zero_add] at h
 refine Aj.q (T:=[]) h ⟨L1,hG,rfl⟩ (by rw [List.append_nil L1]; exact fP _ _ _ _ _ _ hK) (fun a m=>m) ?_
 rintro e' Lk Ln ⟨rfl,rH,rb,L2,qV,qe,rfl,rfl⟩
 refine ⟨_,(List.Perm.of_eq (by rw [List.append_nil L2])).trans (fO _ _ _ _ _ L2),rfl,rH,rb,L2,by simp [qV],ZK _ [] _,.of_eq ?_,qe⟩
 rw [← List.nil_append (l.map _),Hb _ oQ,List.length_append,List.length_map]
 simp
theorem ei(l:List Nat)(f:Nat→Int)(T e:Nat)(rws:List (Nat×Nat))(r:(Nat→Int)×List Nat×Nat)(oQ:l≠[])(ho:∀ c∈l,c∈G.ord)(hl:l.length≤4)(ql:rws.length < 900)(hr:Ey G.sc l f [] e=some r)(h1:r.2.1.Nodup)(h2:∀ c∈r.2.1,c∈G.ord)(h3:r.2.1.length≤4) :
  Bg (wf w b b2) (A3 Ar) (Lz w.2 fr) (SB w.2 nm G A X Y wh nQ nR fr nY aS aD aN aR ox qD f l T e rws)
   (fun e' K N=>e'=.fin (.again (Lz w.2 fr))∧SB w.2 nm G A X Y wh nQ nR fr nY aS aD aN aR ox qD (fun c=>if c∈r.2.1 then -1 else r.1 c) r.2.1 (T+1) (Ja r.2.1 r.2.2) (rws++l.map (fun c=>(c,T))) K N):=by
 rintro K N ⟨aG,ra,L1,oV,hN,hK,hG⟩
 refine Aj.q (T:=BJ nm ra rws) (Z6 (w:=w) (b:=b) (b2:=b2) inj A no oO pC X Y wh nQ nR fr nY aS aD aN aR (some (nm (GV rws))) aG l f T e rws.length ra ((ox,AV qD)::BJ nm ra rws) r oQ ho hl (by lia) hr h1 h2 h3) ⟨L1,hG,rfl⟩ (fU _ _ _ _ _ _ _ _ hK hN) (fun a m=>(hN.map _).mem_iff.mpr (by rw [List.map_append]; exact List.mem_append_left _ m)) ?_
 rintro e' Lk Ln ⟨rfl,rH,rb,L2,qV,qe,rfl,rfl⟩
 refine ⟨_,fT _ _ _ _ _ _ _ _,rfl,rH,ra++rb,L2++[(aG,AV (.seq ⟨AL nm l⟩ 0))],by simp [oV,qV],?_,.of_eq ?_,Vk qe⟩
 ·rw [Iq oV]
  exact ZK _ _ _
 ·rw [Hb _ oQ,List.length_append,List.length_map]
theorem eZ(f:Nat→Int)(T e:Nat)(rws:List (Nat×Nat)) :
  Bg (wf w b b2) (A3 Ar) (Lz w.2 fr) (SB w.2 nm G A X Y wh nQ nR fr nY aS aD aN aR ox qD f [] T e rws)
   (fun e' K N=>e'=.fin (.done .next)∧SB w.2 nm G A X Y wh nQ nR fr nY aS aD aN aR ox qD f [] T e rws K N):=by
 rintro K N ⟨aG,ra,L1,oV,hN,hK,hG⟩
 refine Aj.q (T:=BJ nm ra rws++[(aG,AV (.seq #[] 0))]) (Spec.nX.n (Spec.nP.d (My w b b2 fr aG (some (nm (GV rws))) X Y wh (T:Nat) nQ nR aS nY (fun L=>L=[(nY,A0 (.seq ⟨ra.map .ref⟩ rws.length)),(aS,AJ aD),(aD,AK w.2 aN (.ref aR) ((rws.length+0:Nat):Int) (rws.length:Nat)),(ox,AV qD)]++(L1++BJ nm ra rws))))) ⟨_,rfl,rfl⟩ (fR _ _ _ _ _ _ _ _ hK hN) (fun a m=>(hN.map _).mem_iff.mpr m) ?_
 rintro e' Lk Ln ⟨_,A1,P',rfl,rfl,rfl,rfl⟩
 refine ⟨_,fQ _ _ _ _ _ _ _ _,rfl,aG,ra,L1,oV,?_,.refl _,hG⟩
 exact .of_eq (List.append_nil _)
theorem Q':∀ (n:Nat) (f:Nat→Int) (l:List Nat) (T e:Nat) (rws:List (Nat×Nat)) (res:List (Nat×Nat)×Nat×Nat),Mm G.sc G.ord n f l T e=some res→(∀ c∈l,c∈G.ord)→l.length≤4→rws.length+n*4 < 900→
  Bg (wf w b b2) (A3 Ar) (Lz w.2 fr) (SB w.2 nm G A X Y wh nQ nR fr nY aS aD aN aR ox qD f l T e rws)
   (fun e' K N=>e'=.fin (.done .next)∧∃ f',SB w.2 nm G A X Y wh nQ nR fr nY aS aD aN aR ox qD f' [] res.2.1 res.2.2 (rws++res.1) K N):=by
 intro n
 induction n with
 | zero=>intro f l T e rws res h; cases h
 | succ n ih=>
  intro f l T e rws res h ho hl ql
  by_cases qO:l=[]
  ·subst qO
   rw [NV,if_pos rfl] at h
   cases h
   rw [List.append_nil]
   intro K N hp
   exact (eZ inj A no oO pC X Y wh nQ nR fr nY aS aD aN aR ox qD f T e rws K N hp).nV (fun z e=>e) fun e' L ⟨K',N',q,⟨h1,h2⟩,hk⟩=>⟨K',N',q,⟨h1,f,h2⟩,hk⟩
  ·obtain ⟨r,x,hr,hc,hx,rfl⟩:=NW h qO
   have hI:=ih _ _ _ _ (rws++l.map (fun c=>(c,T))) x hx hc.2.1 hc.2.2 (by rw [List.length_append,List.length_map]; lia)
   rw [List.append_assoc] at hI
   exact Bg.go AI (by kernel_rfl) (ei (w:=w) (b:=b) (b2:=b2) inj A no oO pC X Y wh nQ nR fr nY aS aD aN aR ox qD l f T e rws r qO ho hl (by lia) hr hc.1 hc.2.1 hc.2.2) hI
theorem Ve{n:Nat}{f:Nat→Int}{l:List Nat}{e:Nat}{res:List (Nat×Nat)×Nat×Nat}(hn:n < 20)(h:Mm G.sc G.ord n f l 0 e=some res)(qO:l≠[])(ho:∀ c∈l,c∈G.ord)(hl:l.length≤4) :
  Bg (wf w b b2) (A3 Ar) (Lz w.2 fr) (fun K N=>SA w.2 nm G A X Y wh nQ nR fr nY aS aD aN aR ox l f e K∧N=[])
   fun e' K N=>e'=.fin (.done .next)∧∃ f',SB w.2 nm G A X Y wh nQ nR fr nY aS aD aN aR ox (.seq ⟨AL nm l⟩ 0) f' [] res.2.1 res.2.2 res.1 K N:=by
 cases n with
 | zero=>cases h
 | succ n=>
  obtain ⟨r,x,hr,hc,hx,rfl⟩:=NW h qO
  exact Bg.go AI (by kernel_rfl) (ek (w:=w) (b:=b) (b2:=b2) inj A no oO pC X Y wh nQ nR fr nY aS aD aN aR ox l f e r qO ho hl hr hc.1 hc.2.1 hc.2.2) (Q' (w:=w) (b:=b) (b2:=b2) inj A no oO pC X Y wh nQ nR fr nY aS aD aN aR ox (.seq ⟨AL nm l⟩ 0) n _ _ _ _ (l.map (fun c=>(c,0))) x hx hc.2.1 hc.2.2 (by rw [List.length_map]; lia))
end
end
section
def AE(f:Bool)(c:Nat):Str:=if c < 4 then Wi f c else ⟨(List.replicate (c+8) 0).toArray⟩
theorem Wh{f:Bool}{c:Nat}(h:c < 4):AE f c=Wi f c:=if_pos h
theorem HW(f:Bool)(c:Nat):(Wi f c).cps.size < 8:=by
 unfold Wi
 split<;>decide +kernel
theorem SV:∀ f:Bool,∀ a < 4,∀ b < 4,Wi f a=Wi f b→a=b:=by decide +kernel
set_option tactic.hygienic true in
theorem Fn(f:Bool)(a b:Nat)(h:AE f a=AE f b):a=b:=by
 unfold AE at h
 split at h
 ·rename_i ha
  split at h
  ·rename_i hb
   exact SV f a ha b hb h
  ·rename_i hb
   exfalso
   have h1:=HW f a
   rw [h] at h1
   simp at h1
   lia
 ·rename_i ha
  split at h
  ·rename_i hb
   exfalso
   have h1:=HW f b
   rw [← h] at h1
   simp at h1
   lia
  ·have h2:(List.replicate (a+8) (0:Nat)).toArray=(List.replicate (b+8) 0).toArray:=congrArg Str.cps h
   have h3:=congrArg Array.size h2
   simp at h3
   exact h3
theorem fj{α:Type}{P:List α}(f s d n r o g:α)(F:List α)(h:P.Perm F):([f,s,d,n,r,o,g]++P).Perm ([f,o,s,d,g]++([n,r]++F)):=
 Df [[f],[s],[d],[n],[r],[o],[g],P,F] (.a (.q [0,1,2,3,4,5,6]) (.l 7)) (.a (.q [0,5,1,2,6]) (.a (.q [3,4]) (.l 8))) (.l 7) (.l 8) h rfl
theorem fi{α:Type}{K L:List α}(f s d n r o g:α)(F:List α)(hK:K.Perm ([f,o,s,d,g]++L))(hL:L.Perm ([n,r]++F)):K.Perm ([f,s,d,n,r,o,g]++F):=
 Df [K,[f],[s],[d],[n],[r],[o],[g],F,L] (.l 0) (.a (.q [1,2,3,4,5,6,7]) (.l 8)) (.r [0] (.l 9)) (.a (.a (.q [1,6,2,3,7]) (.l 9)) (.a (.q [4,5]) (.l 8))) (hK.append hL) rfl
theorem ZQ{α:Type}(f s d n r o g:α)(F:List α):([f,s,d,n,r,o,g]++F).Perm ([f,g]++([s,d,n,r,o]++F)):=
 FQ [[f],[s],[d],[n],[r],[o],[g],F] (.a (.q [0,1,2,3,4,5,6]) (.l 7)) (.a (.q [0,6]) (.a (.q [1,2,3,4,5]) (.l 7))) rfl
noncomputable def GX{α:Type}(x:Nat×α):List (Nat×α)→List (Nat×α)
 | []=>[x]
 | y::ys=>bif Nat.ble x.1 y.1 then x::y::ys else y::GX x ys
def Bl{α:Type}(l:List (Nat×α)):List (Nat×α):=l.foldr GX []
theorem Hf{α:Type}(x:Nat×α):∀ l,(GX x l).Perm (x::l)
 | []=>.refl _
 | y::ys=>by
  show (bif Nat.ble x.1 y.1 then x::y::ys else y::GX x ys).Perm _
  cases Nat.ble x.1 y.1 with
  | true=>exact .refl _
  | false=>exact ((Hf x ys).cons y).trans (.swap _ _ _)
theorem HF{α:Type}:∀ l:List (Nat×α),(Bl l).Perm l
 | []=>.refl _
 | x::l=>(Hf x (Bl l)).trans ((HF l).cons x)
theorem JD{α β:Type}(g:α→β)(x:Nat×α):∀ l:List (Nat×α),GX (x.1,g x.2) (l.map fun q=>(q.1,g q.2))=(GX x l).map fun q=>(q.1,g q.2)
 | []=>rfl
 | y::ys=>by
  show (bif Nat.ble x.1 y.1 then _::_::ys.map _ else _::GX (x.1,g x.2) (ys.map _))=(bif Nat.ble x.1 y.1 then x::y::ys else y::GX x ys).map _
  rw [JD g x ys]
  cases Nat.ble x.1 y.1<;>rfl
theorem EL{α β:Type}(g:α→β):∀ l:List (Nat×α),Bl (l.map fun q=>(q.1,g q.2))=(Bl l).map fun q=>(q.1,g q.2)
 | []=>rfl
 | x::l=>by
  show GX (x.1,g x.2) (Bl (l.map fun q=>(q.1,g q.2)))=_
  rw [EL g l,JD]; rfl
theorem LI(x:Nat×Nat):∀ l,T4 x l=GX x l
 | []=>rfl
 | y::ys=>by show (bif _ then _ else y::T4 x ys)=(bif _ then _ else y::GX x ys); rw [LI x ys]
theorem Qr(l:List (Nat×Nat)):Lv l=(Bl l).map fun x=>.ref x.2:=by
 unfold Lv Bl
 congr 1
 induction l with
 | nil=>rfl
 | cons x l ih=>rw [List.foldr_cons,List.foldr_cons,ih,LI]
inductive dR (nm:Nat→Str) (nU:List Nat) (nO:List (Nat×Nat)) (rws:List (Nat×Nat)) (z:Data) (L:Lp):Prop
 | mk (ra:List Nat) (R:Lp) (h0:ra.length=rws.length) (h1:z=.seq ⟨ra.map .ref⟩ rws.length) (h2:L.Perm (BJ nm ra rws++(AN nm nU nO++R))):dR nm nU nO rws z L
inductive bx (nm:Nat→Str) (T:Lp) (rws:List (Nat×Nat)) (z2:Data) (L:Lp):Prop
 | mk (ra:List Nat) (e:Nat) (R:Lp) (h0:z2=.seq ⟨ra.map .ref⟩ e) (h1:ra.length=(Bl rws).length) (h2:L.Perm (BJ nm ra (Bl rws)++(T++R))):bx nm T rws z2 L
theorem Z2{nm:Nat→Str}{e:Nat}{T R L:Lp}(q:List (Nat×(Nat×Nat)))(h:L.Perm (q.map (fun x=>(x.2.2,Gw nm x.1 x.2.1))++(T++R))) :
  bx nm T (q.map fun x=>(x.1,x.2.1)) (.seq ⟨Lv (q.map fun x=>(x.1,x.2.2))⟩ e) L:=by
 have e1:Lv (q.map fun x=>(x.1,x.2.2))=((Bl q).map fun x=>x.2.2).map .ref:=by
  rw [Qr,EL (fun x:Nat×Nat=>x.2),List.map_map,List.map_map]; rfl
 have e2:BJ nm ((Bl q).map fun x=>x.2.2) (Bl (q.map fun x=>(x.1,x.2.1)))=(Bl q).map (fun x=>(x.2.2,Gw nm x.1 x.2.1)):=by
  rw [EL (fun x:Nat×Nat=>x.1)]
  unfold BJ
  rw [List.zip_map',List.map_map]; rfl
 refine ⟨(Bl q).map fun x=>x.2.2,e,R,by rw [e1],by rw [EL (fun x:Nat×Nat=>x.1)]; simp,?_⟩
 rw [e2]
 exact h.trans (.append_right _ ((HF q).map _).symm)
theorem Kb{w:World}{b b2:Bool}(f:Bool){nU:List Nat}{nO:List (Nat×Nat)}{rows:List (Nat×Nat)}(oX:∀ c∈rows.map (·.1),c < 4)(qH:(rows.map (·.1)).Nodup)(qW:rows.length≤4)(z:Data)(aR:Nat) :
  Spec.nX (Ia aR z) (fun z2 y P=>bx (AE f) (AN (AE f) nU nO) rows z2 P) (Ia aR z .plain) (wf w b b2) (A3 FN) (dR (AE f) nU nO rows z):=by
 rintro P ⟨ra,R,oV,rfl,pm⟩
 obtain ⟨q,rfl,rfl⟩:∃ q:List (Nat×Nat×Nat),q.map (fun x=>(x.1,x.2.1))=rows∧q.map (·.2.2)=ra:=
  ⟨(rows.zip ra).map fun x=>(x.1.1,x.1.2,x.2),by rw [List.map_map]; exact List.map_fst_zip (by lia),by rw [List.map_map]; exact List.map_snd_zip (by lia)⟩
 rw [List.map_map] at oX qH
 rw [List.length_map] at qW
 have e:BJ (AE f) (q.map (·.2.2)) (q.map fun x=>(x.1,x.2.1))=q.map fun x=>(x.2.2,Gw (AE f) x.1 x.2.1):=by unfold BJ; rw [List.zip_map',List.map_map]; rfl
 have e2:(q.map (·.2.2)).zip (q.map fun x=>Vg f x.1 (x.2.1:Nat))=q.map fun x=>(x.2.2,Gw (AE f) x.1 x.2.1):=by
  rw [List.zip_map']
  exact List.map_congr_left fun x m=>by unfold Gw; rw [Wh (oX x.1 (List.mem_map_of_mem (f:=fun x:Nat×Nat×Nat=>x.1) m))]; rfl
 have e3:(Q8 w.2 aR f q).oH=(aR,A0 (.seq ⟨(q.map (·.2.2)).map .ref⟩ (q.map fun x=>(x.1,x.2.1)).length))::q.map fun x=>(x.2.2,Gw (AE f) x.1 x.2.1):=by
  rw [← e2,List.map_map,List.length_map]; rfl
 have hN:=Spec.nX.n (Spec.nP.d (Vb w b b2 aR f q qW oX qH (fun L=>L=AN (AE f) nU nO++R))) (by simp [Q8]) (fun y=>rfl) (fun y A=>by simp [Q8])
 rw [e3] at hN
 rw [e] at pm
 refine (Aj.toD (S:=Ia aR (.seq ⟨(q.map (·.2.2)).map .ref⟩ (q.map fun x=>(x.1,x.2.1)).length) .plain) (F:=Ia aR (.seq ⟨(q.map (·.2.2)).map .ref⟩ (q.map fun x=>(x.1,x.2.1)).length)) (O:=fun z2 y P'=>bx (AE f) (AN (AE f) nU nO) (q.map fun x=>(x.1,x.2.1)) z2 P') (I:=fun L=>L=P) hN ?_ ?_) P rfl
 ·rintro P' rfl
  exact ⟨_,.cons _ pm,_,rfl,rfl⟩
 ·rintro e' Lk Ln ⟨_,A,P',rfl,rfl,rfl,rfl⟩
  refine ⟨.seq ⟨Lv (q.map fun x=>(x.1,x.2.2))⟩ (kh q),A,q.map (fun x=>(x.2.2,Gw (AE f) x.1 x.2.1))++(AN (AE f) nU nO++R),Z2 q (.refl _),rfl,.of_eq ?_,rfl⟩
  exact congrArg (·++(AN (AE f) nU nO++R)) e3
inductive RT (nm:Nat→Str) (wh:Bool) (l:List (Nat×Nat)) (z:Data) (L:Lp):Prop
 | mk (a:Nat) (ra:List Nat) (e:Nat) (R:Lp) (h0:z=.seq #[.bool wh,.ref a] 0) (h1:ra.length=l.length) (h2:L.Perm ((a,A0 (.seq ⟨ra.map .ref⟩ e))::(BJ nm ra l++R))):RT nm wh l z L
theorem CA{nm:Nat→Str}:∀ {nU:List Nat} {nO:List (Nat×Nat)},nU.zip (nO.map (CL nm))=AN nm nU nO
 | [],_=>rfl
 | _::_,[]=>rfl
 | a::nU,p::nO=>by
  show (a,_)::nU.zip (nO.map (CL nm))=(a,_)::AN nm nU nO
  rw [CA]
theorem fX{α:Type}{P':List α}(a T r R:List α)(h:P'.Perm (r++(T++R))):(a++P').Perm ((a++T)++(r++R)):=
 Df [a,P',T,r,R] (.r [0] (.l 1)) (.a (.r [0] (.l 2)) (.r [3] (.l 4))) (.l 1) (.r [3,2] (.l 4)) h rfl
def Z7(C:Code)(as:List Nat)(os:List Obj)(ss:List Sh)(nm:Nat→Str)(nU:List Nat)(nO:List (Nat×Nat))(z:Data):Spec:=
 ⟨C,as++nU,os++nO.map (CL nm),ss,fun A=>.fin (.done (.ret (.ref (A 0)))),fun q=>os++nO.map (CL nm),fun q=>[AV z]⟩
theorem I0{w:World}{Q:Pos→List Frame→Prop}{nm:Nat→Str}{nU:List Nat}{nO:List (Nat×Nat)}(hl:nU.length=nO.length){wh:Bool}{rows:List (Nat×Nat)}{C:Code}{as:List Nat}{os:List Obj}{ss:List Sh}(rS:as.length=os.length){S:Spec}{F:Data→Spec}{I:Lp→Prop}(hI:∀ R,I (AN nm nU nO++R))(h1:S.C=C)(h2:S.ad=as)(h3:S.pre=os)(h4:∀ z,(F z).ad=as)(h5:∀ z A,(F z).ch A=os)(h6:∀ z A,(F z).p7 A=[(A 0,AV (.seq #[.bool wh,.ref (A 1)] 0)),(A 1,A0 z)])(h7:∀ z A,(F z).fin A=.fin (.done (.ret (.ref (A 0)))))
  (h:Spec.nX F (fun z A P'=>True∧bx nm (AN nm nU nO) rows z P') S w Q I) :
  Spec.nX (Z7 C as os ss nm nU nO) (fun z q P'=>RT nm wh (Bl rows) z P') (Z7 C as os ss nm nU nO .plain) w Q (fun q=>True):=by
 have hN:=Spec.nX.n h (by rw [h2,h3,rS]) (fun z=>by rw [h4,h2]) (fun z A=>by rw [h5,h2,rS])
 rw [h1] at hN
 have hlen:(os++nO.map (CL nm)).length=(as++nU).length:=by simp [rS,hl]
 refine Aj.pR (S:=Z7 C as os ss nm nU nO .plain) hN ?_ ?_ hlen (fun q=>rfl) (fun q q=>hlen)
 ·intro P _
  refine ⟨_,?_,_,hI P,rfl⟩
  unfold Spec.oH
  rw [h2,h3]
  show ((as++nU).zip (os++nO.map (CL nm))++P).Perm _
  rw [List.zip_append rS,CA,List.append_assoc]
 ·rintro e' Lk Ln ⟨z,A,P',⟨_,ra,e,R,rfl,oV,pm⟩,he,rfl,rfl⟩
  refine ⟨.seq #[.bool wh,.ref (A 1)] 0,A,BJ nm ra (Bl rows)++R,[(A 1,A0 (.seq ⟨ra.map .ref⟩ e))],⟨A 1,ra,e,R,rfl,oV,List.perm_append_comm.trans (.of_eq rfl)⟩,?_,?_,?_⟩
  ·rw [he,h7]; rfl
  ·rw [h5,h2]
   show (_++P').Perm ((as++nU).zip (os++nO.map (CL nm))++_)
   rw [List.zip_append rS,CA]
   exact fX _ _ _ _ pm
  ·rw [h6]; exact .of_eq rfl
noncomputable def LD(nm:Nat→Str)(rows:List (Nat×Nat)):Option Str:=rows.getLast?.map fun x=>nm x.1
theorem Oz{nm:Nat→Str}{rows:List (Nat×Nat)}(h:rows≠[]):LD nm rows=some (nm (GV rows)):=by
 unfold LD GV
 rw [List.getLast?_eq_some_getLast h]; rfl
set_option tactic.hygienic true in
theorem Vh{sc:Nat→List Nat}{ord:List Nat}{n:Nat}{f:Nat→Int}{l:List Nat}{T e:Nat}{r:List (Nat×Nat)×Nat×Nat}(h:Mm sc ord n f l T e=some r):if l=[] then r=([],T,e) else r.1≠[]:=by
 split
 ·rename_i hl
  cases n with
  | zero=>cases h
  | succ n=>rw [NV,if_pos hl] at h; cases h; rfl
 ·rename_i hl
  cases n with
  | zero=>cases h
  | succ n=>
   obtain ⟨r,x,_,_,_,rfl⟩:=NW h hl
   simp [hl]
section
variable{w:World}{b b2:Bool}{nm:Nat→Str}{G:GS}(inj:∀ a b,nm a=nm b→a=b)(no:G.ord.Nodup)(oO:∀ c∈G.ord,∀ d∈G.sc c,d∈G.ord)(pC:∀ c,(G.sc c).length < 20)(X Y:Str)(wh:Bool)(nQ nR:Nat)
include inj no oO pC
theorem Vd{n:Nat}{l:List Nat}{e T e2:Nat}{rows:List (Nat×Nat)}(hn:n < 20)(h:Mm G.sc G.ord n G.np l 0 e=some (rows,T,e2))(ho:∀ c∈l,c∈G.ord)(hl:l.length≤4)(nU:List Nat)(nO:List (Nat×Nat))(fr aS aD aN aR nY aG:Nat)(D:Data) :
  Spec.nX (Ml w.2 X Y wh (LD nm rows) (T:Nat) (l.length:Nat) (rows.length:Nat) (rows.length:Nat) nQ nR fr aS aD aN aR nY aG D (.seq #[] e) (.seq ⟨AL nm l⟩ 0) (.seq #[] e2)) (fun z q P=>dR nm nU nO rows z P) (Ml w.2 X Y wh (LD nm rows) (T:Nat) (l.length:Nat) (rows.length:Nat) (rows.length:Nat) nQ nR fr aS aD aN aR nY aG D (.seq #[] e) (.seq ⟨AL nm l⟩ 0) (.seq #[] e2) .plain) (wf w b b2) (A3 Ar) (fun L=>∃ L1,QG w.2 nm G D L1∧L=L1++AN nm nU nO):=by
 refine Spec.nX.fr (O:=fun z q P=>∃ (ra:List Nat) (R:Lp),ra.length=rows.length∧z=.seq ⟨ra.map .ref⟩ rows.length∧P.Perm (BJ nm ra rows++R)) (.of ?_) _ fun z A P ⟨ra,R,oV,hz,pm⟩=>⟨ra,R,oV,hz,(pm.append_right _).trans (by rw [List.append_assoc]; exact .append_left _ List.perm_append_comm)⟩
 rintro P ⟨A,R,rfl,pm⟩
 have oQ:=Vh h
 by_cases qO:l=[]
 ·rw [if_pos qO] at oQ
  subst qO; cases oQ
  have hk:=Spec.nP.k (My w b b2 fr aG none X Y wh 0 nQ nR aS nY (fun L=>L=[(aS,AJ aD),(aD,AK w.2 aN (.ref aR) 0 0),(aN,A7 (A8 w.2 (AY nm A G.ord) G.ord.length)),(aR,A0 (.seq #[] e)),(nY,A0 (.seq #[] 0))]++P))
  refine A9.toD hk (fun q p=>⟨_,?_,_,rfl,rfl⟩) fun e' L ⟨A1,P',a,b,c⟩=>⟨.seq #[] 0,A1,P,⟨[],P,rfl,rfl,.refl _⟩,b,?_⟩
  ·subst p; exact ZQ _ _ _ _ _ _ _ _
  ·subst c a; exact (ZQ _ _ _ _ _ _ _ _).symm
 ·rw [if_neg qO] at oQ
  rw [Oz oQ]
  refine Bg.pR (Ve (w:=w) (b:=b) (b2:=b2) inj A no oO pC X Y wh nQ nR fr nY aS aD aN aR aG hn h qO ho hl) (fun P' p=>⟨_,?_,_,.refl _,⟨R,.refl _⟩⟩) ?_
  ·subst p; exact fj _ _ _ _ _ _ _ _ pm
  ·rintro e' K N ⟨he,f',sH,ra,L1,oV,hN,hK,⟨R',hG⟩⟩
   rw [List.length_nil,Nat.add_zero] at hK
   exact ⟨.seq ⟨ra.map .ref⟩ rows.length,(fun q=>sH),_,BJ nm ra rows,⟨ra,_,oV,rfl,List.perm_append_comm⟩,he,fi _ _ _ _ _ _ _ _ hK hG,hN.trans List.perm_append_comm⟩
end
end
section
structure GC(G:GS):Prop where
 cl:∀ c∈G.ord,∀ d∈G.sc c,d∈G.ord
 np:∀ c,0≤G.np c
set_option tactic.hygienic true in
theorem Py{x:Nat}{G:GS}(h:GC G):GC (Dq x G)∧x∈(Dq x G).ord:=by
 unfold Dq
 split
 ·rename_i hx
  refine ⟨⟨h.cl,fun c=>?_⟩,hx⟩
  have:=h.np c; have:=h.np x
  dsimp only; unfold upd; split<;>lia
 ·rename_i hx
  refine ⟨⟨fun c hc d hd=>?_,fun c=>?_⟩,by simp⟩
  ·dsimp only at hd hc ⊢
   unfold upd at hd
   split at hd
   ·cases hd
   ·rename_i oQ
    rcases List.mem_append.mp hc with m | m
    ·exact List.mem_append_left _ (h.cl c m d hd)
    ·exact absurd (by simpa using m) oQ
  ·have:=h.np c
   dsimp only; unfold upd; split<;>lia
set_option tactic.hygienic true in
theorem YN{x y:Nat}{G:GS}(h:GC G)(hx:x∈G.ord):GC (Gq x y G):=by
 unfold Gq
 split
 ·rename_i hy
  refine ⟨fun c hc d hd=>?_,h.np⟩
  dsimp only at hd hc ⊢
  unfold upd at hd
  split at hd
  ·rcases List.mem_append.mp hd with m | m
   ·exact h.cl y hy d m
   ·rw [show d=x by simpa using m]; exact hx
  ·exact h.cl c hc d hd
 ·rename_i hy
  refine ⟨fun c hc d hd=>?_,fun c=>?_⟩
  ·dsimp only at hd hc ⊢
   unfold upd at hd
   split at hd
   ·rw [show d=x by simpa using hd]; exact List.mem_append_left _ hx
   ·rename_i oQ
    rcases List.mem_append.mp hc with m | m
    ·exact List.mem_append_left _ (h.cl c m d hd)
    ·exact absurd (by simpa using m) oQ
  ·have:=h.np c
   dsimp only; unfold upd; split<;>lia
theorem YO{x y:Nat}{G:GS}(h:GC G):GC (AU x y G):=YN (Py h).1 (Py h).2
theorem V3:∀ (l:List (Nat×Nat)) {G:GS},GC G→GC (Bf l G)
 | [],_,h=>h
 | p::l,G,h=>V3 l (G:=AU p.2 p.1 G) (YO h)
theorem V2:∀ (l:List (Nat×Nat)) {k:Nat} {G:GS},V9 k G→V9 (k+l.length) (Bf l G)
 | [],_,_,h=>h
 | p::l,k,G,h=>by
  have:=V2 l (IY p.2 p.1 h)
  rw [List.length_cons,show k+(l.length+1)=k+1+l.length by lia]
  exact this
theorem UN(x y:Nat)(G:GS):(AU x y G).ord≠[]:=by
 have:x∈(Dq x G).ord:=by unfold Dq; split<;>simp_all
 unfold AU Gq
 split
 ·exact List.ne_nil_of_mem this
 ·simp
theorem Pr:∀ (l:List (Nat×Nat)) {G:GS},(l≠[]∨G.ord≠[])→(Bf l G).ord≠[]
 | [],G,h=>h.resolve_left (fun h=>h rfl)
 | p::l,G,_=>Pr l (G:=AU p.2 p.1 G) (.inr (UN _ _ _))
theorem kL:GC G0:=⟨fun c h=>(by cases h),fun c=>Int.le_refl 0⟩
theorem kK:V9 0 G0:=⟨by simp [G0],by simp [G0],fun c=>by simp [G0]⟩
noncomputable def n5:Option (List Nat)→Bool→Bool
 | none,r2=>r2
 | some r,_=>decide (r.length≤30) && !r.isEmpty
def G9(nO:List (Nat×Nat)):Option (Bool×List (Nat×Nat)):=
 match Jb (Bf nO G0).sc 30 (Bf nO G0).ord [] false with
 | none=>none
 | some (rg,r2)=>
  if n5 rg r2=true then
   if (As (Bf nO G0) (Bf nO G0).ord).length≤4 then
    match Mm (Bf nO G0).sc (Bf nO G0).ord 10 (D7 (As (Bf nO G0) (Bf nO G0).ord) (Bf nO G0)).np (As (Bf nO G0) (Bf nO G0).ord) 0 (Ja (As (Bf nO G0) (Bf nO G0).ord) (As (Bf nO G0) (Bf nO G0).ord).length) with
    | none=>none
    | some x=>some (rg.isNone,x.1)
   else none
  else none
set_option tactic.hygienic true in
theorem Jr{nO:List (Nat×Nat)}{wh:Bool}{rows:List (Nat×Nat)}(h:G9 nO=some (wh,rows)) :
  ∃ rg r2 T e2,Jb (Bf nO G0).sc 30 (Bf nO G0).ord [] false=some (rg,r2)∧rg.isNone=wh∧(rg=none→r2=true)∧(∀ r,rg=some r→r≠[]∧r.length≤30)∧(As (Bf nO G0) (Bf nO G0).ord).length≤4∧Mm (Bf nO G0).sc (Bf nO G0).ord 10 (D7 (As (Bf nO G0) (Bf nO G0).ord) (Bf nO G0)).np (As (Bf nO G0) (Bf nO G0).ord) 0 (Ja (As (Bf nO G0) (Bf nO G0).ord) (As (Bf nO G0) (Bf nO G0).ord).length)=some (rows,T,e2):=by
 unfold G9 at h
 split at h
 ·cases h
 ·rename_i rg r2 hc
  split at h
  ·rename_i hr
   split at h
   ·rename_i hl
    split at h
    ·cases h
    ·rename_i x hx
     cases h
     refine ⟨rg,r2,x.2.1,x.2.2,hc,rfl,fun e=>by subst e; exact hr,fun r e=>?_,hl,hx⟩
     subst e
     have hr:(decide (r.length≤30) && !r.isEmpty)=true:=hr
     rw [Bool.and_eq_true] at hr
     refine ⟨fun e=>by subst e; exact absurd hr.2 (by decide),by simpa using hr.1⟩
   ·cases h
  ·cases h
def lK(P:Params)(nm:Nat→Str)(nU:List Nat)(nO:List (Nat×Nat))(nQ nR e0:Nat)(DW:Data):Data→Spec:=
 Z7 (.call (.ref 935) ⟨[.ref nQ],[]⟩) [nQ,nR] [A0 (.seq ⟨nU.map .ref⟩ e0),Dp nR DW] (EI P nR) nm nU nO
section
variable{w:World}{b b2:Bool}
theorem Wu(f:Bool){nU:List Nat}{nO:List (Nat×Nat)}(hl:nU.length=nO.length)(hs:nO.length < 8)(oQ:nO≠[]){wh:Bool}{rows:List (Nat×Nat)}(qU:G9 nO=some (wh,rows))(oX:∀ c∈rows.map (·.1),c < 4)(qH:(rows.map (·.1)).Nodup)(qW:rows.length≤4)(nQ nR e0:Nat)(DW:Data) :
  Spec.nX (lK w.2 (AE f) nU nO nQ nR e0 DW) (fun z q P'=>RT (AE f) wh (Bl rows) z P') (lK w.2 (AE f) nU nO nQ nR e0 DW .plain) (wf w b b2) (A3 (EI w.2 nR)) (fun q=>True):=by
 obtain ⟨rg,r2,T,e2,hcy,qT,hrn,rm,hl4,hx⟩:=Jr qU
 obtain ⟨p0,rest,rB⟩:∃ p0 rest,nO=p0::rest:=by
  cases nO with
  | nil=>exact absurd rfl oQ
  | cons p0 rest=>exact ⟨p0,rest,rfl⟩
 have gk:=V2 nO kK
 have gc:=V3 nO kL
 obtain ⟨c0,cr,hord⟩:∃ c0 cr,(Bf nO G0).ord=c0::cr:=by
  cases h:(Bf nO G0).ord with
  | nil=>exact absurd h (Pr nO (.inl oQ))
  | cons c0 cr=>exact ⟨c0,cr,rfl⟩
 have ho20:(Bf nO G0).ord.length < 20:=by have:=gk.len; lia
 have hs20:∀ c,((Bf nO G0).sc c).length < 20:=fun c=>by have:=gk.sc c; lia
 have inj:=Fn f
 have rF:=fun aI fr aS aD aN=>Xe (w:=w) (b:=b) (b2:=b2) inj hl (by lia) (e0:=e0) aI nQ fr aS aD aN rB
 have nl:(As (Bf nO G0) (Bf nO G0).ord).Nodup:=gk.nd.filter _
 have pJ:∀ c∈As (Bf nO G0) (Bf nO G0).ord,c∈(Bf nO G0).ord:=fun c m=>(List.mem_filter.mp m).1
 have rE:=fun (D:Data) (aS aD aN aR:Nat)=>(XY (w:=w) (b:=b) (b2:=b2) inj gk.nd aS aD aN aR (As (Bf nO G0) (Bf nO G0).ord).length nl pJ hl4 D).frame (AN (AE f) nU nO)
 have ql:=fun wh (D:Data) (fr aS aD aN aR nY aG:Nat)=>Vd (w:=w) (b:=b) (b2:=b2) (G:=D7 (As (Bf nO G0) (Bf nO G0).ord) (Bf nO G0)) inj gk.nd gc.cl hs20 (AE f (CJ rest p0).1) (AE f (CJ rest p0).2) wh nQ nR (by decide) hx pJ hl4 nU nO fr aS aD aN aR nY aG D
 have q6:=fun z aR=>Kb (w:=w) (b:=b) (b2:=b2) f (nU:=nU) (nO:=nO) oX qH qW z aR
 cases rg with
 | none=>
  cases qT
  rw [hrn rfl] at hcy
  exact I0 (as:=[nQ,nR]) (os:=[A0 (.seq ⟨nU.map .ref⟩ e0),Dp nR DW]) hl rfl (fun R=>⟨R,List.perm_append_comm⟩) rfl rfl rfl (fun q=>rfl) (fun q q=>rfl) (fun q q=>rfl) (fun q q=>rfl) (R9 w b b2 nQ nR (AE f (CJ rest p0).1) (AE f (CJ rest p0).2) _ _ _ _ _ (.seq ⟨nU.map .ref⟩ e0) _ DW DW (Q9 (AE f) (Bf nO G0)) _ _ _ rfl rfl _ _ _ _ _ _ rF (fun D aS aD aN fr=>(Vo (w:=w) (b:=b) (b2:=b2) inj gc.cl ho20 (by decide) hord gc.np aS aD aN fr nR D (Ud w.2 nQ aS (AE f (CJ rest p0).1) (AE f (CJ rest p0).2)) DW hcy).frame (AN (AE f) nU nO)) rE (ql true) q6)
 | some r0=>
  cases qT
  obtain ⟨hr0,hr1⟩:=rm r0 rfl
  obtain ⟨x0,r1,rfl⟩:∃ x0 r1,r0=x0::r1:=by
   cases r0 with
   | nil=>exact absurd rfl hr0
   | cons x0 r1=>exact ⟨x0,r1,rfl⟩
  exact I0 (as:=[nQ,nR]) (os:=[A0 (.seq ⟨nU.map .ref⟩ e0),Dp nR DW]) hl rfl (fun R=>⟨R,List.perm_append_comm⟩) rfl rfl rfl (fun q=>rfl) (fun q q=>rfl) (fun q q=>rfl) (fun q q=>rfl) (RK w b b2 nQ nR (AE f (CJ rest p0).1) (AE f (CJ rest p0).2) _ _ _ _ _ (.seq ⟨nU.map .ref⟩ e0) _ DW DW (Q9 (AE f) (Bf nO G0)) _ _ _ rfl rfl _ _ _ _ _ _ rF (fun D aS aD aN fr=>(Vn (w:=w) (b:=b) (b2:=b2) inj gc.cl ho20 (by decide) hord gc.np aS aD aN fr nR D (Ud w.2 nQ aS (AE f (CJ rest p0).1) (AE f (CJ rest p0).2)) DW (by simp at hr1; lia) hcy).frame (AN (AE f) nU nO)) rE (ql false) q6)
end
end
section
theorem A9.loop{w:World}{Sh:Pos→List Frame→Prop}{C:Code}{St:Nat→Lp→Prop}{ni:End→Lp→Prop}(oq:∀ p p' nj,Sh p nj→Sh p' nj)(hq:B5 C=true)(hC:eC C=C){n:Nat}(VR:∀ i < n,A9 w Sh C (St i) (fun e L=>e=.fin (.again C)∧St (i+1) L))(fin:A9 w Sh C (St n) ni):∀ (m i:Nat),i+m=n→A9 w Sh C (St i) ni:=by
 intro m
 induction m with
 | zero=>intro i h; rw [show i=n by lia]; exact fin
 | succ m ih=>
  intro i h
  refine A9.again (p9:=fun c L=>c=C∧St (i+1) L) oq ((VR i (by lia)).nV (fun L h=>⟨L,.refl _,h⟩) ?_) ?_
  ·rintro e L ⟨rfl,h⟩
   exact ⟨L,.refl _,C,rfl,hq,rfl,h⟩
  ·intro c L0 ⟨ec,h2⟩
   subst ec
   rw [hC]
   exact ih (i+1) (by lia) L0 h2
noncomputable def Eg(l:List Nat)(x:Nat):List Nat:=if x∈l then l else l++[x]
def BY(nO:List (Nat×Nat)):List Nat:=nO.foldl (fun l p=>Eg (Eg l p.1) p.2) []
noncomputable def By(nO:List (Nat×Nat))(ends:List Nat):List Nat:=(nO.filter fun p=>decide (p.1∈ends)).map (·.2)
theorem Mw{nO:List (Nat×Nat)}{i:Nat}{p:Nat×Nat}(h:nO[i]?=some p):BY (nO.take (i+1))=Eg (Eg (BY (nO.take i)) p.1) p.2:=by
 unfold BY
 rw [List.take_add_one,h,Option.toList_some,List.foldl_append]; rfl
theorem JV(l:List Nat)(x:Nat):(Eg l x).length≤l.length+1:=by unfold Eg; split<;>simp
theorem KY(nO:List (Nat×Nat)):(BY nO).length≤2*nO.length:=by
 have h:∀ (nO:List (Nat×Nat)) (l:List Nat),(nO.foldl (fun l p=>Eg (Eg l p.1) p.2) l).length≤l.length+2*nO.length:=by
  intro nO
  induction nO with
  | nil=>intro l; simp
  | cons p nO ih=>
   intro l
   have:=ih (Eg (Eg l p.1) p.2)
   have:=JV (Eg l p.1) p.2
   have:=JV l p.1
   simp only [List.foldl_cons,List.length_cons]
   lia
 have:=h nO []
 unfold BY
 simpa using this
theorem Cw(nm:Nat→Str)(l:List Nat):BA (l.map nm)=AL nm l:=by unfold BA AL; rw [List.map_map]; rfl
theorem DH(nm:Nat→Str)(l:List Nat)(x:Nat):AL nm l++[.str (nm x) 0]=AL nm (l++[x]):=by unfold AL; rw [List.map_append]; rfl
theorem Bu{nm:Nat→Str}(inj:∀ a b,nm a=nm b→a=b){x:Nat}{l:List Nat}{v:Bool}(h:decide (x∈l)=v):decide (nm x∈l.map nm)=v:=by
 rw [← h]; exact decide_eq_decide.mpr (E4 inj)
def CG(nm:Nat→Str)(l:List Nat)(e:Nat):Obj:=A0 (.seq ⟨AL nm l⟩ e)
noncomputable def Yu(nm:Nat→Str)(nU:List Nat)(nO:List (Nat×Nat)):Nat→Option (Nat×Str)
 | 0=>none
 | i+1=>some (nU.getD i 0,nm (nO.getD i (0,0)).2)
def Yv(P:Params)(nm:Nat→Str)(nU:List Nat)(nO:List (Nat×Nat))(nQ aN i:Nat):Obj:=QF P nQ aN (Yu nm nU nO i)
theorem Nf{α:Type}{P0 T:List α}(i s p f n:α)(h:P0.Perm (p::T)):([i,s,f,n]++P0).Perm ([i,s,p,f,n]++T):=
 Df [[i],[s],[f],[n],P0,[p],T] (.a (.q [0,1,2,3]) (.l 4)) (.a (.q [0,1,5,2,3]) (.l 6)) (.l 4) (.r [5] (.l 6)) h rfl
theorem Vt{α:Type}{P0 T:List α}(i s p a k c e:α)(h:P0.Perm (p::T)):([i,s,a,k,c,e]++P0).Perm ([i,s,p,a,k,c,e]++T):=
 Df [[i],[s],[a],[k],[c],[e],P0,[p],T] (.a (.q [0,1,2,3,4,5]) (.l 6)) (.a (.q [0,1,7,2,3,4,5]) (.l 8)) (.l 6) (.r [7] (.l 8)) h rfl
theorem I4{α:Type}(i s a k:α)(T:List α):([i,s,a,k]++T).Perm ([i,a,k]++(s::T)):=
 FQ [[i],[s],[a],[k],T] (.a (.q [0,1,2,3]) (.l 4)) (.a (.q [0,2,3]) (.r [1] (.l 4))) rfl
def N5(P:Params)(nm:Nat→Str)(nU:List Nat)(nO:List (Nat×Nat))(P0:Lp)(e0 nQ aI fr aN:Nat)(i:Nat)(L:Lp):Prop:=
 L.Perm ([(aI,AW nQ i),(nQ,A0 (.seq ⟨nU.map .ref⟩ e0)),(fr,Yv P nm nU nO nQ aN i),(aN,CG nm (BY (nO.take i)) (BY (nO.take i)).length)]++P0)
noncomputable def jx(nm:Nat→Str)(nO:List (Nat×Nat)):Nat→Option (Str×Str)
 | 0=>none
 | i+1=>some (nm (nO.getD i (0,0)).1,nm (nO.getD i (0,0)).2)
def IV(P:Params)(nm:Nat→Str)(nO:List (Nat×Nat))(i:Nat):Obj:=Je P (jx nm nO i)
theorem PL{nO:List (Nat×Nat)}{ends:List Nat}{i:Nat}{p:Nat×Nat}(h:nO[i]?=some p):By (nO.take (i+1)) ends=if p.1∈ends then By (nO.take i) ends++[p.2] else By (nO.take i) ends:=by
 unfold By
 rw [List.take_add_one,h,Option.toList_some,List.filter_append,List.map_append]
 by_cases hp:p.1∈ends
 ·simp [hp]
 ·simp [hp]
theorem TO(nO:List (Nat×Nat))(ends:List Nat):(By nO ends).length≤nO.length:=by
 unfold By; rw [List.length_map]; exact List.length_filter_le _ _
def Md(P:Params)(nm:Nat→Str)(nU:List Nat)(nO:List (Nat×Nat))(P0:Lp)(e0 nQ aI aA aK nW aE:Nat)(ends:List Nat)(ee:Nat)(i:Nat)(L:Lp):Prop:=
 L.Perm ([(aI,AW nQ i),(nQ,A0 (.seq ⟨nU.map .ref⟩ e0)),(aA,CG nm (By (nO.take i) ends) (By (nO.take i) ends).length),(aK,IV P nm nO i),(nW,AH aE),(aE,CG nm ends ee)]++P0)
section
variable{w:World}{b b2:Bool}{nm:Nat→Str}(inj:∀ a b,nm a=nm b→a=b){nU:List Nat}{nO:List (Nat×Nat)}(hl:nU.length=nO.length)(hs:nO.length < 100){P0 R:Lp}(hP:P0.Perm (AN nm nU nO++R))(e0 nQ:Nat)
include inj hl hs hP
theorem Ff{i:Nat}{p:Nat×Nat}{a:Nat}(ha:nU[i]?=some a)(hp:nO[i]?=some p):∃ T,P0.Perm ((a,El (nm p.1) (nm p.2))::T):=by
 obtain ⟨T,hT⟩:=Ij (nm:=nm) ha hp
 exact ⟨T++R,hP.trans (hT.append_right R)⟩
theorem Qa(aI fr nT nW aN:Nat)(i:Nat)(hi:i < nO.length) :
  A9 (wf w b b2) (A3 B1) (Ll w.2 aI fr nT nW) (N5 w.2 nm nU nO P0 e0 nQ aI fr aN i) (fun e L=>e=.fin (.again (Ll w.2 aI fr nT nW))∧N5 w.2 nm nU nO P0 e0 nQ aI fr aN (i+1) L):=by
 have hp:nO[i]?=some nO[i]:=List.getElem?_eq_getElem hi
 have ha:nU[i]?=some nU[i]:=List.getElem?_eq_getElem (by lia)
 obtain ⟨T,hT⟩:=Ff inj hl hs hP ha hp
 have hv:(nU.map Value.ref)[i]?=some (.ref nU[i]):=by rw [List.getElem?_map,ha]; rfl
 have e1:nU.getD i 0=nU[i]:=by simp [List.getD,ha]
 have e2:nO.getD i (0,0)=nO[i]:=by simp [List.getD,hp]
 have hln:=KY (nO.take i)
 have hln:((BY (nO.take i)).map nm).length < 1000:=by rw [List.length_map]; rw [List.length_take] at hln; lia
 have hN:CG nm (BY (nO.take i)) (BY (nO.take i)).length=A0 (.seq ⟨BA ((BY (nO.take i)).map nm)⟩ (BY (nO.take i)).length):=by unfold CG; rw [Cw]
 have key:∀ (D:Data),D=(.seq ⟨AL nm (BY (nO.take (i+1)))⟩ (BY (nO.take (i+1))).length)→([(aI,AW nQ ((i:Int)+1)),(nQ,A0 (.seq ⟨nU.map .ref⟩ e0)),(nU[i],El (nm nO[i].1) (nm nO[i].2)),(fr,C3 (.dict ⟨Mx w.2 nQ aN nU[i] (nm nO[i].2)⟩ 4)),(aN,A0 D)]++T).Perm ([(aI,AW nQ ((i+1:Nat):Int)),(nQ,A0 (.seq ⟨nU.map .ref⟩ e0)),(fr,Yv w.2 nm nU nO nQ aN (i+1)),(aN,CG nm (BY (nO.take (i+1))) (BY (nO.take (i+1))).length)]++P0):=by
  rintro D rfl
  refine (Nf _ _ _ _ _ hT).symm.trans (.of_eq ?_)
  rw [show Yv w.2 nm nU nO nQ aN (i+1)=C3 (.dict ⟨Mx w.2 nQ aN (nU.getD i 0) (nm (nO.getD i (0,0)).2)⟩ 4) from rfl,e1,e2]; rfl
 have eN:=Mw hp
 unfold N5
 rw [hN]
 unfold Eg at eN
 by_cases hx:nO[i].1∈BY (nO.take i)
 ·rw [if_pos hx] at eN
  have dx:=Bu (nm:=nm) inj (decide_eq_true hx)
  by_cases hy:nO[i].2∈BY (nO.take i)
  ·rw [if_pos hy] at eN
   have dy:=Bu (nm:=nm) inj (decide_eq_true hy)
   exact Spec.nP.kp (Ms w b b2 aI nQ nU[i] fr aN (Yu nm nU nO i) nT nW i (nm nO[i].1) (nm nO[i].2) _ _ _ e0 rfl hv _ (BY (nO.take i)).length rfl hln dx dy (fun L=>L=T)) (fun q p=>p.trans (Nf _ _ _ _ _ hT)) fun A1=>⟨_,key _ (by rw [eN,Cw]),rfl,.refl _⟩
  ·rw [if_neg hy] at eN
   have dy:=Bu (nm:=nm) inj (decide_eq_false hy)
   exact Spec.nP.kp (Mt w b b2 aI nQ nU[i] fr aN (Yu nm nU nO i) nT nW i (nm nO[i].1) (nm nO[i].2) _ _ _ _ e0 rfl hv _ (BY (nO.take i)).length rfl hln dx dy rfl (fun L=>L=T)) (fun q p=>p.trans (Nf _ _ _ _ _ hT)) fun A1=>⟨_,key _ (by rw [eN,Cw,DH]; simp),rfl,.refl _⟩
 ·rw [if_neg hx] at eN
  have dx:=Bu (nm:=nm) inj (decide_eq_false hx)
  have em:(BY (nO.take i)).map nm++[nm nO[i].1]=(BY (nO.take i)++[nO[i].1]).map nm:=by rw [List.map_append]; rfl
  by_cases hy:nO[i].2∈BY (nO.take i)++[nO[i].1]
  ·rw [if_pos hy] at eN
   have dy:=Bu (nm:=nm) inj (decide_eq_true hy)
   rw [← em] at dy
   exact Spec.nP.kp (Mu w b b2 aI nQ nU[i] fr aN (Yu nm nU nO i) nT nW i (nm nO[i].1) (nm nO[i].2) _ _ _ _ e0 rfl hv _ (BY (nO.take i)).length rfl hln dx rfl dy (fun L=>L=T)) (fun q p=>p.trans (Nf _ _ _ _ _ hT)) fun A1=>⟨_,key _ (by rw [eN,Cw,DH]; simp),rfl,.refl _⟩
  ·rw [if_neg hy] at eN
   have dy:=Bu (nm:=nm) inj (decide_eq_false hy)
   rw [← em] at dy
   exact Spec.nP.kp (Mv w b b2 aI nQ nU[i] fr aN (Yu nm nU nO i) nT nW i (nm nO[i].1) (nm nO[i].2) _ _ _ _ _ e0 rfl hv _ (BY (nO.take i)).length rfl hln dx rfl dy rfl (fun L=>L=T)) (fun q p=>p.trans (Nf _ _ _ _ _ hT)) fun A1=>⟨_,key _ (by rw [eN,em,Cw,DH]; simp),rfl,.refl _⟩
theorem VP{n:Nat}(hn:nO.length=n+1)(aI fr nT nW aN:Nat) :
  (Yt w.2 aI nQ fr nT nW aN (nU.getD n 0) (nm (nO.getD n (0,0)).2) (.seq ⟨nU.map .ref⟩ e0) (.seq ⟨AL nm (BY nO)⟩ (BY nO).length) (BW (nO.length:Nat)).data).nP (wf w b b2) (A3 B1) (fun L=>L=P0) (fun L=>L=P0):=by
 have fin:A9 (wf w b b2) (A3 B1) (Ll w.2 aI fr nT nW) (N5 w.2 nm nU nO P0 e0 nQ aI fr aN nO.length) (fun e L=>e=.fin (.done .next)∧L.Perm ([(aI,BW (nO.length:Nat)),(nQ,A0 (.seq ⟨nU.map .ref⟩ e0)),(fr,Yv w.2 nm nU nO nQ aN nO.length),(aN,CG nm (BY nO) (BY nO).length)]++P0)):=by
  unfold N5
  rw [List.take_length]
  exact Spec.nP.kp (QE w b b2 aI nQ fr nT nW nO.length _ _ (nU.map .ref) e0 rfl (by rw [List.length_map,hl]; exact Nat.le_refl _) rfl (fun L=>L=[(fr,Yv w.2 nm nU nO nQ aN nO.length),(aN,CG nm (BY nO) (BY nO).length)]++P0)) (fun q p=>p) fun A1=>⟨_,.refl _,rfl,.refl _⟩
 have h:=A9.loop AI (by kernel_rfl) (by kernel_rfl) (fun i hi=>Qa (w:=w) (b:=b) (b2:=b2) inj hl hs hP e0 nQ aI fr nT nW aN i hi) fin nO.length 0 (by lia)
 refine A9.qG h ?_ ?_
 ·rintro P rfl
  exact ⟨_,.refl _,.refl _⟩
 ·rintro e L ⟨rfl,p⟩
  rw [hn] at p
  exact ⟨fun q=>0,_,rfl,rfl,by rw [hn]; exact p⟩
theorem U8(aI aA aK nW aE fr:Nat)(ends:List Nat)(ee:Nat)(i:Nat)(hi:i < nO.length) :
  A9 (wf w b b2) (A3 Aa) (U9 w.2 aI aA aK nW fr) (Md w.2 nm nU nO P0 e0 nQ aI aA aK nW aE ends ee i) (fun e L=>e=.fin (.again (U9 w.2 aI aA aK nW fr))∧Md w.2 nm nU nO P0 e0 nQ aI aA aK nW aE ends ee (i+1) L):=by
 have hp:nO[i]?=some nO[i]:=List.getElem?_eq_getElem hi
 have ha:nU[i]?=some nU[i]:=List.getElem?_eq_getElem (by lia)
 obtain ⟨T,hT⟩:=Ff inj hl hs hP ha hp
 have hv:(nU.map Value.ref)[i]?=some (.ref nU[i]):=by rw [List.getElem?_map,ha]; rfl
 have e2:nO.getD i (0,0)=nO[i]:=by simp [List.getD,hp]
 have hE:CG nm ends ee=A0 (.seq ⟨BA (ends.map nm)⟩ ee):=by unfold CG; rw [Cw]
 have hln:=TO (nO.take i) ends
 have hsz:(AL nm (By (nO.take i) ends)).length≤sizeLine:=by
  have:=A5
  unfold AL; rw [List.length_map]; rw [List.length_take] at hln; lia
 have key:∀ (D:Data),D=(.seq ⟨AL nm (By (nO.take (i+1)) ends)⟩ (By (nO.take (i+1)) ends).length)→([(aI,AW nQ ((i:Int)+1)),(nQ,A0 (.seq ⟨nU.map .ref⟩ e0)),(nU[i],El (nm nO[i].1) (nm nO[i].2)),(aA,A0 D),(aK,AR [kE w.2 "early" (.str (nm nO[i].1) 0),kE w.2 "late" (.str (nm nO[i].2) 0)] 2),(nW,AH aE),(aE,A0 (.seq ⟨BA (ends.map nm)⟩ ee))]++T).Perm ([(aI,AW nQ ((i+1:Nat):Int)),(nQ,A0 (.seq ⟨nU.map .ref⟩ e0)),(aA,CG nm (By (nO.take (i+1)) ends) (By (nO.take (i+1)) ends).length),(aK,IV w.2 nm nO (i+1)),(nW,AH aE),(aE,A0 (.seq ⟨BA (ends.map nm)⟩ ee))]++P0):=by
  rintro D rfl
  refine (Vt _ _ _ _ _ _ _ hT).symm.trans (.of_eq ?_)
  rw [show IV w.2 nm nO (i+1)=AR [kE w.2 "early" (.str (nm (nO.getD i (0,0)).1) 0),kE w.2 "late" (.str (nm (nO.getD i (0,0)).2) 0)] 2 from rfl,e2]; rfl
 have eN:=PL (ends:=ends) hp
 unfold Md
 rw [hE]
 by_cases hx:nO[i].1∈ends
 ·rw [if_pos hx] at eN
  have dx:=Bu (nm:=nm) inj (decide_eq_true hx)
  exact Spec.nP.kp (UB w b b2 aI nQ nU[i] aA aK nW aE (jx nm nO i) fr i (nm nO[i].1) (nm nO[i].2) _ (.seq ⟨AL nm (By (nO.take i) ends)⟩ (By (nO.take i) ends).length) _ _ _ e0 rfl hv _ ee rfl dx _ (By (nO.take i) ends).length rfl rfl hsz (fun L=>L=T)) (fun q p=>p.trans (Vt _ _ _ _ _ _ _ hT)) fun A1=>⟨_,key _ (by rw [eN,DH]; simp),rfl,.refl _⟩
 ·rw [if_neg hx] at eN
  have dx:=Bu (nm:=nm) inj (decide_eq_false hx)
  exact Spec.nP.kp (UC w b b2 aI nQ nU[i] aA aK nW aE (jx nm nO i) fr i (nm nO[i].1) (nm nO[i].2) _ (.seq ⟨AL nm (By (nO.take i) ends)⟩ (By (nO.take i) ends).length) _ _ e0 rfl hv _ ee rfl dx (fun L=>L=T)) (fun q p=>p.trans (Vt _ _ _ _ _ _ _ hT)) fun A1=>⟨_,key _ (by rw [eN]),rfl,.refl _⟩
theorem YC{n:Nat}(hn:nO.length=n+1)(aI aA aK nW aE fr:Nat)(ends:List Nat)(ee:Nat) :
  (XQ w.2 aI nQ aA aK nW aE fr (nm (nO.getD n (0,0)).1) (nm (nO.getD n (0,0)).2) (.seq ⟨nU.map .ref⟩ e0) (.seq ⟨AL nm (By nO ends)⟩ (By nO ends).length) (.seq ⟨AL nm ends⟩ ee) (BW (nO.length:Nat)).data).nP (wf w b b2) (A3 Aa) (fun L=>L=P0) (fun L=>L=P0):=by
 have fin:A9 (wf w b b2) (A3 Aa) (U9 w.2 aI aA aK nW fr) (Md w.2 nm nU nO P0 e0 nQ aI aA aK nW aE ends ee nO.length) (fun e L=>e=.fin (.done .next)∧L.Perm ([(aI,BW (nO.length:Nat)),(nQ,A0 (.seq ⟨nU.map .ref⟩ e0)),(aA,CG nm (By nO ends) (By nO ends).length),(aK,IV w.2 nm nO nO.length),(nW,AH aE),(aE,CG nm ends ee)]++P0)):=by
  unfold Md
  rw [List.take_length]
  exact Spec.nP.kp (UA w b b2 aI nQ aA aK nW fr nO.length _ _ (nU.map .ref) e0 rfl (by rw [List.length_map,hl]; exact Nat.le_refl _) rfl (fun L=>L=[(aA,CG nm (By nO ends) (By nO ends).length),(aK,IV w.2 nm nO nO.length),(nW,AH aE),(aE,CG nm ends ee)]++P0)) (fun q p=>p) fun A1=>⟨_,.refl _,rfl,.refl _⟩
 have h:=A9.loop AI (by kernel_rfl) (by kernel_rfl) (fun i hi=>U8 (w:=w) (b:=b) (b2:=b2) inj hl hs hP e0 nQ aI aA aK nW aE fr ends ee i hi) fin nO.length 0 (by lia)
 have hz:=Spec.nP.r6 (M:=fun L=>Md w.2 nm nU nO P0 e0 nQ aI aA aK nW aE ends ee 0 L) (Pp w b b2 aI aA aK nW fr nQ (.seq #[] 0) (fun L=>L=(nQ,A0 (.seq ⟨nU.map .ref⟩ e0))::([(nW,AH aE),(aE,CG nm ends ee)]++P0))) AI (by kernel_rfl) (fun q=>rfl) (fun A1=>⟨_,.refl _,(I4 _ _ _ _ _).symm⟩) h
 refine A9.qG (S:=XQ w.2 aI nQ aA aK nW aE fr (nm (nO.getD n (0,0)).1) (nm (nO.getD n (0,0)).2) (.seq ⟨nU.map .ref⟩ e0) (.seq ⟨AL nm (By nO ends)⟩ (By nO ends).length) (.seq ⟨AL nm ends⟩ ee) (BW (nO.length:Nat)).data) hz ?_ ?_
 ·rintro P rfl
  exact ⟨_,I4 _ _ _ _ _,_,rfl,rfl⟩
 ·rintro e L ⟨rfl,p⟩
  rw [hn] at p
  exact ⟨fun q=>0,_,rfl,rfl,by rw [hn]; exact p⟩
end
end
section
noncomputable def QS(nm:Nat→Str)(l:List Nat)(X0:Str):Nat→Str
 | 0=>X0
 | i+1=>nm (l.getD i 0)
def BV(l fu:List Nat)(T:Nat):List (Nat×Nat):=(l.filter fun c=>!decide (c∈fu)).map fun c=>(c,T)
theorem MD{l fu:List Nat}{T i c:Nat}(h:l[i]?=some c):BV (l.take (i+1)) fu T=if c∈fu then BV (l.take i) fu T else BV (l.take i) fu T++[(c,T)]:=by
 unfold BV
 rw [List.take_add_one,h,Option.toList_some,List.filter_append,List.map_append]
 by_cases hp:c∈fu
 ·simp [hp]
 ·simp [hp]
theorem J5(l fu:List Nat)(T:Nat):(BV l fu T).length≤l.length:=by
 unfold BV; rw [List.length_map]; exact List.length_filter_le _ _
def Ym(P:Params)(nQ aN nu nY:Nat)(X:Str)(T:Nat):Obj:=C3 (.dict ⟨Fu P nQ aN nu X nY (T:Nat)⟩ 6)
inductive QT (P:Params) (nm:Nat→Str) (P0:Lp) (nQ aN nu nY aI aE fr nT nv:Nat) (T:Nat) (l fu:List Nat) (ee ef:Nat) (rws:List (Nat×Nat)) (X0:Str) (i:Nat) (L:Lp):Prop
 | mk (ra:List Nat) (h0:ra.length=(rws++BV (l.take i) fu T).length) (h1:L.Perm ([(aI,AW aE i),(aE,CG nm l ee),(fr,Ym P nQ aN nu nY (QS nm l X0 i) T),(nT,AH nv),(nv,CG nm fu ef),(nY,A0 (.seq ⟨ra.map .ref⟩ (rws++BV (l.take i) fu T).length))]++(BJ nm ra (rws++BV (l.take i) fu T)++P0))):QT P nm P0 nQ aN nu nY aI aE fr nT nv T l fu ee ef rws X0 i L
theorem fq{α:Type}(x:α)(A B C:List α):((A++(B++C))++[x]).Perm (A++((B++[x])++C)):=
 FQ [A,B,C,[x]] (.a (.r [0,1] (.l 2)) (.q [3])) (.a (.l 0) (.a (.a (.l 1) (.q [3])) (.l 2))) rfl
inductive UX (nm:Nat→Str) (nY:Nat) (rws:List (Nat×Nat)) (P0 L:Lp):Prop
 | mk (ra:List Nat) (h0:ra.length=rws.length) (h1:L.Perm ((nY,A0 (.seq ⟨ra.map .ref⟩ rws.length))::(BJ nm ra rws++P0))):UX nm nY rws P0 L
noncomputable def js(nm:Nat→Str)(l:List Nat):Nat→Option Str
 | 0=>none
 | i+1=>some (nm (l.getD i 0))
def dB(P:Params)(nm:Nat→Str)(l:List Nat)(i:Nat):Obj:=Jd P (js nm l i)
def FG(l fu:List Nat):List Nat:=l.filter fun c=>decide (c∈fu)
theorem PA{l fu:List Nat}{i c:Nat}(h:l[i]?=some c):FG (l.take (i+1)) fu=if c∈fu then FG (l.take i) fu++[c] else FG (l.take i) fu:=by
 unfold FG
 rw [List.take_add_one,h,Option.toList_some,List.filter_append]
 by_cases hp:c∈fu
 ·simp [hp]
 ·simp [hp]
def Mc(P:Params)(nm:Nat→Str)(P0:Lp)(aI aN aA aK nT nv:Nat)(l fu:List Nat)(en ef:Nat)(i:Nat)(L:Lp):Prop:=
 L.Perm ([(aI,AW aN i),(aN,CG nm l en),(aA,CG nm (FG (l.take i) fu) (FG (l.take i) fu).length),(aK,dB P nm l i),(nT,AH nv),(nv,CG nm fu ef)]++P0)
section
variable{w:World}{b b2:Bool}{nm:Nat→Str}(inj:∀ a b,nm a=nm b→a=b)(P0:Lp)
include inj
theorem QR(nQ aN nu nY aI aE fr nT nv nW:Nat)(T:Nat)(l fu:List Nat)(ee ef:Nat)(rws:List (Nat×Nat))(X0:Str)(hr:rws.length+l.length < 900)(i:Nat)(hi:i < l.length) :
  A9 (wf w b b2) (A3 Aa) (QU w.2 aI fr nT nW) (QT w.2 nm P0 nQ aN nu nY aI aE fr nT nv T l fu ee ef rws X0 i) (fun e L=>e=.fin (.again (QU w.2 aI fr nT nW))∧QT w.2 nm P0 nQ aN nu nY aI aE fr nT nv T l fu ee ef rws X0 (i+1) L):=by
 have hp:l[i]?=some l[i]:=List.getElem?_eq_getElem hi
 have hv:(AL nm l)[i]?=some (.str (nm l[i]) 0):=by unfold AL; rw [List.getElem?_map,hp]; rfl
 have e2:l.getD i 0=l[i]:=by simp [List.getD,hp]
 have hF:CG nm fu ef=A0 (.seq ⟨BA (fu.map nm)⟩ ef):=by unfold CG; rw [Cw]
 have eX:QS nm l X0 (i+1)=nm l[i]:=by show nm (l.getD i 0)=_; rw [e2]
 have eN:=MD (fu:=fu) (T:=T) hp
 rintro L0 ⟨ra,oV,pm⟩
 have hln:=J5 (l.take i) fu T
 rw [List.length_take] at hln
 rw [List.length_append] at oV
 by_cases hx:l[i]∈fu
 ·rw [if_pos hx] at eN
  have dx:=Bu (nm:=nm) inj (decide_eq_true hx)
  rw [hF] at pm
  exact ((QK w b b2 aI aE fr nT nv nY nW nQ aN nu i (T:Nat) (QS nm l X0 i) (nm l[i]) _ _ (.seq ⟨ra.map .ref⟩ (rws++BV (l.take i) fu T).length) _ ee rfl hv _ ef rfl dx (fun L=>L=BJ nm ra (rws++BV (l.take i) fu T)++P0)).kp (oK:=fun L=>L=L0) (by rintro _ rfl; exact pm) (fun A1=>⟨_,.refl _,rfl,ra,by rw [eN,List.length_append]; exact oV,.of_eq (by rw [eX,eN,hF]; rfl)⟩)) L0 rfl
 ·rw [if_neg hx] at eN
  have dx:=Bu (nm:=nm) inj (decide_eq_false hx)
  rw [hF] at pm
  refine ((QL w b b2 aI aE fr nT nv nY nW nQ aN nu i (rws++BV (l.take i) fu T).length (ra.map .ref) (T:Nat) (QS nm l X0 i) (nm l[i]) _ _ _ (fun L=>L=BJ nm ra (rws++BV (l.take i) fu T)++P0) _ ee rfl hv _ ef rfl dx rfl (by rw [List.length_map]; lia)).kz (oK:=fun L=>L=L0) (by rintro _ rfl; exact pm) (fun z A1 hz=>?_)) L0 rfl
  have hz:z=.seq ⟨ra.map .ref++[.ref (A1 0)]⟩ ((rws++BV (l.take i) fu T).length+1):=hz
  subst hz
  refine ⟨_,.refl _,rfl,ra++[A1 0],by rw [eN]; simp; lia,?_⟩
  rw [eX,eN,show rws++(BV (l.take i) fu T++[(l[i],T)])=(rws++BV (l.take i) fu T)++[(l[i],T)] from (List.append_assoc _ _ _).symm,Iq (rws:=rws++BV (l.take i) fu T) (ra:=ra) (rb:=[A1 0]) (rv:=[(l[i],T)]) (by rw [List.length_append]; exact oV),List.map_append,hF]
  refine (fq _ _ _ _).trans (.of_eq ?_)
  rw [List.length_append (as:=rws++BV (l.take i) fu T)]
  rfl
theorem PV(nQ aN nu nY aI aE fr nT nv nW:Nat)(T:Nat)(l fu:List Nat)(ee ef:Nat)(rws:List (Nat×Nat))(X0:Str)(hr:rws.length+l.length < 900) :
  (bH w.2 nQ aN nu (T:Nat) X0 (QS nm l X0 l.length) aI aE fr nT nv nW nY (.seq ⟨AL nm l⟩ ee) (.seq ⟨AL nm fu⟩ ef) (BW (l.length:Nat)).data).nP (wf w b b2) (A3 Aa) (UX nm nY rws P0) (UX nm nY (rws++BV l fu T) P0):=by
 have fin:A9 (wf w b b2) (A3 Aa) (QU w.2 aI fr nT nW) (QT w.2 nm P0 nQ aN nu nY aI aE fr nT nv T l fu ee ef rws X0 l.length) (fun e L=>e=.fin (.done .next)∧∃ ra:List Nat,ra.length=(rws++BV l fu T).length∧L.Perm ([(aI,BW (l.length:Nat)),(aE,CG nm l ee),(fr,Ym w.2 nQ aN nu nY (QS nm l X0 l.length) T),(nT,AH nv),(nv,CG nm fu ef),(nY,A0 (.seq ⟨ra.map .ref⟩ (rws++BV l fu T).length))]++(BJ nm ra (rws++BV l fu T)++P0))):=by
  rintro L0 ⟨ra,oV,pm⟩
  rw [List.take_length] at oV pm
  refine (show A9 _ _ _ (fun L=>L.Perm ([(aI,AW aE l.length),(aE,CG nm l ee),(fr,Ym w.2 nQ aN nu nY (QS nm l X0 l.length) T),(nT,AH nv),(nv,CG nm fu ef),(nY,A0 (.seq ⟨ra.map .ref⟩ (rws++BV l fu T).length))]++(BJ nm ra (rws++BV l fu T)++P0))) _ from ?_) L0 pm
  exact Spec.nP.kp (QJ w b b2 aI aE fr nT nW l.length _ _ (AL nm l) ee rfl (by simp [AL]) rfl (fun L=>L=[(fr,Ym w.2 nQ aN nu nY (QS nm l X0 l.length) T),(nT,AH nv),(nv,CG nm fu ef),(nY,A0 (.seq ⟨ra.map .ref⟩ (rws++BV l fu T).length))]++(BJ nm ra (rws++BV l fu T)++P0))) (fun q p=>p) fun A1=>⟨_,.refl _,rfl,ra,oV,.refl _⟩
 have h:=A9.loop AI (by kernel_rfl) (by kernel_rfl) (fun i hi=>QR (w:=w) (b:=b) (b2:=b2) inj P0 nQ aN nu nY aI aE fr nT nv nW T l fu ee ef rws X0 hr i hi) fin l.length 0 (by lia)
 refine A9.qG h ?_ ?_
 ·rintro P ⟨ra,oV,pm⟩
  have e0:BV (l.take 0) fu T=[]:=by simp [BV]
  exact ⟨_,List.Perm.append_left _ pm,ra,by rw [e0,List.append_nil]; exact oV,.of_eq (by rw [e0,List.append_nil]; rfl)⟩
 ·rintro e L ⟨rfl,ra,oV,p⟩
  exact ⟨fun q=>0,_,⟨ra,oV,.refl _⟩,rfl,p⟩
theorem U3(aI aN aA aK nT nv fr:Nat)(l fu:List Nat)(en ef:Nat)(hl:l.length < 100)(i:Nat)(hi:i < l.length) :
  A9 (wf w b b2) (A3 Aa) (U4 w.2 aI aA aK nT fr) (Mc w.2 nm P0 aI aN aA aK nT nv l fu en ef i) (fun e L=>e=.fin (.again (U4 w.2 aI aA aK nT fr))∧Mc w.2 nm P0 aI aN aA aK nT nv l fu en ef (i+1) L):=by
 have hp:l[i]?=some l[i]:=List.getElem?_eq_getElem hi
 have hv:(AL nm l)[i]?=some (.str (nm l[i]) 0):=by unfold AL; rw [List.getElem?_map,hp]; rfl
 have e2:l.getD i 0=l[i]:=by simp [List.getD,hp]
 have hF:CG nm fu ef=A0 (.seq ⟨BA (fu.map nm)⟩ ef):=by unfold CG; rw [Cw]
 have eN:=PA (fu:=fu) hp
 have hsz:(AL nm (FG (l.take i) fu)).length≤sizeLine:=by
  have:=A5
  have h2:(FG (l.take i) fu).length≤(l.take i).length:=List.length_filter_le _ _
  unfold AL; rw [List.length_map]; rw [List.length_take] at h2; lia
 have eK:dB w.2 nm l (i+1)=AR [kE w.2 "name" (.str (nm l[i]) 0)] 1:=by
  show AR [kE w.2 "name" (.str (nm (l.getD i 0)) 0)] 1=_; rw [e2]
 unfold Mc
 rw [hF,eK]
 by_cases hx:l[i]∈fu
 ·rw [if_pos hx] at eN
  have dx:=Bu (nm:=nm) inj (decide_eq_true hx)
  have eD:CG nm (FG (l.take (i+1)) fu) (FG (l.take (i+1)) fu).length=A0 (.seq ⟨AL nm (FG (l.take i) fu)++[.str (nm l[i]) 0]⟩ ((FG (l.take i) fu).length+1)):=by
   rw [eN,DH]; unfold CG; simp
  rw [eD]
  exact Spec.nP.kp (U6 w b b2 aI aN aA aK nT nv (js nm l i) fr i (nm l[i]) _ _ _ _ _ en rfl hv _ ef rfl dx _ (FG (l.take i) fu).length rfl rfl hsz (fun L=>L=P0)) (fun q p=>p) fun A1=>⟨_,.refl _,rfl,.refl _⟩
 ·rw [if_neg hx] at eN
  have dx:=Bu (nm:=nm) inj (decide_eq_false hx)
  rw [eN]
  exact Spec.nP.kp (U7 w b b2 aI aN aA aK nT nv (js nm l i) fr i (nm l[i]) _ (.seq ⟨AL nm (FG (l.take i) fu)⟩ (FG (l.take i) fu).length) _ _ en rfl hv _ ef rfl dx (fun L=>L=P0)) (fun q p=>p) fun A1=>⟨_,.refl _,rfl,.refl _⟩
theorem YA(aI aN aA aK nT nv fr:Nat)(l fu:List Nat)(en ef:Nat)(hl:l.length < 100){n:Nat}(hn:l.length=n+1) :
  (XO w.2 aI aN aA aK nT nv fr (nm (l.getD n 0)) (.seq ⟨AL nm l⟩ en) (.seq ⟨AL nm (FG l fu)⟩ (FG l fu).length) (.seq ⟨AL nm fu⟩ ef) (BW (l.length:Nat)).data).nP (wf w b b2) (A3 Aa) (fun L=>L=P0) (fun L=>L=P0):=by
 have fin:A9 (wf w b b2) (A3 Aa) (U4 w.2 aI aA aK nT fr) (Mc w.2 nm P0 aI aN aA aK nT nv l fu en ef l.length) (fun e L=>e=.fin (.done .next)∧L.Perm ([(aI,BW (l.length:Nat)),(aN,CG nm l en),(aA,CG nm (FG l fu) (FG l fu).length),(aK,dB w.2 nm l l.length),(nT,AH nv),(nv,CG nm fu ef)]++P0)):=by
  unfold Mc
  rw [List.take_length]
  exact Spec.nP.kp (U5 w b b2 aI aN aA aK nT fr l.length _ _ (AL nm l) en rfl (by simp [AL]) rfl (fun L=>L=[(aA,CG nm (FG l fu) (FG l fu).length),(aK,dB w.2 nm l l.length),(nT,AH nv),(nv,CG nm fu ef)]++P0)) (fun q p=>p) fun A1=>⟨_,.refl _,rfl,.refl _⟩
 have h:=A9.loop AI (by kernel_rfl) (by kernel_rfl) (fun i hi=>U3 (w:=w) (b:=b) (b2:=b2) inj P0 aI aN aA aK nT nv fr l fu en ef hl i hi) fin l.length 0 (by lia)
 have hz:=Spec.nP.r6 (M:=fun L=>Mc w.2 nm P0 aI aN aA aK nT nv l fu en ef 0 L) (Po w b b2 aI aA aK nT fr aN (.seq #[] 0) (fun L=>L=(aN,CG nm l en)::([(nT,AH nv),(nv,CG nm fu ef)]++P0))) AI (by kernel_rfl) (fun q=>rfl) (fun A1=>⟨_,.refl _,(I4 _ _ _ _ _).symm⟩) h
 refine A9.qG (S:=XO w.2 aI aN aA aK nT nv fr (nm (l.getD n 0)) (.seq ⟨AL nm l⟩ en) (.seq ⟨AL nm (FG l fu)⟩ (FG l fu).length) (.seq ⟨AL nm fu⟩ ef) (BW (l.length:Nat)).data) hz ?_ ?_
 ·rintro P rfl
  exact ⟨_,I4 _ _ _ _ _,_,rfl,rfl⟩
 ·rintro e L ⟨rfl,p⟩
  rw [hn] at p
  exact ⟨fun q=>0,_,rfl,rfl,by rw [hn]; exact p⟩
end
end
section
def Ae(names:List Nat)(nO:List (Nat×Nat)):Nat→List Nat×List (Nat×Nat)
 | 0=>(names,[])
 | i+1=>(FG names (By nO (Ae names nO i).1),(Ae names nO i).2++BV (Ae names nO i).1 (By nO (Ae names nO i).1) i)
def VI(names:List Nat)(nO:List (Nat×Nat))(x0:Nat):Nat→Nat
 | 0=>x0
 | i+1=>((Ae names nO i).1.getLast?).getD (VI names nO x0 i)
theorem Ig(nm:Nat→Str)(l:List Nat)(x:Nat):QS nm l (nm x) l.length=nm (l.getLast?.getD x):=by
 rcases List.eq_nil_or_concat l with rfl | ⟨m,y,rfl⟩
 ·rfl
 ·rw [List.concat_eq_append,List.length_append,List.length_singleton,List.getLast?_append]
  show nm ((m++[y]).getD m.length 0)=_
  simp
theorem Spec.nP.all{S:Spec}{w:World}{Sh:Pos→List Frame→Prop}{I:Lp→Prop}(h:∀ P,I P→S.nP w Sh (fun L=>L=P) (fun L=>L=P)):S.nP w Sh I I:=
 fun P hP=>(h P hP P rfl).nV (fun q e=>e) fun e L ⟨A,P',hO,a,b,c⟩=>⟨A,P',by rw [hO]; exact hP,a,b,c⟩
theorem Ie(names:List Nat)(nO:List (Nat×Nat)):∀ i,(Ae names nO i).1.length≤names.length∧(Ae names nO i).2.length≤i*names.length
 | 0=>⟨Nat.le_refl _,Nat.zero_le _⟩
 | i+1=>by
  have ih:=Ie names nO i
  refine ⟨List.length_filter_le _ _,?_⟩
  show ((Ae names nO i).2++BV (Ae names nO i).1 (By nO (Ae names nO i).1) i).length≤_
  have:=J5 (Ae names nO i).1 (By nO (Ae names nO i).1) i
  rw [List.length_append,Nat.succ_mul]; lia
theorem Kc{nm:Nat→Str}{nY:Nat}{rws:List (Nat×Nat)}{P0 L X:Lp}(h:UX nm nY rws P0 L):UX nm nY rws (P0++X) (L++X):=by
 obtain ⟨ra,oV,p⟩:=h
 exact ⟨ra,oV,(p.append_right X).trans (.of_eq (by simp only [List.append_assoc,List.cons_append]))⟩
theorem fe{α:Type}{P T R:List α}(q:α)(r:List α)(h:P.Perm (q::(r++(T++R)))):P.Perm (T++(q::(r++R))):=
 Df [P,T,[q],r,R] (.l 0) (.r [1,2,3] (.l 4)) (.l 0) (.r [2,3,1] (.l 4)) h rfl
theorem fc{α:Type}{K N P:List α}(i f s n c e a u:α)(hK:K.Perm ([i,f,s,n,c,e]++P))(hN:N.Perm [a,u]):(K++N).Perm ([i,f,s,n,c,e,a]++(P++[u])):=
 Df [K,N,[i],[f],[s],[n],[c],[e],[a],P,[u]] (.r [0] (.l 1)) (.a (.q [2,3,4,5,6,7,8]) (.a (.l 9) (.q [10]))) (.r [0] (.l 1)) (.a (.a (.q [2,3,4,5,6,7]) (.l 9)) (.q [8,10])) (hK.append hN) rfl
theorem fb{α:Type}(i f s n c e a:α)(P:List α):([i,f,s,n,c,e,a]++P).Perm (([i,f,s,n,c,e]++(P++[a]))++[]):=
 FQ [[i],[f],[s],[n],[c],[e],[a],P] (.a (.q [0,1,2,3,4,5,6]) (.l 7)) (.a (.a (.q [0,1,2,3,4,5]) (.a (.l 7) (.q [6]))) (.n)) rfl
theorem fa{α:Type}{K N P:List α}(i f s n c e:α)(hK:K.Perm ([i,f,s,n,c,e]++P)):(K++N).Perm ([i]++([f,s,n,c,e]++(P++N))):=
 Df [K,N,[i],[f],[s],[n],[c],[e],P] (.r [0] (.l 1)) (.a (.q [2]) (.a (.q [3,4,5,6,7]) (.r [8] (.l 1)))) (.l 0) (.a (.q [2,3,4,5,6,7]) (.l 8)) hK rfl
theorem fZ{α:Type}(i f s n c e:α)(P N:List α):([i]++([f,s,n,c,e]++(P++N))).Perm (([i,f,s,n,c,e]++P)++N):=
 FQ [[i],[f],[s],[n],[c],[e],P,N] (.a (.q [0]) (.a (.q [1,2,3,4,5]) (.r [6] (.l 7)))) (.a (.a (.q [0,1,2,3,4,5]) (.l 6)) (.l 7)) rfl
def dq(P:Params)(nm:Nat→Str)(nQ aN nu nY x:Nat):Obj:=C3 (.dict ⟨QH P nQ aN nu (nm x) nY⟩ 5)
inductive Aw (P:Params) (nm:Nat→Str) (nU:List Nat) (nO:List (Nat×Nat)) (e0 en nZ fr nQ aN nY nT nW nu x0:Nat) (names:List Nat) (K:Lp):Prop
 | mk (Pv R:Lp) (h0:UX nm nY [] (AN nm nU nO++R) Pv) (h1:K.Perm ([(nZ,B2 0 names.length 1),(fr,dq P nm nQ aN nu nY x0),(nQ,A0 (.seq ⟨nU.map .ref⟩ e0)),(aN,CG nm names en),(nT,Y8 (.cell none)),(nW,AH aN)]++Pv)):Aw P nm nU nO e0 en nZ fr nQ aN nY nT nW nu x0 names K
inductive Bw (P:Params) (nm:Nat→Str) (nU:List Nat) (nO:List (Nat×Nat)) (e0 en nZ fr nQ aN nY nT nW nu x0:Nat) (names:List Nat) (i:Nat) (K N:Lp):Prop
 | mk (aE nv:Nat) (Pv R:Lp) (h0:UX nm nY (Ae names nO (i+1)).2 (AN nm nU nO++R) Pv) (h1:N.Perm [(aE,CG nm (Ae names nO (i+1)).1 (Ae names nO (i+1)).1.length),(nv,CG nm (By nO (Ae names nO i).1) (By nO (Ae names nO i).1).length)]) (h2:K.Perm ([(nZ,B2 ((i+1:Nat):Int) ((names.length:Int)-((i+1:Nat):Int)) 1),(fr,Ym P nQ aN nu nY (nm (VI names nO x0 (i+1))) i),(nQ,A0 (.seq ⟨nU.map .ref⟩ e0)),(aN,CG nm names en),(nT,AH nv),(nW,AH aE)]++Pv)):Bw P nm nU nO e0 en nZ fr nQ aN nY nT nW nu x0 names i K N
theorem ZL{α:Type}(i f s n o c e:α)(P:List α):([i,f,s,n,o,c,e]++P).Perm ([i,f,s,n,c,e]++(o::P)):=
 FQ [[i],[f],[s],[n],[o],[c],[e],P] (.a (.q [0,1,2,3,4,5,6]) (.l 7)) (.a (.q [0,1,2,3,5,6]) (.r [4] (.l 7))) rfl
theorem fY{α:Type}(i f s n o c e:α)(P:List α):([i,f,s,n,c,e]++(o::P)).Perm ([i,f,s,n,o,c,e]++P):=(ZL _ _ _ _ _ _ _ _).symm
section
variable{w:World}{b b2:Bool}{nm:Nat→Str}(inj:∀ a b,nm a=nm b→a=b){nU:List Nat}{nO:List (Nat×Nat)}(hl:nU.length=nO.length)(hs:nO.length < 20){n0:Nat}(pj:nO.length=n0+1){names:List Nat}{nn:Nat}(pT:names.length=nn+1)(ou:names.length < 20)(e0 en nZ fr nQ aN nY nT nW nu x0:Nat)
include inj hl hs pj pT ou
theorem N0(rws:List (Nat×Nat))(R:Lp)(aE:Nat)(ends:List Nat)(ee:Nat)(aI aA aK:Nat) :
  (XQ w.2 aI nQ aA aK nW aE fr (nm (nO.getD n0 (0,0)).1) (nm (nO.getD n0 (0,0)).2) (.seq ⟨nU.map .ref⟩ e0) (.seq ⟨AL nm (By nO ends)⟩ (By nO ends).length) (.seq ⟨AL nm ends⟩ ee) (BW (nO.length:Nat)).data).nP (wf w b b2) (A3 Aa) (UX nm nY rws (AN nm nU nO++R)) (UX nm nY rws (AN nm nU nO++R)):=
 Spec.nP.all fun P ⟨ra,oV,p⟩=>YC inj hl (by lia) (fe _ _ p) e0 nQ pj aI aA aK nW aE fr ends ee
theorem M'(J:Lp→Prop)(fu:List Nat)(ef:Nat)(aI aA aK nv:Nat) :
  (XO w.2 aI aN aA aK nT nv fr (nm (names.getD nn 0)) (.seq ⟨AL nm names⟩ en) (.seq ⟨AL nm (FG names fu)⟩ (FG names fu).length) (.seq ⟨AL nm fu⟩ ef) (BW (names.length:Nat)).data).nP (wf w b b2) (A3 Aa) J J:=
 Spec.nP.all fun P q=>YA inj P aI aN aA aK nT nv fr names fu en ef (by lia) pT
theorem N4 :
  Bg (wf w b b2) (A3 B1) (Mi w.2 nZ fr nT nW) (fun K N=>Aw w.2 nm nU nO e0 en nZ fr nQ aN nY nT nW nu x0 names K∧N=[])
   (fun e K N=>e=.fin (.again (Mi w.2 nZ fr nT nW))∧Bw w.2 nm nU nO e0 en nZ fr nQ aN nY nT nW nu x0 names 0 K N):=by
 rintro K N ⟨⟨Pv,R,hR,hK⟩,rfl⟩
 have qx:=fun aI aA aK=>N0 (w:=w) (b:=b) (b2:=b2) inj hl hs pj pT ou e0 fr nQ nY nW [] R aN names en aI aA aK
 have qd:=fun aI nv=>PV (w:=w) (b:=b) (b2:=b2) inj (AN nm nU nO++R) nQ aN nu nY aI aN fr nT nv nW 0 names (By nO names) en (By nO names).length [] (nm x0) (by simp; lia)
 rw [Ig] at qd
 have pO:=fun J aI aA aK nv=>M' (w:=w) (b:=b) (b2:=b2) inj hl hs pj pT ou en fr aN nT J (By nO names) (By nO names).length aI aA aK nv
 have h:=QW w b b2 nZ fr nQ aN nT nW nu nY 0 0 0 nn (nm x0) _ _ _ _ _ _ _ _ (.seq ⟨nU.map .ref⟩ e0) _ (.seq ⟨AL nm names⟩ en) _ _ _ _ _ rfl rfl rfl qx qd (pO _)
 refine Aj.q (T:=[]) (Spec.nX.n (Spec.nP.d h)) ⟨Pv,hR,rfl⟩ (by rw [List.append_nil,pT] at *; exact hK) (fun a m=>m) ?_
 rintro e Lk Ln ⟨_,A1,P',hP',rfl,rfl,rfl⟩
 refine ⟨_,.of_eq (List.append_nil _).symm,rfl,A1 1,A1 0,P',R,hP',.swap _ _ _,.of_eq ?_⟩
 unfold cH
 rw [show (0:Int)+1=((0+1:Nat):Int) from rfl,show (((nn+1:Nat):Int)-1)=(names.length:Int)-((0+1:Nat):Int) from by rw [pT]; lia]
 rfl
omit inj hl hs pj pT ou in
theorem LH(a b:Nat):((a+b:Nat):Int)-(a:Nat)=b:=by rw [Int.natCast_add,Int.add_comm]; exact Int.add_sub_cancel _ _
theorem QX(i:Nat)(hi:i+1 < names.length) :
  Bg (wf w b b2) (A3 B1) (Mi w.2 nZ fr nT nW) (Bw w.2 nm nU nO e0 en nZ fr nQ aN nY nT nW nu x0 names i)
   (fun e K N=>e=.fin (.again (Mi w.2 nZ fr nT nW))∧Bw w.2 nm nU nO e0 en nZ fr nQ aN nY nT nW nu x0 names (i+1) K N):=by
 rintro K N ⟨aE,nv,Pv,R,hR,hN,hK⟩
 obtain ⟨k,hk⟩:∃ k:Nat,names.length=(i+1)+(k+1):=Nat.exists_eq_add_of_lt hi
 have hle:=Ie names nO (i+1)
 have hm:(i+1)*names.length≤20*20:=Nat.mul_le_mul (by lia) (by lia)
 have qx:=fun R aI aA aK=>N0 (w:=w) (b:=b) (b2:=b2) inj hl hs pj pT ou e0 fr nQ nY nW (Ae names nO (i+1)).2 R aE (Ae names nO (i+1)).1 (Ae names nO (i+1)).1.length aI aA aK
 have qd:=fun R aI nv=>PV (w:=w) (b:=b) (b2:=b2) inj (AN nm nU nO++R) nQ aN nu nY aI aE fr nT nv nW (i+1) (Ae names nO (i+1)).1 (By nO (Ae names nO (i+1)).1) (Ae names nO (i+1)).1.length (By nO (Ae names nO (i+1)).1).length (Ae names nO (i+1)).2 (nm (VI names nO x0 (i+1))) (by lia)
 rw [Ig] at qd
 have pO:=fun J aI aA aK nv=>M' (w:=w) (b:=b) (b2:=b2) inj hl hs pj pT ou en fr aN nT J (By nO (Ae names nO (i+1)).1) (By nO (Ae names nO (i+1)).1).length aI aA aK nv
 have h:=QV w b b2 nZ fr nQ aN nT nW aE nu nY nv (i:Nat) ((i+1:Nat):Int) k (nm (VI names nO x0 (i+1))) _ _ _ _ _ _ _ (.seq ⟨nU.map .ref⟩ e0) _ (.seq ⟨AL nm names⟩ en) _ (.seq ⟨AL nm (Ae names nO (i+1)).1⟩ (Ae names nO (i+1)).1.length) _ _ _ _ _ _ rfl rfl rfl rfl (qx (R++[(nv,CG nm (By nO (Ae names nO i).1) (By nO (Ae names nO i).1).length)])) (qd _) (pO _)
 have rq:=Kc (X:=[(nv,CG nm (By nO (Ae names nO i).1) (By nO (Ae names nO i).1).length)]) hR
 rw [List.append_assoc] at rq
 refine Aj.q (T:=[]) (Spec.nX.n (Spec.nP.d h)) ⟨_,rq,rfl⟩ ((fc _ _ _ _ _ _ _ _ hK hN).trans (.of_eq ?_)) (fun a m=>by cases m) ?_
 ·unfold Spec.oH cG
  rw [hk,LH]
  rfl
 ·rintro e Lk Ln ⟨_,A1,P',hP',rfl,rfl,rfl⟩
  have hP2:=Kc (X:=[(aE,CG nm (Ae names nO (i+1)).1 (Ae names nO (i+1)).1.length)]) hP'
  rw [List.append_assoc] at hP2
  refine ⟨_,fb _ _ _ _ _ _ _ _,rfl,A1 1,A1 0,_,_,hP2,.swap _ _ _,.of_eq ?_⟩
  rw [show (((k+1:Nat):Int)-1)=(names.length:Int)-((i+1+1:Nat):Int) by rw [hk,show i+1+(k+1)=i+1+1+k from (Nat.add_right_comm _ 1 k).symm,LH,Int.natCast_add]; exact Int.add_sub_cancel _ _,show ((i+1:Nat):Int)+1=((i+1+1:Nat):Int) from rfl]
  rfl
theorem VN(i:Nat)(hi:i+1=names.length) :
  Bg (wf w b b2) (A3 B1) (Mi w.2 nZ fr nT nW) (Bw w.2 nm nU nO e0 en nZ fr nQ aN nY nT nW nu x0 names i)
   (fun e K N=>e=.fin (.done .next)∧Bw w.2 nm nU nO e0 en nZ fr nQ aN nY nT nW nu x0 names i K N):=by
 rintro K N ⟨aE,nv,Pv,R,hR,hN,hK⟩
 have e1:((names.length:Int)-((i+1:Nat):Int))=0:=by lia
 refine Aj.q (T:=N) (Spec.nX.n (Spec.nP.d (QZ w b b2 nZ fr nT nW ((i+1:Nat):Int) (fun L=>L=[(fr,Ym w.2 nQ aN nu nY (nm (VI names nO x0 (i+1))) i),(nQ,A0 (.seq ⟨nU.map .ref⟩ e0)),(aN,CG nm names en),(nT,AH nv),(nW,AH aE)]++(Pv++N))))) ⟨_,rfl,rfl⟩ ((fa _ _ _ _ _ _ hK).trans (.of_eq (by rw [e1]; first | done | rfl))) (fun a m=>m) ?_
 rintro e Lk Ln ⟨_,A1,P',rfl,rfl,rfl,rfl⟩
 exact ⟨_,fZ _ _ _ _ _ _ _ _,rfl,aE,nv,Pv,R,hR,(List.Perm.of_eq (List.append_nil _)).trans hN,.of_eq (by rw [e1]; first | done | rfl)⟩
theorem QY:∀ (m i:Nat),i+1+m=names.length→
  Bg (wf w b b2) (A3 B1) (Mi w.2 nZ fr nT nW) (Bw w.2 nm nU nO e0 en nZ fr nQ aN nY nT nW nu x0 names i)
   (fun e K N=>e=.fin (.done .next)∧Bw w.2 nm nU nO e0 en nZ fr nQ aN nY nT nW nu x0 names nn K N):=by
 intro m
 induction m with
 | zero=>
  intro i hi
  have:i=nn:=by lia
  subst this
  exact VN inj hl hs pj pT ou e0 en nZ fr nQ aN nY nT nW nu x0 i (by lia)
 | succ m ih=>
  intro i hi
  have ht:=QX (w:=w) (b:=b) (b2:=b2) inj hl hs pj pT ou e0 en nZ fr nQ aN nY nT nW nu x0 i (by lia)
  exact Bg.go AI (by kernel_rfl) ht (ih (i+1) (by lia))
theorem VO :
  Spec.nX (Mh w.2 nZ fr nQ aN nY nT nW nu names.length (nm x0) (nm (VI names nO x0 names.length)) (nn:Nat) (.seq ⟨nU.map .ref⟩ e0) (.seq ⟨AL nm names⟩ en) (.seq ⟨AL nm (Ae names nO names.length).1⟩ (Ae names nO names.length).1.length) (.seq ⟨AL nm (By nO (Ae names nO nn).1)⟩ (By nO (Ae names nO nn).1).length)) (fun z q P=>dR nm nU nO (Ae names nO names.length).2 z P)
   (Mh w.2 nZ fr nQ aN nY nT nW nu names.length (nm x0) (nm (VI names nO x0 names.length)) (nn:Nat) (.seq ⟨nU.map .ref⟩ e0) (.seq ⟨AL nm names⟩ en) (.seq ⟨AL nm (Ae names nO names.length).1⟩ (Ae names nO names.length).1.length) (.seq ⟨AL nm (By nO (Ae names nO nn).1)⟩ (By nO (Ae names nO nn).1).length) .plain) (wf w b b2) (A3 B1) (fun L=>∃ R,L.Perm (AN nm nU nO++R)):=by
 have hA:=N4 (w:=w) (b:=b) (b2:=b2) inj hl hs pj pT ou e0 en nZ fr nQ aN nY nT nW nu x0
 have hL:=QY (w:=w) (b:=b) (b2:=b2) inj hl hs pj pT ou e0 en nZ fr nQ aN nY nT nW nu x0 nn 0 (by lia)
 have e1:((names.length:Int)-((nn+1:Nat):Int))=0:=by rw [pT]; exact Int.sub_self _
 refine Bg.pR (Bg.go AI (by kernel_rfl) hA hL) (fun P ⟨R,hP⟩=>⟨_,ZL _ _ _ _ _ _ _ P,_,R,⟨[],rfl,.cons _ hP⟩,.refl _⟩) ?_
 rintro e K N ⟨he,aE,nv,Pv,R,⟨ra,oV,hP⟩,hN,hK⟩
 rw [e1] at hK
 rw [← pT] at hK hN oV hP
 exact ⟨.seq ⟨ra.map .ref⟩ (Ae names nO names.length).2.length,(fun j=>match j with | 0=>aE | _=>nv),_,[],⟨ra,R,oV,rfl,.of_eq (List.append_nil _)⟩,he,(hK.trans (.append_left _ hP)).trans (fY _ _ _ _ _ _ _ _),hN.trans (.of_eq (List.append_nil _).symm)⟩
end
end
def EF(nO:List (Nat×Nat)):Bool×List (Nat×Nat):=((Ae (BY nO) nO (BY nO).length).1.isEmpty,(Ae (BY nO) nO (BY nO).length).2)
def kT(P:Params)(nm:Nat→Str)(nU:List Nat)(nO:List (Nat×Nat))(nQ e0:Nat):Data→Spec:=
 Z7 (.call (.ref 940) ⟨[.ref nQ],[]⟩) [nQ] [A0 (.seq ⟨nU.map .ref⟩ e0)] [.func,.bi "claim.caller" 0] nm nU nO
set_option tactic.hygienic true in
theorem UM(l:List Nat)(x:Nat):Eg l x≠[]:=by
 unfold Eg
 split
 ·rename_i h; exact List.ne_nil_of_mem h
 ·simp
theorem VJ{nO:List (Nat×Nat)}(h:nO≠[]):BY nO≠[]:=by
 rcases List.eq_nil_or_concat nO with rfl | ⟨m,y,rfl⟩
 ·exact absurd rfl h
 ·rw [List.concat_eq_append]
  unfold BY
  rw [List.foldl_append]
  exact UM _ _
theorem VH{w:World}{b b2:Bool}(f:Bool){nU:List Nat}{nO:List (Nat×Nat)}(hl:nU.length=nO.length)(hs:nO.length < 8)(oQ:nO≠[]){wh:Bool}{rows:List (Nat×Nat)}(qU:EF nO=(wh,rows))(oX:∀ c∈rows.map (·.1),c < 4)(qH:(rows.map (·.1)).Nodup)(qW:rows.length≤4)(nQ e0:Nat) :
  Spec.nX (kT w.2 (AE f) nU nO nQ e0) (fun z q P'=>RT (AE f) wh (Bl rows) z P') (kT w.2 (AE f) nU nO nQ e0 .plain) (wf w b b2) (A3 [.func,.bi "claim.caller" 0]) (fun q=>True):=by
 have inj:=Fn f
 obtain ⟨n0,pj⟩:∃ n0,nO.length=n0+1:=⟨nO.length-1,by have:=List.length_pos_iff.mpr oQ; lia⟩
 obtain ⟨nn,pT⟩:∃ nn,(BY nO).length=nn+1:=⟨(BY nO).length-1,by have:=List.length_pos_iff.mpr (VJ oQ); lia⟩
 have ou:(BY nO).length < 20:=by have:=KY nO; lia
 have e1:(Ae (BY nO) nO (BY nO).length).1.isEmpty=wh:=congrArg (·.1) qU
 have e2:(Ae (BY nO) nO (BY nO).length).2=rows:=congrArg (·.2) qU
 have rA:=fun aI fr nT nW aN=>Spec.nP.all (I:=fun L=>∃ R,L.Perm (AN (AE f) nU nO++R)) fun P ⟨R,hP⟩=>VP (w:=w) (b:=b) (b2:=b2) inj hl (by lia) hP e0 nQ pj aI fr nT nW aN
 have qk:=fun nZ fr aN nY nT nW=>VO (w:=w) (b:=b) (b2:=b2) inj hl (by lia) pj pT ou e0 (BY nO).length nZ fr nQ aN nY nT nW (nU.getD n0 0) (nO.getD n0 (0,0)).2
 rw [e2] at qk
 have q6:=fun z aR=>Kb (w:=w) (b:=b) (b2:=b2) f (nU:=nU) (nO:=nO) oX qH qW z aR
 have rC:((AL (AE f) (BY nO)).length:Int)=((BY nO).length:Nat):=by unfold AL; rw [List.length_map]
 generalize hE:(Ae (BY nO) nO (BY nO).length).1=ends at qk e1
 cases ends with
 | nil=>
  obtain rfl:true=wh:=e1
  exact I0 (as:=[nQ]) (os:=[A0 (.seq ⟨nU.map .ref⟩ e0)]) hl rfl (fun R=>⟨R,.refl _⟩) rfl rfl rfl (fun q=>rfl) (fun q q=>rfl) (fun q q=>rfl) (fun q q=>rfl) (QP w b b2 nQ (nU.getD n0 0) (BY nO).length 0 (AE f (nO.getD n0 (0,0)).2) _ _ (.seq ⟨nU.map .ref⟩ e0) .plain _ (.seq ⟨AL (AE f) (BY nO)⟩ (BY nO).length) _ _ _ _ _ rfl (AL (AE f) (BY nO)) (BY nO).length rfl rC (by lia) rA qk q6)
 | cons c cs=>
  obtain rfl:false=wh:=e1
  exact I0 (as:=[nQ]) (os:=[A0 (.seq ⟨nU.map .ref⟩ e0)]) hl rfl (fun R=>⟨R,.refl _⟩) rfl rfl rfl (fun q=>rfl) (fun q q=>rfl) (fun q q=>rfl) (fun q q=>rfl) (QQ w b b2 nQ (AE f c) (AL (AE f) cs) (nU.getD n0 0) (BY nO).length (cs.length+1) (AE f (nO.getD n0 (0,0)).2) _ _ (.seq ⟨nU.map .ref⟩ e0) .plain _ (.seq ⟨AL (AE f) (BY nO)⟩ (BY nO).length) _ _ _ _ _ rfl (AL (AE f) (BY nO)) (BY nO).length rfl rC (by lia) rA qk q6)
noncomputable def NK:List Sh:=[.comp,.func,.func,.bi "claim.caller" 0]
def CB:List Sh:=.func::NK
def BS(P:Params)(fr:Nat):Code:=kU ((Cd (Ea (iA P))).getD 5 (.Pass default)) (AS P 76 iA fr)
def MP(P:Params)(r d:List Nat)(i:Nat):Obj:=cu [kE P "resp" (.str ⟨⟨r⟩⟩ 0),kE P "dirname" (.str ⟨⟨d⟩⟩ 0),kE P "i" (.int i 0),kE P "n" (.int r.length 0)] 4
def nS(P:Params)(r d:List Nat)(i c:Nat):Obj:=cu [kE P "resp" (.str ⟨⟨r⟩⟩ 0),kE P "dirname" (.str ⟨⟨d⟩⟩ 0),kE P "i" (.int i 0),kE P "n" (.int r.length 0),kE P "c" (.str ⟨⟨[c]⟩⟩ 0)] 5
def n4(P:Params)(fr:Nat)(tx dn:List Nat)(i c e k:Nat):Spec:=⟨BS P fr,[fr],[MP P tx dn i],CB,fun A=>.fin (.again (BS P fr)),fun A=>[nS P tx (dn++[c]) (i+1) c],fun A=>[]⟩
theorem Ri(fr:Nat)(tx dn:List Nat)(i c e k:Nat)(h:tx[i]?=some c)(hc:c≠34)(hs:tx.length≤sizeLine)(hd:dn.length+1≤sizeLine)(hi:i < tx.length)(I:Lp→Prop):(n4 w.2 fr tx dn i c e k).nP (wf w b b2) (A3 (CB)) (I) (I):=by
 refine BQ (Af [K5 i tx.length true,ET tx i c,ID ⟨⟨[c]⟩⟩ ⟨⟨[34]⟩⟩ false,HU dn [c] (dn++[c])]) 4 [] (hD 3 14 2391484) 0 [0,1,0] 0 (fun E0 ke=>?_)
 exact .q (Ba (decide_eq_true (by lia))) fun z z z=>.q (BG h hs) fun z z z=>.q (CP (by simpa using hc)) fun z z z=>.q (DC (by simpa using hd) rfl) fun z z z=>.nh ke rfl
def my(P:Params)(fr:Nat)(tx dn:List Nat)(i c e k:Nat):Spec:=⟨BS P fr,[fr],[MP P tx dn i],CB,fun A=>.fin (.again (BS P fr)),fun A=>[nS P tx (dn++[34]) (i+1+1) 34],fun A=>[]⟩
theorem Rg(fr:Nat)(tx dn:List Nat)(i c e k:Nat)(h:tx[i]?=some 34)(h':tx[i+1]?=some 34)(hs:tx.length≤sizeLine)(hd:dn.length+1≤sizeLine)(hi:i+1 < tx.length)(I:Lp→Prop):(my w.2 fr tx dn i c e k).nP (wf w b b2) (A3 (CB)) (I) (I):=by
 refine BQ (Af [K5 i tx.length true,ET tx i 34,ID ⟨⟨[34]⟩⟩ ⟨⟨[34]⟩⟩ true,Mn ((i+1:Nat):Int) tx.length false,ET tx (i+1) 34,O0 ⟨⟨[34]⟩⟩ ⟨⟨[34]⟩⟩ false,HU dn [34] (dn++[34])]) 7 [] (hD 3 21 5230176601) 0 [0,1,0,0,0,1] 0 (fun E0 ke=>?_)
 exact .q (Ba (decide_eq_true (by lia))) fun z z z=>.q (BG h hs) fun z z z=>.q (CP rfl) fun z z z=>.q (CE (decide_eq_false (by lia))) fun z z z=>.q (BG h' hs) fun z z z=>.q (Fj rfl) fun z z z=>.q (DC (by simpa using hd) rfl) fun z z z=>.nh ke rfl
def mw(P:Params)(fr:Nat)(tx dn:List Nat)(i c e k:Nat):Spec:=⟨BS P fr,[fr],[MP P tx dn i],CB,fun A=>.fin (.done .next),fun A=>[nS P tx dn (i+1) 34],fun A=>[]⟩
theorem Rd(fr:Nat)(tx dn:List Nat)(i c e k:Nat)(h:tx[i]?=some 34)(hs:tx.length≤sizeLine)(hi:i+1=tx.length)(I:Lp→Prop):(mw w.2 fr tx dn i c e k).nP (wf w b b2) (A3 (CB)) (I) (I):=by
 refine BQ (Af [K5 i tx.length true,ET tx i 34,ID ⟨⟨[34]⟩⟩ ⟨⟨[34]⟩⟩ true,Mn ((i+1:Nat):Int) tx.length true]) 4 [] (hD 3 12 265720) 0 [0,1,0] 0 (fun E0 ke=>?_)
 exact .q (Ba (decide_eq_true (by lia))) fun z z z=>.q (BG h hs) fun z z z=>.q (CP rfl) fun z z z=>.q (CE (decide_eq_true (by lia))) fun z z z=>.nh ke rfl
def mq(P:Params)(fr:Nat)(tx dn:List Nat)(i c e k:Nat):Spec:=⟨BS P fr,[fr],[MP P tx dn i],CB,fun A=>.fin (.done .next),fun A=>[nS P tx dn (i+1) 34],fun A=>[]⟩
theorem RZ(fr:Nat)(tx dn:List Nat)(i c e k:Nat)(h:tx[i]?=some 34)(h':tx[i+1]?=some e)(he:e≠34)(hs:tx.length≤sizeLine)(hi:i+1 < tx.length)(I:Lp→Prop):(mq w.2 fr tx dn i c e k).nP (wf w b b2) (A3 (CB)) (I) (I):=by
 refine BQ (Af [K5 i tx.length true,ET tx i 34,ID ⟨⟨[34]⟩⟩ ⟨⟨[34]⟩⟩ true,Mn ((i+1:Nat):Int) tx.length false,ET tx (i+1) e,O0 ⟨⟨[e]⟩⟩ ⟨⟨[34]⟩⟩ true]) 6 [] (hD 3 14 2391484) 0 [0,1,0,0,0] 0 (fun E0 ke=>?_)
 exact .q (Ba (decide_eq_true (by lia))) fun z z z=>.q (BG h hs) fun z z z=>.q (CP rfl) fun z z z=>.q (CE (decide_eq_false (by lia))) fun z z z=>.q (BG h' hs) fun z z z=>.q (Fj (by simpa using he)) fun z z z=>.nh ke rfl
def mz(P:Params)(fr:Nat)(tx dn:List Nat)(i c e k:Nat):Spec:=⟨BS P fr,[fr],[nS P tx dn i k],CB,fun A=>.fin (.again (BS P fr)),fun A=>[nS P tx (dn++[c]) (i+1) c],fun A=>[]⟩
theorem Rh(fr:Nat)(tx dn:List Nat)(i c e k:Nat)(h:tx[i]?=some c)(hc:c≠34)(hs:tx.length≤sizeLine)(hd:dn.length+1≤sizeLine)(hi:i < tx.length)(I:Lp→Prop):(mz w.2 fr tx dn i c e k).nP (wf w b b2) (A3 (CB)) (I) (I):=by
 refine BQ (Af [K5 i tx.length true,ET tx i c,ID ⟨⟨[c]⟩⟩ ⟨⟨[34]⟩⟩ false,HU dn [c] (dn++[c])]) 4 [] (hD 3 14 2391484) 0 [0,1,0] 0 (fun E0 ke=>?_)
 exact .q (Ba (decide_eq_true (by lia))) fun z z z=>.q (BG h hs) fun z z z=>.q (CP (by simpa using hc)) fun z z z=>.q (DC (by simpa using hd) rfl) fun z z z=>.nh ke rfl
def mx(P:Params)(fr:Nat)(tx dn:List Nat)(i c e k:Nat):Spec:=⟨BS P fr,[fr],[nS P tx dn i k],CB,fun A=>.fin (.again (BS P fr)),fun A=>[nS P tx (dn++[34]) (i+1+1) 34],fun A=>[]⟩
theorem Rf(fr:Nat)(tx dn:List Nat)(i c e k:Nat)(h:tx[i]?=some 34)(h':tx[i+1]?=some 34)(hs:tx.length≤sizeLine)(hd:dn.length+1≤sizeLine)(hi:i+1 < tx.length)(I:Lp→Prop):(mx w.2 fr tx dn i c e k).nP (wf w b b2) (A3 (CB)) (I) (I):=by
 refine BQ (Af [K5 i tx.length true,ET tx i 34,ID ⟨⟨[34]⟩⟩ ⟨⟨[34]⟩⟩ true,Mn ((i+1:Nat):Int) tx.length false,ET tx (i+1) 34,O0 ⟨⟨[34]⟩⟩ ⟨⟨[34]⟩⟩ false,HU dn [34] (dn++[34])]) 7 [] (hD 3 21 5230176601) 0 [0,1,0,0,0,1] 0 (fun E0 ke=>?_)
 exact .q (Ba (decide_eq_true (by lia))) fun z z z=>.q (BG h hs) fun z z z=>.q (CP rfl) fun z z z=>.q (CE (decide_eq_false (by lia))) fun z z z=>.q (BG h' hs) fun z z z=>.q (Fj rfl) fun z z z=>.q (DC (by simpa using hd) rfl) fun z z z=>.nh ke rfl
def mu(P:Params)(fr:Nat)(tx dn:List Nat)(i c e k:Nat):Spec:=⟨BS P fr,[fr],[nS P tx dn i k],CB,fun A=>.fin (.done .next),fun A=>[nS P tx dn (i+1) 34],fun A=>[]⟩
theorem Rc(fr:Nat)(tx dn:List Nat)(i c e k:Nat)(h:tx[i]?=some 34)(hs:tx.length≤sizeLine)(hi:i+1=tx.length)(I:Lp→Prop):(mu w.2 fr tx dn i c e k).nP (wf w b b2) (A3 (CB)) (I) (I):=by
 refine BQ (Af [K5 i tx.length true,ET tx i 34,ID ⟨⟨[34]⟩⟩ ⟨⟨[34]⟩⟩ true,Mn ((i+1:Nat):Int) tx.length true]) 4 [] (hD 3 12 265720) 0 [0,1,0] 0 (fun E0 ke=>?_)
 exact .q (Ba (decide_eq_true (by lia))) fun z z z=>.q (BG h hs) fun z z z=>.q (CP rfl) fun z z z=>.q (CE (decide_eq_true (by lia))) fun z z z=>.nh ke rfl
def mn(P:Params)(fr:Nat)(tx dn:List Nat)(i c e k:Nat):Spec:=⟨BS P fr,[fr],[nS P tx dn i k],CB,fun A=>.fin (.done .next),fun A=>[nS P tx dn (i+1) 34],fun A=>[]⟩
theorem RY(fr:Nat)(tx dn:List Nat)(i c e k:Nat)(h:tx[i]?=some 34)(h':tx[i+1]?=some e)(he:e≠34)(hs:tx.length≤sizeLine)(hi:i+1 < tx.length)(I:Lp→Prop):(mn w.2 fr tx dn i c e k).nP (wf w b b2) (A3 (CB)) (I) (I):=by
 refine BQ (Af [K5 i tx.length true,ET tx i 34,ID ⟨⟨[34]⟩⟩ ⟨⟨[34]⟩⟩ true,Mn ((i+1:Nat):Int) tx.length false,ET tx (i+1) e,O0 ⟨⟨[e]⟩⟩ ⟨⟨[34]⟩⟩ true]) 6 [] (hD 3 14 2391484) 0 [0,1,0,0,0] 0 (fun E0 ke=>?_)
 exact .q (Ba (decide_eq_true (by lia))) fun z z z=>.q (BG h hs) fun z z z=>.q (CP rfl) fun z z z=>.q (CE (decide_eq_false (by lia))) fun z z z=>.q (BG h' hs) fun z z z=>.q (Fj (by simpa using he)) fun z z z=>.nh ke rfl
def mh(P:Params)(fr:Nat)(tx dn:List Nat)(i c e k:Nat):Spec:=⟨BS P fr,[fr],[nS P tx dn i k],CB,fun A=>.fin (.done .next),fun A=>[nS P tx dn i k],fun A=>[]⟩
theorem RX(fr:Nat)(tx dn:List Nat)(i c e k:Nat)(hi:tx.length≤i)(I:Lp→Prop):(mh w.2 fr tx dn i c e k).nP (wf w b b2) (A3 (CB)) (I) (I):=by
 refine BQ (Af [K5 i tx.length false]) 1 [] [1,1] 0 [] 0 (fun E0 ke=>?_)
 exact .q (Ba (decide_eq_false (by lia))) fun z z z=>.nh ke rfl
noncomputable def Fe:List Nat→List Nat→Nat→Nat→List Nat×Nat×Nat
 | [],dn,i,k=>(dn,i,k)
 | [c],dn,i,k=>if c=34 then (dn,i+1,34) else (dn++[c],i+1,c)
 | c::c2::r,dn,i,k=>if c=34 then (if c2=34 then Fe r (dn++[34]) (i+2) 34 else (dn,i+1,34)) else Fe (c2::r) (dn++[c]) (i+1) c
theorem Nd(c:Nat)(r dn:List Nat)(i k:Nat)(h:c≠34):Fe (c::r) dn i k=Fe r (dn++[c]) (i+1) c:=by
 cases r with
 | nil=>show (if c=34 then _ else _)=_; rw [if_neg h]; rfl
 | cons c2 r=>show (if c=34 then _ else _)=_; rw [if_neg h]
def Wv(P:Params)(fr:Nat)(tx:List Nat)(pre:Obj)(z:List Nat×Nat×Nat):Spec:=⟨BS P fr,[fr],[pre],CB,fun q=>.fin (.done .next),fun q=>[nS P tx z.1 z.2.1 z.2.2],fun q=>[]⟩
theorem CO(P:Params)(fr:Nat):B5 (BS P fr)=true:=by unfold B5; rw [BD]; rfl
theorem IK(w:World)(b b2:Bool)(fr:Nat)(tx:List Nat)(hs:tx.length≤sizeLine)(I:Lp→Prop):∀ (m:Nat) (rest dn:List Nat) (i k:Nat),rest.length≤m→tx.drop i=rest→i≤tx.length→dn.length+rest.length≤sizeLine→
  (Wv w.2 fr tx (nS w.2 tx dn i k) (Fe rest dn i k)).nP (wf w b b2) (A3 CB) I I∧(rest≠[]→(Wv w.2 fr tx (MP w.2 tx dn i) (Fe rest dn i k)).nP (wf w b b2) (A3 CB) I I)
 | m,[],dn,i,k,_,hd,hi,_=>by
  have:tx.length≤i:=List.drop_eq_nil_iff.mp hd
  exact ⟨RX w b b2 fr tx dn i 0 0 k this I,fun h=>absurd rfl h⟩
 | 0,c::r,dn,i,k,h,_,_,_=>by simp at h
 | m+1,c::r,dn,i,k,hm,hd,hi,hz=>by
  have hc:tx[i]?=some c:=by
   have:=congrArg (·[0]?) hd
   simpa [List.getElem?_drop] using this
  have lt:i < tx.length:=(List.getElem?_eq_some_iff.mp hc).1
  have hd1:tx.drop (i+1)=r:=by rw [← List.drop_drop,hd]; rfl
  have lr:=congrArg List.length hd1
  rw [List.length_drop] at lr
  simp only [List.length_cons] at hm hz
  have z1:([]:List Nat).length+0=0:=rfl
  by_cases e:c=34
  ·subst e
   cases r with
   | nil=>
    have hl:i+1=tx.length:=by simp only [List.length_nil] at lr; lia
    have ez:Fe [34] dn i k=(dn,i+1,34):=rfl
    rw [ez]
    exact ⟨Rc w b b2 fr tx dn i 0 0 k hc hs hl I,fun q=>Rd w b b2 fr tx dn i 0 0 k hc hs hl I⟩
   | cons c2 r2=>
    have pO:tx[i+1]?=some c2:=by
     have:=congrArg (·[0]?) hd1
     simpa [List.getElem?_drop] using this
    have lt2:i+1 < tx.length:=(List.getElem?_eq_some_iff.mp pO).1
    simp only [List.length_cons] at hm hz lr
    by_cases e2:c2=34
    ·subst e2
     have hd2:tx.drop (i+2)=r2:=by rw [show i+2=(i+1)+1 from rfl,← List.drop_drop,hd1]; rfl
     have ez:Fe (34::34::r2) dn i k=Fe r2 (dn++[34]) (i+2) 34:=rfl
     rw [ez]
     have ih:=(IK w b b2 fr tx hs I m r2 (dn++[34]) (i+2) 34 (by lia) hd2 (by lia) (by simp only [List.length_append,List.length_cons,List.length_nil]; lia)).1
     exact ⟨(Rf w b b2 fr tx dn i 0 0 k hc pO hs (by lia) lt2 I).seq (S2:=Wv w.2 fr tx (nS w.2 tx (dn++[34]) (i+2) 34) (Fe r2 (dn++[34]) (i+2) 34)) (fun q=>rfl) (CO _ fr) rfl rfl (fun q=>rfl) (fun q=>rfl) ih,
      fun q=>(Rg w b b2 fr tx dn i 0 0 k hc pO hs (by lia) lt2 I).seq (S2:=Wv w.2 fr tx (nS w.2 tx (dn++[34]) (i+2) 34) (Fe r2 (dn++[34]) (i+2) 34)) (fun q=>rfl) (CO _ fr) rfl rfl (fun q=>rfl) (fun q=>rfl) ih⟩
    ·have ez:Fe (34::c2::r2) dn i k=(dn,i+1,34):=by
      show (if c2=34 then _ else _)=_
      rw [if_neg e2]
     rw [ez]
     exact ⟨RY w b b2 fr tx dn i 0 c2 k hc pO e2 hs lt2 I,fun q=>RZ w b b2 fr tx dn i 0 c2 k hc pO e2 hs lt2 I⟩
  ·have ez:Fe (c::r) dn i k=Fe r (dn++[c]) (i+1) c:=Nd c r dn i k e
   rw [ez]
   have ih:=(IK w b b2 fr tx hs I m r (dn++[c]) (i+1) c (by lia) hd1 (by lia) (by simp only [List.length_append,List.length_cons,List.length_nil]; lia)).1
   exact ⟨(Rh w b b2 fr tx dn i c 0 k hc e hs (by lia) lt I).seq (S2:=Wv w.2 fr tx (nS w.2 tx (dn++[c]) (i+1) c) (Fe r (dn++[c]) (i+1) c)) (fun q=>rfl) (CO _ fr) rfl rfl (fun q=>rfl) (fun q=>rfl) ih,
    fun q=>(Ri w b b2 fr tx dn i c 0 k hc e hs (by lia) lt I).seq (S2:=Wv w.2 fr tx (nS w.2 tx (dn++[c]) (i+1) c) (Fe r (dn++[c]) (i+1) c)) (fun q=>rfl) (CO _ fr) rfl rfl (fun q=>rfl) (fun q=>rfl) ih⟩
noncomputable def Az:List (List Nat)→List Nat
 | []=>[]
 | [q]=>q
 | q::q'::r=>q++32::Az (q'::r)
def Li(Q T:List Nat):Prop:=(∀ p,CH Q p=some (T,p+Q.length,false))∧∀ rest p,CH (Q++32::rest) p=some (T,p+Q.length+1,true)
theorem Ha{α:Type}(f g:α→List Nat):∀ (l:List α) (k:Nat) (A:List Nat),l≠[]→l.length≤k→(∀ x∈l,Li (f x) (g x))→DK k (A++Az (l.map f)) A.length=some (l.map g,(A++Az (l.map f)).length)
 | [x],k+1,A,_,_,h=>by
  rw [K8]
  rw [List.drop_left,show Az ([x].map f)=f x from rfl,(h x (.head _)).1 A.length]
  simp
 | x::y::r,k+1,A,_,hk,h=>by
  rw [K8]
  rw [List.drop_left,show Az ((x::y::r).map f)=f x++32::Az ((y::r).map f) from rfl,(h x (.head _)).2 _ A.length]
  have ih:=Ha f g (y::r) k (A++(f x++[32])) (by simp) (by simpa using hk) fun z m=>h z (.tail _ m)
  have e:A++(f x++32::Az ((y::r).map f))=A++(f x++[32])++Az ((y::r).map f):=by simp
  rw [e]
  have e2:A.length+(f x).length+1=(A++(f x++[32])).length:=by simp; lia
  show (match DK k (A++(f x++[32])++Az ((y::r).map f)) (A.length+(f x).length+1) with | some (l,q)=>some (g x::l,q) | none=>none)=_
  rw [e2,ih]; rfl
theorem J8{α:Type}(f g:α→List Nat){l:List α}(h0:l≠[])(h5:l.length≤5)(h:∀ x∈l,Li (f x) (g x)):DK 5 (Az (l.map f)) 0=some (l.map g,(Az (l.map f)).length):=by
 have:=Ha f g l 5 [] h0 h5 h
 simpa using this
theorem Hd:∀ (qs:List (List Nat)),(Az qs).reverse=Az (qs.reverse.map List.reverse)
 | []=>rfl
 | [q]=>by simp [Az]
 | q::q'::r=>by
  have ih:=Hd (q'::r)
  have app:∀ (l:List (List Nat)) (x:List Nat),l≠[]→Az (l++[x])=Az l++32::x:=by
   intro l x
   induction l with
   | nil=>intro h; exact absurd rfl h
   | cons a l ih2=>
    intro _
    cases l with
    | nil=>rfl
    | cons b l=>
     show a++32::Az (b::l++[x])=(a++32::Az (b::l))++32::x
     rw [show (b::l++[x])=(b::l)++[x] from rfl,ih2 (by simp)]
     simp
  show (q++32::Az (q'::r)).reverse=_
  rw [List.reverse_append,List.reverse_cons,ih]
  rw [List.reverse_cons (a:=q),List.map_append,List.map_singleton,app _ _ (by simp)]
  simp
theorem ah(i j:Nat)(hi:i < 4)(hj:j < 4):Li (Dx i j) (C5 i j):=by
 have hi':i=0∨i=1∨i=2∨i=3:=by lia
 have hj':j=0∨j=1∨j=2∨j=3:=by lia
 rcases hi' with rfl | rfl | rfl | rfl<;>rcases hj' with rfl | rfl | rfl | rfl<;>exact ⟨fun p=>by rfl,fun rest p=>by rfl⟩
theorem af(i j:Nat)(hi:i < 4)(hj:j < 4):Li (Dx i j).reverse (C5 i j).reverse:=by
 have hi':i=0∨i=1∨i=2∨i=3:=by lia
 have hj':j=0∨j=1∨j=2∨j=3:=by lia
 rcases hi' with rfl | rfl | rfl | rfl<;>rcases hj' with rfl | rfl | rfl | rfl<;>exact ⟨fun p=>by rfl,fun rest p=>by rfl⟩
def Bi(nO:List (Nat×Nat)):List Nat:=Az (nO.map fun p=>Dx p.1 p.2)
theorem HZ{nO:List (Nat×Nat)}(h0:nO≠[])(h5:nO.length≤5)(h:∀ p∈nO,p.1 < 4∧p.2 < 4):DK 5 (Bi nO) 0=some (nO.map fun p=>C5 p.1 p.2,(Bi nO).length):=
 J8 (fun p:Nat×Nat=>Dx p.1 p.2) (fun p=>C5 p.1 p.2) h0 h5 fun p m=>ah _ _ (h p m).1 (h p m).2
theorem Ol{nO:List (Nat×Nat)}(h0:nO≠[])(h5:nO.length≤5)(h:∀ p∈nO,p.1 < 4∧p.2 < 4):DK 5 (Bi nO).reverse 0=some (nO.reverse.map fun p=>(C5 p.1 p.2).reverse,(Bi nO).length):=by
 have e:=Hd (nO.map fun p=>Dx p.1 p.2)
 rw [← List.map_reverse,List.map_map] at e
 have:=J8 (fun p:Nat×Nat=>(Dx p.1 p.2).reverse) (fun p=>(C5 p.1 p.2).reverse) (l:=nO.reverse) (by simpa using h0) (by simpa using h5) fun p m=>af _ _ (h p (List.mem_reverse.mp m)).1 (h p (List.mem_reverse.mp m)).2
 unfold Bi
 have e2:=congrArg List.length e
 rw [List.length_reverse] at e2
 rw [e,e2]
 exact this
def JH(i j:Nat):List Nat:=(C5 i j).tail
def Px(i j:Nat):List Nat:=(C5 i j).reverse.tail
theorem RO(i j:Nat)(hi:i < 4)(hj:j < 4):C5 i j=34::JH i j∧JH i j≠[]∧(JH i j).length≤20∧(Fe (JH i j) [] 5 0).1=HX i:=by
 have hi':i=0∨i=1∨i=2∨i=3:=by lia
 have hj':j=0∨j=1∨j=2∨j=3:=by lia
 rcases hi' with rfl | rfl | rfl | rfl<;>rcases hj' with rfl | rfl | rfl | rfl<;>decide +kernel
theorem Nc(i j:Nat)(hi:i < 4)(hj:j < 4):(C5 i j).reverse=34::Px i j∧Px i j≠[]∧(Px i j).length≤20∧(Fe (Px i j) [] 5 0).1=(HX j).reverse:=by
 have hi':i=0∨i=1∨i=2∨i=3:=by lia
 have hj':j=0∨j=1∨j=2∨j=3:=by lia
 rcases hi' with rfl | rfl | rfl | rfl<;>rcases hj' with rfl | rfl | rfl | rfl<;>decide +kernel
theorem Kk(i j:Nat)(hi:i < 4)(hj:j < 4):(Dx i j).length≤25:=by
 have hi':i=0∨i=1∨i=2∨i=3:=by lia
 have hj':j=0∨j=1∨j=2∨j=3:=by lia
 rcases hi' with rfl | rfl | rfl | rfl<;>rcases hj' with rfl | rfl | rfl | rfl<;>decide +kernel
theorem He(m:Nat):∀ (qs:List (List Nat)),(∀ q∈qs,q.length≤m)→(Az qs).length≤qs.length*(m+1)
 | [],_=>by simp [Az]
 | [q],h=>by have:=h q (.head _); simp [Az]; lia
 | q::q'::r,h=>by
  have ih:=He m (q'::r) fun x hx=>h x (.tail _ hx)
  have:=h q (.head _)
  show (q++32::Az (q'::r)).length≤_
  rw [List.length_append,List.length_cons]
  simp only [List.length_cons] at ih ⊢
  have e:(r.length+1+1)*(m+1)=(r.length+1)*(m+1)+(m+1):=by rw [Nat.add_mul (r.length+1) 1 (m+1),Nat.one_mul]
  lia
theorem Oj{nO:List (Nat×Nat)}(h5:nO.length≤5)(h:∀ p∈nO,p.1 < 4∧p.2 < 4):(Bi nO).length≤200:=by
 have:=He 25 (nO.map fun p=>Dx p.1 p.2) (fun q m=>by
  obtain ⟨p,hp,rfl⟩:=List.mem_map.mp m
  exact Kk _ _ (h p hp).1 (h p hp).2)
 unfold Bi
 rw [List.length_map] at this
 lia
def KR(X:SX)(m:Nat):Nat:=match X.T.get m with
 | some (_,o)=>match o.data with
  | .cell (some v)=>Hs v
  | _=>0
 | none=>0
def Zz(vv:Bool)(P:Params)(tx:List Nat)(DL:Data):AA:=B6 (fun q=>.func::Ei vv) [3,4,5,1] [false,true,false,false] [] (fun X=>Yg vv (Jj P (A2 X 3) (A2 X 4) (A2 X 5) (A2 X 1) (A2 X 0)) P (A2 X 3) (A2 X 4) (A2 X 5) (A2 X 1) tx (KR X 1) [B2 ((tx.length:Int)-1) tx.length (-1),A0 (.seq #[] 0),AR [] 0,E' tx (KR X 1)] DL)
theorem SJ{vv:Bool}{w:World}{b b2:Bool}{tx:List Nat}{DL:Data}{I:Lp→Prop}(hs:tx.length≤sizeLine)(h0:tx≠[])(hL:DL=.seq ⟨IT tx.reverse⟩ tx.length):(Zz vv w.2 tx DL).oB pw (wf w b b2) (A4 w.2) I I:=
 AF (w:=wf w b b2) (Sf:=fun q=>A3 (.func::Ei vv)) (fun X=>by rw [hL]; exact Mb vv w b b2 (A2 X 3) (A2 X 4) (A2 X 5) (A2 X 1) (A2 X 0) tx (KR X 1) hs h0 I) (fun q=>Ac (by intro h; cases h)) (by decide) (fun q=>⟨rfl,rfl,fun q=>rfl⟩) (fun q q=>rfl)
theorem PK(l:List Nat):Builtin.Str.glued ⟨⟨[]⟩⟩ (l.map (fun c=>(⟨⟨[c]⟩⟩:Str)))=⟨⟨l⟩⟩:=by
 have key:∀ (l acc:List Nat),(l.map (fun c=>(⟨⟨[c]⟩⟩:Str))).foldl (fun acc p=>acc++(#[]:Array Nat)++p.cps) (⟨acc⟩:Array Nat)=⟨acc++l⟩:=by
  intro l
  induction l with
  | nil=>intro acc; simp
  | cons c l ih=>
   intro acc
   simp only [List.map_cons,List.foldl_cons]
   have:((⟨acc⟩:Array Nat)++(#[]:Array Nat)++(⟨[c]⟩:Array Nat))=⟨acc++[c]⟩:=by simp
   rw [this,ih]; simp
 cases l with
 | nil=>rfl
 | cons c l=>
  have:=key l [c]
  unfold Builtin.Str.glued
  show Str.mk _=_
  congr 1
theorem Oh(l:List Nat)(h:l.length≤sizeLine):Builtin.Str.tooLong ((l.map (fun c=>(⟨⟨[c]⟩⟩:Str))).toArray.foldl (· + ·.length+(⟨⟨[]⟩⟩:Str).length) 0)=false:=by
 have key:∀ (l:List Nat) (a:Nat),(l.map (fun c=>(⟨⟨[c]⟩⟩:Str))).foldl (· + ·.length+(⟨⟨[]⟩⟩:Str).length) a=a+l.length:=by
  intro l
  induction l with
  | nil=>intro a; rfl
  | cons c l ih=>
   intro a
   simp only [List.map_cons,List.foldl_cons,List.length_cons]
   rw [ih]
   show a+1+0+l.length=_
   lia
 unfold Builtin.Str.tooLong
 rw [List.foldl_toArray,key]
 simpa using h
theorem Tz(l:List Nat):IT l=(l.map (fun c=>(⟨⟨[c]⟩⟩:Str))).map (fun y=>.str y 0):=by simp [IT]
theorem RA(m:Nat):Builtin.Range.rangeSize (((m+1:Nat):Int)-1) (-1) (-1)=((m+1:Nat):Int):=by
 unfold Builtin.Range.rangeSize
 rw [if_neg (by lia),if_pos (by lia),show (-(-1):Int)=1 from rfl,Int.ediv_one]
 lia
theorem Vj(m:Nat)(h:m+1≤sizeLine):(Builtin.Range.rangeFitsLong (((m+1:Nat):Int)-1)&&Builtin.Range.rangeFitsLong (-1)&&Builtin.Range.rangeFitsLong (-1)&&Builtin.Range.rangeFitsLong ((m+1:Nat):Int)&&(((m+1:Nat):Int)==0 || if (-1:Int) > 0 then Builtin.Range.rangeFitsLong (-1+(-1-1)) else Builtin.Range.rangeFitsLong (-1+(-1+1))))=true:=by
 have:=Gn
 unfold Builtin.Range.rangeFitsLong
 simp
 lia
def tf(P:Params)(v:Bool)(y:Nat)(ys:List Nat)(DL:Data):Spec:=⟨.call (.ref 916) ⟨[.str ⟨⟨y::ys⟩⟩ 0],[]⟩,[],[],Ei v,fun A=>.fin (.done (.ret (.str ⟨⟨(y::ys).reverse⟩⟩ 0))),fun A=>[],fun A=>[]⟩
theorem N9(v:Bool)(y:Nat)(ys:List Nat)(DL:Data)(hs:ys.length+1≤sizeLine)(hL:DL=.seq ⟨IT (y::ys).reverse⟩ (y::ys).length)(I:Lp→Prop):(tf w.2 v y ys DL).nP (wf w b b2) (A3 (Ei v)) (I) (I):=by
 refine Cz (fun D=>tf w.2 v y ys DL) (fun D l=>tf w.2 v y ys (ud l 1 2)) (fun D=>[fun z=>MA ⟨⟨y::ys⟩⟩,fun z=>Rt 2 (((ys.length+1:Nat):Int)-1) (-1) (-1) ((ys.length+1:Nat):Int),fun z=>Zz v w.2 (y::ys) DL,fun l=>Ul ⟨⟨[]⟩⟩ 4 (ud l 0 2) (y::ys).reverse]) 4 [] [] (fun z=>(hD 8 20 987534850242118784)) (fun z=>0) (fun z=>[6,0,0]) 1 [] (fun E0 ke=>?_) (by cases v<;>kernel_rfl)
 refine .q (EP (by show ys.length+1 < 2 ^ 62; have:=Gn; lia)) fun z z z=>.cons (IB (RA _) (Vj _ hs)) fun z z z=>.cons (SJ (by simpa using hs) (by simp) hL) fun u2 z g2=>?_
 obtain rfl:eD (u2.d 2)=DL:=g2.1.1
 exact .q (OA (ys:=(y::ys).reverse.map (fun c=>(⟨⟨[c]⟩⟩:Str))) (n:=(y::ys).length) (by (try simp only [un,ud,BL]); rw [hL,Tz]) (PK _) (Oh _ (by simpa using hs)) (by simpa using hs)) fun z z z=>.nh ke rfl
section
def LY(P:Params)(aI ny aA aK oF oJ fr:Nat)(xl:Int)(DX DI z:Data):Spec:=
 ⟨W' (H6 P) (cN oF) aI aA aK fr,[aI,ny,aA,aK,oF,oJ],[AW ny 0,A0 DX,A0 (.seq #[] 0),AR [] 0,AH oJ,FU],AQ,fun q=>.fin (.done .next),fun q=>[Up DI,A0 DX,A0 z,AR [kE P "x" (.int xl 0)] 1,AH oJ,FU],fun q=>[]⟩
def Hn(lc:Expr)(P:Params)(aI aX aA aK fr:Nat)(X Y:Str)(DD DI z:Data):Spec:=
 ⟨W' lc [] aI aA aK fr,[aI,aX,aA,aK],[AW aX 0,A0 DD,A0 (.seq #[] 0),AR [] 0],AQ,fun q=>.fin (.done .next),fun q=>[Up DI,A0 DD,A0 z,AR [kE P "early" (.str X 0),kE P "late" (.str Y 0)] 2],fun q=>[]⟩
def IZ(lc:Expr)(P:Params)(aI aA aK nT oD aF aG fr nn:Nat)(DF DG z:Data):Spec:=
 ⟨W' lc (cT nT oD) aI aA aK fr,[aI,aA,aK,nT,oD,aF,aG],[B2 0 (nn:Nat) 1,A0 (.seq #[] 0),AR [] 0,AH aF,AH aG,A0 DF,A0 DG],AQ,fun q=>.fin (.done .next),fun q=>[B2 (nn:Nat) 0 1,A0 z,AR [kE P "k" (.int ((nn:Int)-1) 0)] 1,AH aF,AH aG,A0 DF,A0 DG],fun q=>[]⟩
noncomputable def rk:Nat→Nat
 | 0=>2
 | 1=>1
 | 2=>0
 | c=>c
noncomputable def B3(x:Int):Nat×Nat:=((x.fmod 4).toNat,((x.fmod 16).fdiv 4).toNat)
theorem JP(x:Int):0≤x.fmod 4∧0≤(x.fmod 16).fdiv 4:=by
 have h1:0≤x.fmod 4:=Int.fmod_nonneg_of_pos x (by decide)
 have h2:0≤x.fmod 16:=Int.fmod_nonneg_of_pos x (by decide)
 refine ⟨h1,?_⟩
 rw [Int.fdiv_eq_ediv_of_nonneg _ (by decide)]
 exact Int.ediv_nonneg h2 (by decide)
theorem Gl(x:Int):(B3 x).1 < 4∧(B3 x).2 < 4:=by
 have n:=JP x
 refine ⟨(Int.toNat_lt n.1).mpr (Int.fmod_lt_of_pos x (by decide)),(Int.toNat_lt n.2).mpr ?_⟩
 rw [Int.fdiv_eq_ediv_of_nonneg _ (by decide)]
 exact Int.ediv_lt_of_lt_mul (by decide) (Int.fmod_lt_of_pos x (by decide))
theorem m5(n i:Nat):((n:Int)-1-(i:Nat)).toNat=n-1-i:=by rw [Int.sub_sub]; exact (Int.toNat_sub n (1+i)).trans (Nat.sub_sub ..).symm
theorem Vc{n i:Nat}(h:i < n):n-1-i < n:=Nat.lt_of_le_of_lt (Nat.sub_le ..) (Nat.sub_lt (Nat.zero_lt_of_lt h) Nat.one_pos)
theorem ki{n i:Nat}(h:i < n):n-1-(n-1-i)=i:=Nat.sub_sub_self (Nat.le_sub_one_of_lt h)
theorem mD{n i:Nat}(h:i < n):(0:Int)≤(n:Int)-1-(i:Nat):=by rw [Int.sub_sub]; exact Int.sub_nonneg_of_le (Int.ofNat_le.mpr (Nat.add_comm 1 i ▸ h))
theorem mB{n i:Nat}(h:i < n):∃ k,n-i=k+1:=⟨n-i-1,(Nat.sub_add_cancel (Nat.sub_pos_of_lt h)).symm⟩
theorem m9{n i k:Nat}(h:n-i=k+1):(((k+1:Nat):Int)-1)=((n-(i+1):Nat):Int):=by rw [Nat.sub_add_eq,h]; exact Int.add_sub_cancel (k:Int) 1
theorem ON{c:Nat}(h:c < 4):([sv "a",sv "b'",sv "c\"",sv "d e"]:List Value)[c]?=some (.str (AE false c) 0):=by
 have:c=0∨c=1∨c=2∨c=3:=by lia
 rcases this with rfl | rfl | rfl | rfl<;>rfl
theorem OO{c:Nat}(h:c < 4):AE false c=⟨⟨HX c⟩⟩:=by
 have:c=0∨c=1∨c=2∨c=3:=by lia
 rcases this with rfl | rfl | rfl | rfl<;>kernel_rfl
theorem Wg{c:Nat}(h:c < 4):AE true (rk c)=⟨⟨(HX c).reverse⟩⟩:=by
 have:c=0∨c=1∨c=2∨c=3:=by lia
 rcases this with rfl | rfl | rfl | rfl<;>kernel_rfl
variable{w b b2}
theorem N7(l:List Nat)(h:l≠[])(hs:l.length≤sizeLine)(I:Lp→Prop):(Qc ⟨⟨l⟩⟩ ⟨⟨l.reverse⟩⟩).nP (wf w b b2) (A3 Cg) I I:=by
 cases l with
 | nil=>exact absurd rfl h
 | cons y ys=>exact N9 w b b2 false y ys _ (by simpa using hs) rfl I
theorem IH(c:Nat):HX c≠[]∧(HX c).length≤3:=by
 unfold HX; split<;>decide
theorem Jf{c:Nat}(h:c < 4)(I:Lp→Prop):(Qc (AE false c) (AE true (rk c))).nP (wf w b b2) (A3 Cg) I I:=by
 rw [OO h,Wg h]
 have:=A5
 exact N7 _ (IH c).1 (by have:=(IH c).2; lia) I
theorem VT{c:Nat}(h:c < 4)(I:Lp→Prop):(Qc (AE true (rk c)) (AE false c)).nP (wf w b b2) (A3 Cg) I I:=by
 rw [OO h,Wg h]
 have:=A5
 have z:=N7 (w:=w) (b:=b) (b2:=b2) (HX c).reverse (by simpa using (IH c).1) (by have:=(IH c).2; simp only [List.length_reverse]; lia) I
 rwa [List.reverse_reverse] at z
theorem Eh{nm:Nat→Str}{nU:List Nat}{nO:List (Nat×Nat)}(h:nU.length=nO.length)(a:Nat)(p:Nat×Nat):AN nm (nU++[a]) (nO++[p])=AN nm nU nO++[(a,CL nm p)]:=by
 unfold AN
 rw [List.zip_append h,List.map_append]; rfl
theorem ZP{α:Type}(x:α)(A B C:List α):((A++(B++C))++[x]).Perm (A++((B++[x])++C)):=
 FQ [A,B,C,[x]] (.a (.r [0,1] (.l 2)) (.q [3])) (.a (.l 0) (.a (.a (.l 1) (.q [3])) (.l 2))) rfl
inductive TU (nm:Nat→Str) (nO:List (Nat×Nat)) (P0:Lp) (z:Data) (L:Lp):Prop
 | mk (nU:List Nat) (h0:z=.seq ⟨nU.map .ref⟩ nO.length) (h1:nU.length=nO.length) (h2:L.Perm (AN nm nU nO++P0)):TU nm nO P0 z L
def Ux(P:Params)(xs:List Int):Nat→Obj
 | 0=>AR [] 0
 | i+1=>AR [kE P "x" (.int (xs.getD i 0) 0)] 1
inductive MW (P:Params) (P0:Lp) (aI ny aA aK oF oJ:Nat) (xs:List Int) (ex:Nat) (i:Nat) (L:Lp):Prop
 | mk (nU:List Nat) (h0:nU.length=i) (h1:L.Perm ([(aI,AW ny i),(ny,A0 (.seq ⟨xs.map (.int · 0)⟩ ex)),(aA,A0 (.seq ⟨nU.map .ref⟩ i)),(aK,Ux P xs i),(oF,AH oJ),(oJ,FU)]++(AN (AE false) nU ((xs.take i).map B3)++P0))):MW P P0 aI ny aA aK oF oJ xs ex i L
section
variable{w:World}{b b2:Bool}(P0:Lp)
theorem Ti(aI ny aA aK oF oJ fr:Nat)(xs:List Int)(ex:Nat)(hs:xs.length < 100)(i:Nat)(hi:i < xs.length) :
  A9 (wf w b b2) (A3 AQ) (EE (H6 w.2) (cN oF) aI aA aK fr) (MW w.2 P0 aI ny aA aK oF oJ xs ex i) (fun e L=>e=.fin (.again (EE (H6 w.2) (cN oF) aI aA aK fr))∧MW w.2 P0 aI ny aA aK oF oJ xs ex (i+1) L):=by
 have hp:xs[i]?=some xs[i]:=List.getElem?_eq_getElem hi
 have hv:(xs.map (fun x=>Value.int x 0))[i]?=some (.int xs[i] 0):=by rw [List.getElem?_map,hp]; rfl
 have e2:xs.getD i 0=xs[i]:=by simp [List.getD,hp]
 have et:xs.take (i+1)=xs.take i++[xs[i]]:=by rw [List.take_add_one,hp]; rfl
 have em:(xs.take (i+1)).map B3=(xs.take i).map B3++[B3 xs[i]]:=by rw [et,List.map_append]; rfl
 have nn:=JP xs[i]
 have lt:=Gl xs[i]
 have sl:=A5
 rintro L0 ⟨nU,hads,pm⟩
 have tl:nU.length=((xs.take i).map B3).length:=by rw [List.length_map,List.length_take]; lia
 have hadl:(nU.map Value.ref).length≤sizeLine:=by rw [List.length_map]; lia
 have key:∀ (A1:Nat→Nat),(([(aI,AW ny ((i:Int)+1)),(ny,A0 (.seq ⟨xs.map (.int · 0)⟩ ex)),(aA,A0 (.seq ⟨nU.map .ref++[.ref (A1 0)]⟩ (i+1))),(aK,AR [kE w.2 "x" (.int xs[i] 0)] 1),(oF,AH oJ),(oJ,FU)]++(AN (AE false) nU ((xs.take i).map B3)++P0))++[(A1 0,El (AE false (B3 xs[i]).1) (AE false (B3 xs[i]).2))]).Perm ([(aI,AW ny ((i+1:Nat):Int)),(ny,A0 (.seq ⟨xs.map (.int · 0)⟩ ex)),(aA,A0 (.seq ⟨(nU++[A1 0]).map .ref⟩ (i+1))),(aK,Ux w.2 xs (i+1)),(oF,AH oJ),(oJ,FU)]++(AN (AE false) (nU++[A1 0]) ((xs.take (i+1)).map B3)++P0)):=by
  intro A1
  rw [em,Eh tl,List.map_append,show Ux w.2 xs (i+1)=AR [kE w.2 "x" (.int (xs.getD i 0) 0)] 1 from rfl,e2]
  exact ZP _ _ _ _
 refine (show A9 _ _ _ (fun L=>L.Perm ([(aI,AW ny i),(ny,A0 (.seq ⟨xs.map (.int · 0)⟩ ex)),(aA,A0 (.seq ⟨nU.map .ref⟩ i)),(aK,Ux w.2 xs i),(oF,AH oJ),(oJ,FU)]++(AN (AE false) nU ((xs.take i).map B3)++P0))) _ from ?_) L0 pm
 rw [show Ux w.2 xs i=kI w.2 "x" (oP (fun j=>xs.getD j 0) i) by cases i<;>rfl]
 refine ((Spec.nX.n (Spec.oC.d (Se w b b2 aI ny aA aK oF oJ (oP (fun j=>xs.getD j 0) i) fr i i (nU.map .ref) xs[i] (AE false (B3 xs[i]).1) (AE false (B3 xs[i]).2) _ _ (fun L=>L=AN (AE false) nU ((xs.take i).map B3)++P0) _ ex rfl hv nn.1 (ON lt.1) nn.2 (ON lt.2) rfl hadl))).k (oA:=fun e L=>e=.fin (.again (EE (H6 w.2) (cN oF) aI aA aK fr))∧MW w.2 P0 aI ny aA aK oF oJ xs ex (i+1) L) ?_).nV ?_ (fun e L h=>⟨L,.refl _,h⟩)
 ·rintro e Lk Ln ⟨z,A1,P',⟨hz,rfl⟩,rfl,rfl,rfl⟩
  have hz:z=.seq ⟨nU.map .ref++[.ref (A1 0)]⟩ (i+1):=hz
  subst hz
  exact ⟨rfl,nU++[A1 0],by simp [hads],key A1⟩
 ·intro L p
  exact ⟨_,p,_,rfl,rfl⟩
theorem ZO{α:Type}(i s a k:α)(T:List α):([i,s,a,k]++T).Perm ([i,a,k]++(s::T)):=I4 i s a k T
theorem Xu(aI ny aA aK oF oJ fr:Nat)(xs:List Int)(ex:Nat)(hs:xs.length < 100){n:Nat}(hn:xs.length=n+1) :
  Spec.nX (fun z=>LY w.2 aI ny aA aK oF oJ fr (xs.getD n 0) (.seq ⟨xs.map (.int · 0)⟩ ex) (BW (xs.length:Nat)).data z) (fun z q P'=>TU (AE false) (xs.map B3) P0 z P') (LY w.2 aI ny aA aK oF oJ fr (xs.getD n 0) (.seq ⟨xs.map (.int · 0)⟩ ex) (BW (xs.length:Nat)).data .plain) (wf w b b2) (A3 AQ) (fun L=>L=P0):=by
 have fin:A9 (wf w b b2) (A3 AQ) (EE (H6 w.2) (cN oF) aI aA aK fr) (MW w.2 P0 aI ny aA aK oF oJ xs ex xs.length) (fun e L=>e=.fin (.done .next)∧∃ nU:List Nat,nU.length=xs.length∧L.Perm ([(aI,BW (xs.length:Nat)),(ny,A0 (.seq ⟨xs.map (.int · 0)⟩ ex)),(aA,A0 (.seq ⟨nU.map .ref⟩ xs.length)),(aK,Ux w.2 xs xs.length),(oF,AH oJ),(oJ,FU)]++(AN (AE false) nU (xs.map B3)++P0))):=by
  rintro L0 ⟨nU,hads,pm⟩
  rw [List.take_length] at pm
  refine (show A9 _ _ _ (fun L=>L.Perm ([(aI,AW ny xs.length),(ny,A0 (.seq ⟨xs.map (.int · 0)⟩ ex)),(aA,A0 (.seq ⟨nU.map .ref⟩ xs.length)),(aK,Ux w.2 xs xs.length),(oF,AH oJ),(oJ,FU)]++(AN (AE false) nU (xs.map B3)++P0))) _ from ?_) L0 pm
  exact Spec.nP.kp (OX w b b2 aI ny oF aA aK fr xs.length _ _ (xs.map (.int · 0)) ex rfl (by simp) rfl (fun L=>L=[(aA,A0 (.seq ⟨nU.map .ref⟩ xs.length)),(aK,Ux w.2 xs xs.length),(oF,AH oJ),(oJ,FU)]++(AN (AE false) nU (xs.map B3)++P0))) (fun q p=>p) fun A1=>⟨_,.refl _,rfl,nU,hads,.refl _⟩
 have h:=A9.loop AI (by kernel_rfl) (by kernel_rfl) (fun i hi=>Ti (w:=w) (b:=b) (b2:=b2) P0 aI ny aA aK oF oJ fr xs ex hs i hi) fin xs.length 0 (by lia)
 have hz:=Spec.nP.r6 (M:=fun L=>MW w.2 P0 aI ny aA aK oF oJ xs ex 0 L) (OY w b b2 aI aA aK oF ny fr (.seq #[] 0) (fun L=>L=(ny,A0 (.seq ⟨xs.map (.int · 0)⟩ ex))::([(oF,AH oJ),(oJ,FU)]++P0))) AI (by kernel_rfl) (fun q=>rfl) (fun A1=>⟨_,.refl _,[],rfl,(ZO _ _ _ _ _).symm⟩) h
 refine A9.toD (F:=fun z=>LY w.2 aI ny aA aK oF oJ fr (xs.getD n 0) (.seq ⟨xs.map (.int · 0)⟩ ex) (BW (xs.length:Nat)).data z) (S:=LY w.2 aI ny aA aK oF oJ fr (xs.getD n 0) (.seq ⟨xs.map (.int · 0)⟩ ex) (BW (xs.length:Nat)).data .plain) hz ?_ ?_
 ·rintro P rfl
  exact ⟨_,ZO _ _ _ _ _,_,rfl,rfl⟩
 ·rintro e L ⟨rfl,nU,hads,p⟩
  rw [hn] at p hads
  refine ⟨.seq ⟨nU.map .ref⟩ (n+1),fun q=>0,_,⟨nU,by rw [List.length_map,hn],by rw [List.length_map,hn,hads],.refl _⟩,rfl,?_⟩
  rw [hn]; exact p
end
end
section
def BR(nO:List (Nat×Nat)):List (Nat×Nat):=nO.map fun p=>(rk p.2,rk p.1)
def Jc(nO:List (Nat×Nat)):List Value:=nO.map fun p=>.str ⟨⟨C5 p.1 p.2⟩⟩ 0
theorem YF{w:World}{b b2:Bool}{i j:Nat}(hi:i < 4)(hj:j < 4)(I:Lp→Prop):(dH (AE false i) (AE false j) ⟨⟨C5 i j⟩⟩).nP (wf w b b2) (A3 Cg) I I:=by
 rw [OO hi,OO hj]
 exact UJ w b b2 i j hi hj I
theorem ZN{α:Type}{P0 T:List α}(i s p a k:α)(h:P0.Perm (p::T)):([i,s,a,k]++P0).Perm ([i,s,p,a,k]++T):=
 Df [[i],[s],[a],[k],P0,[p],T] (.a (.q [0,1,2,3]) (.l 4)) (.a (.q [0,1,5,2,3]) (.l 6)) (.l 4) (.r [5] (.l 6)) h rfl
theorem fh{α:Type}{P0 T:List α}(i s p a k x:α)(N:List α)(h:P0.Perm (p::T)):(([i,s,p,a,k]++(N++T))++[x]).Perm ([i,s,a,k]++((N++[x])++P0)):=
 Df [[i],[s],[p],[a],[k],N,T,[x],P0] (.a (.a (.q [0,1,2,3,4]) (.r [5] (.l 6))) (.q [7])) (.a (.q [0,1,3,4]) (.a (.a (.l 5) (.q [7])) (.l 8))) (.r [2] (.l 6)) (.l 8) h.symm rfl
theorem fg{α:Type}{P0 T:List α}(i s p a k:α)(N:List α)(h:P0.Perm (p::T)):([i,s,a,k]++(N++P0)).Perm ([i,s,p,a,k]++(N++T)):=
 Df [[i],[s],[a],[k],N,P0,[p],T] (.a (.q [0,1,2,3]) (.r [4] (.l 5))) (.a (.q [0,1,6,2,3]) (.r [4] (.l 7))) (.l 5) (.r [6] (.l 7)) h rfl
theorem ZM{α:Type}(i a k:α)(T:List α):([i,a,k]++T).Perm ([i,k]++(a::T)):=
 FQ [[i],[a],[k],T] (.a (.q [0,1,2]) (.l 3)) (.a (.q [0,2]) (.r [1] (.l 3))) rfl
def Mf(P:Params)(P0:Lp)(aI aX aA aK:Nat)(nU:List Nat)(nO:List (Nat×Nat))(ed:Nat)(i:Nat)(L:Lp):Prop:=
 L.Perm ([(aI,AW aX i),(aX,A0 (.seq ⟨nU.map .ref⟩ ed)),(aA,A0 (.seq ⟨Jc (nO.take i)⟩ i)),(aK,IV P (AE false) nO i)]++P0)
section
variable{w:World}{b b2:Bool}{nU:List Nat}{nO:List (Nat×Nat)}(hl:nU.length=nO.length)(hs:nO.length < 100)(h4:∀ p∈nO,p.1 < 4∧p.2 < 4){P0 R:Lp}(hP:P0.Perm (AN (AE false) nU nO++R))(ed aX:Nat)
include hl hs h4 hP
theorem UH(aI aA aK fr:Nat)(i:Nat)(hi:i < nO.length) :
  A9 (wf w b b2) (A3 AQ) (EE (EY w.2) [] aI aA aK fr) (Mf w.2 P0 aI aX aA aK nU nO ed i) (fun e L=>e=.fin (.again (EE (EY w.2) [] aI aA aK fr))∧Mf w.2 P0 aI aX aA aK nU nO ed (i+1) L):=by
 have hp:nO[i]?=some nO[i]:=List.getElem?_eq_getElem hi
 have ha:nU[i]?=some nU[i]:=List.getElem?_eq_getElem (by lia)
 have q4:=h4 _ (List.getElem_mem hi)
 obtain ⟨T,hT⟩:=Ff (Fn false) hl hs hP ha hp
 have hv:(nU.map Value.ref)[i]?=some (.ref nU[i]):=by rw [List.getElem?_map,ha]; rfl
 have e2:nO.getD i (0,0)=nO[i]:=by simp [List.getD,hp]
 have et:Jc (nO.take (i+1))=Jc (nO.take i)++[.str ⟨⟨C5 nO[i].1 nO[i].2⟩⟩ 0]:=by unfold Jc; rw [List.take_add_one,hp,Option.toList_some,List.map_append]; rfl
 have sl:=A5
 have hsz:(Jc (nO.take i)).length≤sizeLine:=by unfold Jc; rw [List.length_map,List.length_take]; lia
 have key:([(aI,AW aX ((i:Int)+1)),(aX,A0 (.seq ⟨nU.map .ref⟩ ed)),(nU[i],El (AE false nO[i].1) (AE false nO[i].2)),(aA,A0 (.seq ⟨Jc (nO.take i)++[.str ⟨⟨C5 nO[i].1 nO[i].2⟩⟩ 0]⟩ (i+1))),(aK,AR [kE w.2 "early" (.str (AE false nO[i].1) 0),kE w.2 "late" (.str (AE false nO[i].2) 0)] 2)]++T).Perm ([(aI,AW aX ((i+1:Nat):Int)),(aX,A0 (.seq ⟨nU.map .ref⟩ ed)),(aA,A0 (.seq ⟨Jc (nO.take (i+1))⟩ (i+1))),(aK,IV w.2 (AE false) nO (i+1))]++P0):=by
  refine (ZN _ _ _ _ _ hT).symm.trans (.of_eq ?_)
  rw [show IV w.2 (AE false) nO (i+1)=AR [kE w.2 "early" (.str (AE false (nO.getD i (0,0)).1) 0),kE w.2 "late" (.str (AE false (nO.getD i (0,0)).2) 0)] 2 from rfl,e2,et]; rfl
 unfold Mf
 rw [show IV w.2 (AE false) nO i=kA w.2 (oP (fun j=>(AE false (nO.getD j (0,0)).1,AE false (nO.getD j (0,0)).2)) i) by cases i<;>rfl]
 exact Spec.nP.kp (Sg w b b2 aI aX nU[i] aA aK (oP (fun j=>(AE false (nO.getD j (0,0)).1,AE false (nO.getD j (0,0)).2)) i) fr i (AE false nO[i].1) (AE false nO[i].2) ⟨⟨C5 nO[i].1 nO[i].2⟩⟩ _ _ _ (fun L=>L=T) _ ed rfl hv (Jc (nO.take i)) i rfl rfl hsz (YF q4.1 q4.2 _)) (fun q p=>p.trans (ZN _ _ _ _ _ hT)) fun A1=>⟨_,key,rfl,.refl _⟩
theorem YE{n:Nat}(hn:nO.length=n+1)(aI aA aK fr:Nat) :
  (Hn (EY w.2) w.2 aI aX aA aK fr (AE false (nO.getD n (0,0)).1) (AE false (nO.getD n (0,0)).2) (.seq ⟨nU.map .ref⟩ ed) (BW (nO.length:Nat)).data (.seq ⟨Jc nO⟩ nO.length)).nP (wf w b b2) (A3 AQ) (fun L=>L=P0) (fun L=>L=P0):=by
 have fin:A9 (wf w b b2) (A3 AQ) (EE (EY w.2) [] aI aA aK fr) (Mf w.2 P0 aI aX aA aK nU nO ed nO.length) (fun e L=>e=.fin (.done .next)∧L.Perm ([(aI,BW (nO.length:Nat)),(aX,A0 (.seq ⟨nU.map .ref⟩ ed)),(aA,A0 (.seq ⟨Jc nO⟩ nO.length)),(aK,IV w.2 (AE false) nO nO.length)]++P0)):=by
  unfold Mf
  rw [List.take_length]
  exact Spec.nP.kp (OZ w b b2 aI aX aA aK fr nO.length _ _ (nU.map .ref) ed rfl (by rw [List.length_map,hl]; exact Nat.le_refl _) rfl (fun L=>L=[(aA,A0 (.seq ⟨Jc nO⟩ nO.length)),(aK,IV w.2 (AE false) nO nO.length)]++P0)) (fun q p=>p) fun A1=>⟨_,.refl _,rfl,.refl _⟩
 have h:=A9.loop AI (by kernel_rfl) (by kernel_rfl) (fun i hi=>UH (w:=w) (b:=b) (b2:=b2) hl hs h4 hP ed aX aI aA aK fr i hi) fin nO.length 0 (by lia)
 have hz:=Spec.nP.r6 (M:=fun L=>Mf w.2 P0 aI aX aA aK nU nO ed 0 L) (Oa w b b2 aI aA aK aX fr (.seq #[] 0) (fun L=>L=(aX,A0 (.seq ⟨nU.map .ref⟩ ed))::P0)) AI (by kernel_rfl) (fun q=>rfl) (fun A1=>⟨_,.refl _,(I4 _ _ _ _ _).symm⟩) h
 refine A9.qG (S:=Hn (EY w.2) w.2 aI aX aA aK fr (AE false (nO.getD n (0,0)).1) (AE false (nO.getD n (0,0)).2) (.seq ⟨nU.map .ref⟩ ed) (BW (nO.length:Nat)).data (.seq ⟨Jc nO⟩ nO.length)) hz ?_ ?_
 ·rintro P rfl
  exact ⟨_,I4 _ _ _ _ _,_,rfl,rfl⟩
 ·rintro e L ⟨rfl,p⟩
  rw [hn] at p
  exact ⟨fun q=>0,_,rfl,rfl,by rw [hn]; exact p⟩
inductive ME (P:Params) (P0:Lp) (aI aX aA aK:Nat) (nU:List Nat) (nO:List (Nat×Nat)) (ed:Nat) (i:Nat) (L:Lp):Prop
 | mk (as:List Nat) (h0:as.length=i) (h1:L.Perm ([(aI,AW aX i),(aX,A0 (.seq ⟨nU.map .ref⟩ ed)),(aA,A0 (.seq ⟨as.map .ref⟩ i)),(aK,IV P (AE false) nO i)]++(AN (AE true) as (BR (nO.take i))++P0))):ME P P0 aI aX aA aK nU nO ed i L
theorem Sa(aI aA aK fr:Nat)(i:Nat)(hi:i < nO.length) :
  A9 (wf w b b2) (A3 AQ) (EE (CI w.2) [] aI aA aK fr) (ME w.2 P0 aI aX aA aK nU nO ed i) (fun e L=>e=.fin (.again (EE (CI w.2) [] aI aA aK fr))∧ME w.2 P0 aI aX aA aK nU nO ed (i+1) L):=by
 have hp:nO[i]?=some nO[i]:=List.getElem?_eq_getElem hi
 have ha:nU[i]?=some nU[i]:=List.getElem?_eq_getElem (by lia)
 have q4:=h4 _ (List.getElem_mem hi)
 obtain ⟨T,hT⟩:=Ff (Fn false) hl hs hP ha hp
 have hv:(nU.map Value.ref)[i]?=some (.ref nU[i]):=by rw [List.getElem?_map,ha]; rfl
 have e2:nO.getD i (0,0)=nO[i]:=by simp [List.getD,hp]
 have et:BR (nO.take (i+1))=BR (nO.take i)++[(rk nO[i].2,rk nO[i].1)]:=by unfold BR; rw [List.take_add_one,hp,Option.toList_some,List.map_append]; rfl
 have sl:=A5
 rintro L0 ⟨as,has,pm⟩
 have tl:as.length=(BR (nO.take i)).length:=by unfold BR; rw [List.length_map,List.length_take]; lia
 have hadl:(as.map Value.ref).length≤sizeLine:=by rw [List.length_map]; lia
 have key:∀ (A1:Nat→Nat),(([(aI,AW aX ((i:Int)+1)),(aX,A0 (.seq ⟨nU.map .ref⟩ ed)),(nU[i],El (AE false nO[i].1) (AE false nO[i].2)),(aA,A0 (.seq ⟨as.map .ref++[.ref (A1 0)]⟩ (i+1))),(aK,AR [kE w.2 "early" (.str (AE false nO[i].1) 0),kE w.2 "late" (.str (AE false nO[i].2) 0)] 2)]++(AN (AE true) as (BR (nO.take i))++T))++[(A1 0,El (AE true (rk nO[i].2)) (AE true (rk nO[i].1)))]).Perm ([(aI,AW aX ((i+1:Nat):Int)),(aX,A0 (.seq ⟨nU.map .ref⟩ ed)),(aA,A0 (.seq ⟨(as++[A1 0]).map .ref⟩ (i+1))),(aK,IV w.2 (AE false) nO (i+1))]++(AN (AE true) (as++[A1 0]) (BR (nO.take (i+1)))++P0)):=by
  intro A1
  rw [et,Eh tl,List.map_append,show IV w.2 (AE false) nO (i+1)=AR [kE w.2 "early" (.str (AE false (nO.getD i (0,0)).1) 0),kE w.2 "late" (.str (AE false (nO.getD i (0,0)).2) 0)] 2 from rfl,e2]
  exact fh _ _ _ _ _ _ _ hT
 refine (show A9 _ _ _ (fun L=>L.Perm ([(aI,AW aX i),(aX,A0 (.seq ⟨nU.map .ref⟩ ed)),(aA,A0 (.seq ⟨as.map .ref⟩ i)),(aK,IV w.2 (AE false) nO i)]++(AN (AE true) as (BR (nO.take i))++P0))) _ from ?_) L0 pm
 rw [show IV w.2 (AE false) nO i=kA w.2 (oP (fun j=>(AE false (nO.getD j (0,0)).1,AE false (nO.getD j (0,0)).2)) i) by cases i<;>rfl]
 refine ((Spec.nX.n (Spec.oC.d (Sd w b b2 aI aX nU[i] aA aK (oP (fun j=>(AE false (nO.getD j (0,0)).1,AE false (nO.getD j (0,0)).2)) i) fr i i (as.map .ref) (AE false nO[i].1) (AE false nO[i].2) (AE true (rk nO[i].2)) (AE true (rk nO[i].1)) _ _ (fun L=>L=AN (AE true) as (BR (nO.take i))++T) _ ed rfl hv (Jf q4.2 _) (Jf q4.1 _) rfl hadl))).k (oA:=fun e L=>e=.fin (.again (EE (CI w.2) [] aI aA aK fr))∧ME w.2 P0 aI aX aA aK nU nO ed (i+1) L) ?_).nV ?_ (fun e L h=>⟨L,.refl _,h⟩)
 ·rintro e Lk Ln ⟨z,A1,P',⟨hz,rfl⟩,rfl,rfl,rfl⟩
  have hz:z=.seq ⟨as.map .ref++[.ref (A1 0)]⟩ (i+1):=hz
  subst hz
  exact ⟨rfl,as++[A1 0],by simp [has],key A1⟩
 ·intro L p
  exact ⟨_,p.trans (fg _ _ _ _ _ _ hT),_,rfl,rfl⟩
theorem Wk{n:Nat}(hn:nO.length=n+1)(aI aA aK fr:Nat) :
  Spec.nX (fun z=>Hn (CI w.2) w.2 aI aX aA aK fr (AE false (nO.getD n (0,0)).1) (AE false (nO.getD n (0,0)).2) (.seq ⟨nU.map .ref⟩ ed) (BW (nO.length:Nat)).data z) (fun z q P'=>TU (AE true) (BR nO) P0 z P') (Hn (CI w.2) w.2 aI aX aA aK fr (AE false (nO.getD n (0,0)).1) (AE false (nO.getD n (0,0)).2) (.seq ⟨nU.map .ref⟩ ed) (BW (nO.length:Nat)).data .plain) (wf w b b2) (A3 AQ) (fun L=>L=P0):=by
 have fin:A9 (wf w b b2) (A3 AQ) (EE (CI w.2) [] aI aA aK fr) (ME w.2 P0 aI aX aA aK nU nO ed nO.length) (fun e L=>e=.fin (.done .next)∧∃ as:List Nat,as.length=nO.length∧L.Perm ([(aI,BW (nO.length:Nat)),(aX,A0 (.seq ⟨nU.map .ref⟩ ed)),(aA,A0 (.seq ⟨as.map .ref⟩ nO.length)),(aK,IV w.2 (AE false) nO nO.length)]++(AN (AE true) as (BR nO)++P0))):=by
  rintro L0 ⟨as,has,pm⟩
  rw [List.take_length] at pm
  refine (show A9 _ _ _ (fun L=>L.Perm ([(aI,AW aX nO.length),(aX,A0 (.seq ⟨nU.map .ref⟩ ed)),(aA,A0 (.seq ⟨as.map .ref⟩ nO.length)),(aK,IV w.2 (AE false) nO nO.length)]++(AN (AE true) as (BR nO)++P0))) _ from ?_) L0 pm
  exact Spec.nP.kp (OV w b b2 aI aX aA aK fr nO.length _ _ (nU.map .ref) ed rfl (by rw [List.length_map,hl]; exact Nat.le_refl _) rfl (fun L=>L=[(aA,A0 (.seq ⟨as.map .ref⟩ nO.length)),(aK,IV w.2 (AE false) nO nO.length)]++(AN (AE true) as (BR nO)++P0))) (fun q p=>p) fun A1=>⟨_,.refl _,rfl,as,has,.refl _⟩
 have h:=A9.loop AI (by kernel_rfl) (by kernel_rfl) (fun i hi=>Sa (w:=w) (b:=b) (b2:=b2) hl hs h4 hP ed aX aI aA aK fr i hi) fin nO.length 0 (by lia)
 have hz:=Spec.nP.r6 (M:=fun L=>ME w.2 P0 aI aX aA aK nU nO ed 0 L) (OW w b b2 aI aA aK aX fr (.seq #[] 0) (fun L=>L=(aX,A0 (.seq ⟨nU.map .ref⟩ ed))::P0)) AI (by kernel_rfl) (fun q=>rfl) (fun A1=>⟨_,.refl _,[],rfl,(I4 _ _ _ _ _).symm⟩) h
 refine A9.toD (F:=fun z=>Hn (CI w.2) w.2 aI aX aA aK fr (AE false (nO.getD n (0,0)).1) (AE false (nO.getD n (0,0)).2) (.seq ⟨nU.map .ref⟩ ed) (BW (nO.length:Nat)).data z) (S:=Hn (CI w.2) w.2 aI aX aA aK fr (AE false (nO.getD n (0,0)).1) (AE false (nO.getD n (0,0)).2) (.seq ⟨nU.map .ref⟩ ed) (BW (nO.length:Nat)).data .plain) hz ?_ ?_
 ·rintro P rfl
  exact ⟨_,I4 _ _ _ _ _,_,rfl,rfl⟩
 ·rintro e L ⟨rfl,as,has,p⟩
  rw [hn] at p has
  refine ⟨.seq ⟨as.map .ref⟩ (n+1),fun q=>0,_,⟨as,by unfold BR; rw [List.length_map,hn],by unfold BR; rw [List.length_map,hn,has],.refl _⟩,rfl,?_⟩
  rw [hn]; exact p
end
section
variable{w:World}{b b2:Bool}(nm:Nat→Str)(S:Nat→Str){ps:List (Nat×Nat)}(v:Bool){DF DG:Data}{fs gs:List Value}{ef eg:Nat}(hF:sw v DF DG=.seq ⟨fs⟩ ef)(hG:sw v DG DF=.seq ⟨gs⟩ eg)(hf:fs.length=ps.length)(hg:gs.length=ps.length)(hs:ps.length < 100)(P0:Lp)
 (hX:∀ (i:Nat) (h:i < ps.length),fs[i]?=some (.str (nm ps[i].1) 0)) (hS:∀ (i:Nat) (h:i < ps.length),gs[ps.length-1-i]?=some (.str (S i) 0)) (ht:∀ (i:Nat) (h:i < ps.length) (I:Lp→Prop),(Qc (S i) (nm ps[i].2)).nP (wf w b b2) (A3 Cg) I I)
inductive NB (nm:Nat→Str) (ps:List (Nat×Nat)) (DF DG:Data) (P0:Lp) (P:Params) (aI aA aK nT oD aF aG:Nat) (i:Nat) (L:Lp):Prop
 | mk (as:List Nat) (h0:as.length=i) (h1:L.Perm ([(aI,B2 (i:Nat) ((ps.length-i:Nat):Int) 1),(aA,A0 (.seq ⟨as.map .ref⟩ i)),(aK,kI P "k" (oP (fun j=>(j:Int)) i)),(nT,AH aF),(oD,AH aG),(aF,A0 DF),(aG,A0 DG)]++(AN nm as (ps.take i)++P0))):NB nm ps DF DG P0 P aI aA aK nT oD aF aG i L
include hF hG hf hg hs hX hS ht
theorem Qk(aI aA aK nT oD aF aG fr:Nat)(i:Nat)(hi:i < ps.length) :
  A9 (wf w b b2) (A3 AQ) (EE (FV v w.2) (cT nT oD) aI aA aK fr) (NB nm ps DF DG P0 w.2 aI aA aK nT oD aF aG i) (fun e L=>e=.fin (.again (EE (FV v w.2) (cT nT oD) aI aA aK fr))∧NB nm ps DF DG P0 w.2 aI aA aK nT oD aF aG (i+1) L):=by
 have hp:ps[i]?=some ps[i]:=List.getElem?_eq_getElem hi
 have et:ps.take (i+1)=ps.take i++[ps[i]]:=by rw [List.take_add_one,hp]; rfl
 have sl:=A5
 have j0:(0:Int)≤((ps.length:Nat):Int)-1-(i:Nat):=mD hi
 have jn:(((ps.length:Nat):Int)-1-(i:Nat)).toNat=ps.length-1-i:=m5 _ _
 have rV:=hS i hi
 rw [← jn] at rV
 rintro L0 ⟨as,has,pm⟩
 have tl:as.length=(ps.take i).length:=by rw [List.length_take,Nat.min_eq_left (Nat.le_of_lt hi)]; exact has
 have hadl:(as.map Value.ref).length≤sizeLine:=by rw [List.length_map]; lia
 obtain ⟨k,hk⟩:∃ k,ps.length-i=k+1:=mB hi
 have key:∀ (A1:Nat→Nat),(([(aI,B2 ((i:Nat)+1) (((k+1:Nat):Int)-1) 1),(aA,A0 (.seq ⟨as.map .ref++[.ref (A1 0)]⟩ (i+1))),(aK,kI w.2 "k" (oP (fun j=>(j:Int)) (i+1))),(nT,AH aF),(oD,AH aG),(aF,A0 DF),(aG,A0 DG)]++(AN nm as (ps.take i)++P0))++[(A1 0,El (nm ps[i].1) (nm ps[i].2))]).Perm ([(aI,B2 ((i+1:Nat):Int) ((ps.length-(i+1):Nat):Int) 1),(aA,A0 (.seq ⟨(as++[A1 0]).map .ref⟩ (i+1))),(aK,kI w.2 "k" (oP (fun j=>(j:Int)) (i+1))),(nT,AH aF),(oD,AH aG),(aF,A0 DF),(aG,A0 DG)]++(AN nm (as++[A1 0]) (ps.take (i+1))++P0)):=by
  intro A1
  rw [et,Eh tl,List.map_append,m9 hk]
  exact ZP _ _ _ _
 rw [hk] at pm
 refine ((Sb w b b2 aI aA aK nT oD aF aG v (oP (fun j=>(j:Int)) i) fr ps.length k i ((i:Nat):Int) (as.map .ref) (S i) (nm ps[i].1) (nm ps[i].2) _ _ _ (fun L=>L=AN nm as (ps.take i)++P0) fs gs _ _ hF hG (by lia) (by lia) (by lia) (by lia) (hX i hi) j0 rV (ht i hi _) rfl hadl).kz (oK:=fun L=>L=L0) (by rintro _ rfl; exact pm) (fun z A1 hz=>?_)) L0 rfl
 have hz:z=.seq ⟨as.map .ref++[.ref (A1 0)]⟩ (i+1):=hz
 subst hz
 exact ⟨_,key A1,rfl,as++[A1 0],by simp [has],.refl _⟩
theorem NA{n:Nat}(hn:ps.length=n+1)(aI aA aK nT oD aF aG fr:Nat) :
  Spec.nX (fun z=>IZ (FV v w.2) w.2 aI aA aK nT oD aF aG fr ps.length DF DG z) (fun z q P'=>TU nm ps P0 z P') (IZ (FV v w.2) w.2 aI aA aK nT oD aF aG fr ps.length DF DG .plain) (wf w b b2) (A3 AQ) (fun L=>L=P0):=by
 have fin:A9 (wf w b b2) (A3 AQ) (EE (FV v w.2) (cT nT oD) aI aA aK fr) (NB nm ps DF DG P0 w.2 aI aA aK nT oD aF aG ps.length) (fun e L=>e=.fin (.done .next)∧∃ as:List Nat,as.length=ps.length∧L.Perm ([(aI,B2 (ps.length:Nat) 0 1),(aA,A0 (.seq ⟨as.map .ref⟩ ps.length)),(aK,AR [kE w.2 "k" (.int (n:Nat) 0)] 1),(nT,AH aF),(oD,AH aG),(aF,A0 DF),(aG,A0 DG)]++(AN nm as ps++P0))):=by
  rintro L0 ⟨as,has,pm⟩
  rw [List.take_length,show (ps.length-ps.length:Nat)=0 by lia,hn] at pm
  rw [hn]
  exact (Spec.nP.kp (oK:=fun L=>L=L0) (OS w b b2 aI aK v nT oD aA fr ((n+1:Nat):Int) (n:Nat) (fun L=>L=[(aA,A0 (.seq ⟨as.map .ref⟩ (n+1))),(nT,AH aF),(oD,AH aG),(aF,A0 DF),(aG,A0 DG)]++(AN nm as ps++P0))) (by rintro _ rfl; exact pm.trans (ZM _ _ _ _)) (fun A1=>⟨_,(ZM _ _ _ _).symm,rfl,as,by lia,.refl _⟩)) L0 rfl
 have h:=A9.loop AI (by cases v<;>kernel_rfl) (by cases v<;>kernel_rfl) (fun i hi=>Qk (w:=w) (b:=b) (b2:=b2) nm S v hF hG hf hg hs P0 hX hS ht aI aA aK nT oD aF aG fr i hi) fin ps.length 0 (by lia)
 have hz:=Spec.nP.r6 (M:=fun L=>NB nm ps DF DG P0 w.2 aI aA aK nT oD aF aG 0 L) (OT w b b2 aI aA aK v nT oD fr ((0:Nat):Int) ((ps.length:Nat):Int) (.seq #[] 0) (fun L=>L=[(nT,AH aF),(oD,AH aG),(aF,A0 DF),(aG,A0 DG)]++P0)) AI (by cases v<;>kernel_rfl) (fun q=>rfl) (fun A1=>⟨_,.refl _,[],rfl,.refl _⟩) h
 refine A9.toD (F:=fun z=>IZ (FV v w.2) w.2 aI aA aK nT oD aF aG fr ps.length DF DG z) (S:=IZ (FV v w.2) w.2 aI aA aK nT oD aF aG fr ps.length DF DG .plain) hz ?_ ?_
 ·rintro P rfl
  exact ⟨_,.refl _,_,rfl,rfl⟩
 ·rintro e L ⟨rfl,as,has,p⟩
  refine ⟨.seq ⟨as.map .ref⟩ ps.length,fun q=>0,_,⟨as,rfl,has,.refl _⟩,rfl,p.trans (.of_eq ?_)⟩
  show _=[(aI,B2 (ps.length:Nat) 0 1),(aA,_),(aK,AR [kE w.2 "k" (.int ((ps.length:Int)-1) 0)] 1),(nT,AH aF),(oD,AH aG),(aF,_),(aG,_)]++_
  rw [show ((ps.length:Int)-1)=(n:Nat) by lia]
end
end
end
section
open PySem PySem.W PySem.W.X PyProof.Rows PySem.SeqAt
noncomputable def EJ:List Sh:=[.func,.bi "claim.caller" 0]
def Mk:Pos→List Frame→Prop:=fun pc nj=>Il pc nj∧A3 EJ pc nj
theorem Le{w:World}{f:Value}{as:List Value}{Pre:Lp→Prop}{ni:End→Lp→Prop}
  (h:∀ (vs:List Value) (A:Around) (s:Shared) (L:Lp),Pre L→vs.map eV=as→BX (A4 w.2) s L→A.units≤50→∀ (Q E:Value→Shared→Prop),(∀ v s' L',ni (.fin (.done (.ret (eV v)))) L'→BX (A4 w.2) s' L'→Fr s s' L L'→Q v s')→wpAny (model pw w) A (call f vs) Q E s):Dn w Mk (.call f ⟨as,[]⟩) Pre ni:=by
 intro c s pc nj L hp hc H hs
 obtain ⟨vs,rfl,e⟩:=AZ hc
 obtain ⟨⟨k,g,l,cd,rest,rfl⟩,hs⟩:=hs
 have hu:(Ctx.of cd rest).units≤50:=by
  obtain ⟨d,hd⟩:=G1 (ss:=EJ) 0 hs
  have hd:Frame.ret k none g l cd pc []::rest=[(Sh.func).frame (d 0),(Sh.bi "claim.caller" 0).frame (d 1)]:=hd
  have h1:=(List.cons.inj hd).1
  have h2:=(List.cons.inj hd).2
  have h1:Frame.ret k none g l cd pc []=Frame.ret (d 0).k none (d 0).g (d 0).l (.func (d 0).body (d 0).env) (d 0).pos []:=h1
  cases h1
  subst h2
  show Nat.le _ _
  exact Nat.le_of_ble_eq_true rfl
 exact C' (c:=.call f ⟨vs,[]⟩) (h vs (UI cd rest) s L hp e H hu (fun v s'=>∃ L',ni (.fin (.done (.ret (eV v)))) L'∧BX (A4 w.2) s' L'∧Fr s s' L L') (fun q q=>False) fun v s' L' a b c=>⟨L',a,b,c⟩) (fun v s' _ _ ⟨L',a,b,c⟩ go=>⟨.fin (.done (.ret v)),s',L',_,_,go,a,b,c⟩) (fun q q q q h=>h.elim)
theorem LV{v:Value}{a:Bool}(h:eV v=.bool a):v=.bool a:=by
 cases v with
 | bool i=>cases h; rfl
 | _=>cases h
theorem EN{kt:KT}{s:Shared}{L:Lp}{t:Nat}{u v:Value}(H:BX kt s L)(m:(t,AV (.seq #[u,v] 0))∈L):∃ x y,s.heap.get? t=some { cls:=.type "tuple",dict:=none,data:=.seq #[x,y] 0,slots:=#[] }∧eV x=u∧eV y=v:=by
 obtain ⟨o,g,e⟩:=H.own _ m
 obtain ⟨⟨l⟩,rfl,h⟩:=Eb (vs:=[u,v]) e
 obtain ⟨x,y,rfl,p,q⟩:=Bb h
 exact ⟨x,y,g,p,q⟩
theorem N6{A:Around}{s:Shared}{x1 y1 x2 y2:Value}(h0:EqAt A s x1 x2 true)(h1:EqAt A s y1 y2 true):∀ (i:Nat) (h:i < #[x1,y1].size) (h':i < #[x2,y2].size),EqAt A s #[x1,y1][i] #[x2,y2][i] true
 | 0,_,_=>h0
 | 1,_,_=>h1
 | n+2,h,_=>absurd h (Nat.not_lt.mpr (Nat.le_add_left 2 n))
theorem R7{w:World}{nm:Nat→Str}{A:Around}{s:Shared}(hu:A.units≤60){L:Lp}(H:BX (A4 w.2) s L)(l:List (Nat×Nat)){ra rb:List Nat}(ha:ra.length=l.length)(hb:rb.length=l.length)(ma:∀ q∈BJ nm ra l,q∈L)(mb:∀ q∈BJ nm rb l,q∈L)(j:Nat)(hj:j < l.length){x y:Value}(hx:(ra.map Value.ref)[j]?=some (eV x))(hy:(rb.map Value.ref)[j]?=some (eV y)):EqAt A s x y true:=by
 have ka:ra[j]?=some (ra[j]'(by lia)):=List.getElem?_eq_getElem _
 have kb:rb[j]?=some (rb[j]'(by lia)):=List.getElem?_eq_getElem _
 have kl:l[j]?=some l[j]:=List.getElem?_eq_getElem hj
 rw [List.getElem?_map,ka] at hx
 rw [List.getElem?_map,kb] at hy
 simp only [Option.map_some,Option.some.injEq] at hx hy
 obtain rfl:=AD hx.symm
 obtain rfl:=AD hy.symm
 by_cases e:ra[j]=rb[j]
 ·rw [e]; exact EqAt.same _
 ·have m1:(ra[j],Gw nm l[j].1 l[j].2)∈BJ nm ra l:=List.mem_map.mpr ⟨(ra[j],l[j]),List.mem_of_getElem? (i:=j) (List.getElem?_zip_eq_some.mpr ⟨ka,kl⟩),rfl⟩
  have m2:(rb[j],Gw nm l[j].1 l[j].2)∈BJ nm rb l:=List.mem_map.mpr ⟨(rb[j],l[j]),List.mem_of_getElem? (i:=j) (List.getElem?_zip_eq_some.mpr ⟨kb,kl⟩),rfl⟩
  obtain ⟨a1,b1,g1,p1,p2⟩:=EN H (ma _ m1)
  obtain ⟨a2,b2,g2,p3,p4⟩:=EN H (mb _ m2)
  obtain ⟨t1,rfl⟩:=AM p1
  obtain ⟨t2,rfl⟩:=E8 p2
  obtain ⟨t3,rfl⟩:=AM p3
  obtain ⟨t4,rfl⟩:=E8 p4
  exact EqAt.of_refs e (RcAt.tuples (A:=A) (s:=s) (e:=fun z=>true) ⟨_,g1,rfl,_,rfl⟩ ⟨_,g2,rfl,_,rfl⟩ (Nat.lt_of_le_of_lt hu (by decide)) (N6 (by have:=EqAt.str_str (A:=A.in1) (s:=s) (nm l[j].1) t1 (nm l[j].1) t3; rwa [beq_self_eq_true] at this) (by have:=EqAt.int_int (A:=A.in1) (s:=s) (l[j].2:Nat) t2 (l[j].2:Nat) t4; rwa [beq_self_eq_true] at this)))
theorem Oi{w:World}{nm:Nat→Str}{A:Around}{s:Shared}(hu:A.units≤51){L:Lp}(H:BX (A4 w.2) s L)(l:List (Nat×Nat)){ra rb:List Nat}{a b ea eb:Nat}(oV:ra.length=l.length)(qV:rb.length=l.length)(ma:∀ q∈(a,A0 (.seq ⟨ra.map .ref⟩ ea))::BJ nm ra l,q∈L)(mb:∀ q∈(b,A0 (.seq ⟨rb.map .ref⟩ eb))::BJ nm rb l,q∈L):EqAt A s (.ref a) (.ref b) true:=by
 by_cases e:a=b
 ·subst e; exact EqAt.same _
 ·obtain ⟨o3,g3,e3⟩:=H.own _ (ma _ (.head _))
  obtain ⟨o4,g4,e4⟩:=H.own _ (mb _ (.head _))
  obtain ⟨x3,rfl,y3⟩:=Ap e3
  obtain ⟨x4,rfl,y4⟩:=Ap e4
  have s3:=B7 y3
  have s4:=B7 y4
  rw [List.length_map] at s3 s4
  have r:=EqAt.of_refs e (RcAt.lists (A:=A) (s:=s) (e:=fun z=>true) ⟨_,g3,rfl,_,rfl⟩ ⟨_,g4,rfl,_,rfl⟩ (by rw [s3,s4,oV,qV]) (Nat.lt_of_le_of_lt hu (by decide)) fun j h1 h2=>by
   have k1:=De y3 j
   have k2:=De y4 j
   rw [Array.getElem?_eq_getElem h1] at k1
   rw [Array.getElem?_eq_getElem h2] at k2
   exact R7 (nm:=nm) (show A.in1.units≤60 from Nat.le_trans (Nat.succ_le_succ hu) (by decide)) H l oV qV (fun q m=>ma q (.tail _ m)) (fun q m=>mb q (.tail _ m)) j (by rw [← oV,← s3]; exact h1) k1.symm k2.symm)
  rwa [show ((List.range x3.size).all fun z=>true)=true by simp] at r
def Xj(t1 t2:Nat)(z1 z2:Data):Spec:=⟨.call (.builtin "tuple.__eq__") ⟨[.ref t1,.ref t2],[]⟩,[t1,t2],[AV z1,AV z2],EJ,fun q=>.fin (.done (.ret (.bool true))),fun q=>[AV z1,AV z2],fun q=>[]⟩
def nL(nm:Nat→Str)(wh:Bool)(l:List (Nat×Nat))(z1 z2:Data)(L:Lp):Prop:=∃ L1 L2 R,RT nm wh l z1 L1∧RT nm wh l z2 L2∧L.Perm (L1++(L2++R))
theorem Xi{w:World}(nm:Nat→Str)(wh:Bool)(l:List (Nat×Nat))(t1 t2:Nat)(z1 z2:Data){P:Lp}(h:nL nm wh l z1 z2 P):(Xj t1 t2 z1 z2).nP w Mk (fun L=>L=P) (fun L=>L=P):=by
 rintro P' rfl
 obtain ⟨L1,L2,R,⟨a,ra,ea,Ra,rfl,oV,pa⟩,⟨b,rb,eb,Rb,rfl,qV,pb⟩,pm⟩:=h
 refine Le fun vs A s L hL hv H hu Q E hq=>?_
 subst hL
 obtain ⟨u,v,rfl,h1,h2⟩:=Bb hv
 obtain rfl:=AD h1
 obtain rfl:=AD h2
 have mP:∀ q,q∈L1++(L2++R)→q∈(Xj t1 t2 (.seq #[.bool wh,.ref a] 0) (.seq #[.bool wh,.ref b] 0)).oH++P':=fun q m=>List.mem_append_right _ (pm.mem_iff.mpr m)
 have hl:EqAt A.in1 s (.ref a) (.ref b) true:=Oi (Nat.succ_le_succ hu) H l oV qV (fun q m=>mP q (List.mem_append_left _ (pa.mem_iff.mpr (List.mem_append_left Ra m)))) (fun q m=>mP q (List.mem_append_right _ (List.mem_append_left _ (pb.mem_iff.mpr (List.mem_append_left Rb m)))))
 obtain ⟨p1,p2,g1,r1,r2⟩:=EN (t:=t1) (u:=.bool wh) (v:=.ref a) H (List.mem_append_left _ (.head _))
 obtain ⟨p3,p4,g2,r3,r4⟩:=EN (t:=t2) (u:=.bool wh) (v:=.ref b) H (List.mem_append_left _ (.tail _ (.head _)))
 obtain rfl:=AD r2
 obtain rfl:=AD r4
 obtain rfl:=LV r1
 obtain rfl:=LV r3
 refine call_meets F.slot_tuple_eq ⟨_,g1,rfl⟩ F.entry_tuple_eq (F.args_tuple_eq_2 _ _) (PySem.SeqAt.tuple_eqAt t1 t2 #[.bool wh,.ref a] #[.bool wh,.ref b] 0 0 none none #[] #[] (fun z=>true)) ⟨g1,g2,?_,?_⟩
 ·exact N6 (by have:=EqAt.bool_bool (A:=A.in1) (s:=s) wh wh; rwa [beq_self_eq_true] at this) hl
 ·refine hq (.bool true) s _ ⟨fun z=>0,P',rfl,fun a m=>m,rfl,rfl⟩ H ⟨rfl,rfl,rfl,rfl,fun b o h z=>h,fun q m=>.inl (List.mem_map_of_mem m)⟩
section
theorem Tg{o:Obj}{i:Int}(h:eO o=Qv .none (.int i 0) .none):∃ t,o = { cls:=.type "slice",dict:=none,data:=.fields #[.none,.int i t,.none],slots:=#[] }:=by
 obtain ⟨q,e⟩:=Bj o
 rw [h] at e
 subst e
 exact ⟨_,rfl⟩
def Zi(m j:Nat)(D D':Data):AA:=M6 (fun x=>.call (.builtin "list.__getitem__") ⟨[.ref (A2 x m),.ref (A2 x j)],[]⟩) [m,j] (fun x=>[some (A2 x m,A0 D),some (A2 x j,Qv .none (.int 3 0) .none)]) true (fun q=>A0 D')
theorem Rr{w:World}{D D':Data}{vs:List Value}{n m j:Nat}(hD:D=.seq ⟨vs⟩ n)(pF:D'=.seq ⟨vs.take 3⟩ 0)(hs:vs.length≤sizeLine):(Zi m j D D').Ok pw w (A4 w.2):=EO fun c x hc hp=>by
 subst hD pF
 obtain ⟨ps,rfl,e⟩:=AZ hc
 obtain ⟨u,v,rfl,e1,e2⟩:=Bb e
 obtain rfl:=AD e1
 obtain rfl:=AD e2
 obtain ⟨p1,p2⟩:=M4 hp
 obtain ⟨o1,h1,hO1⟩:=B0 p1
 obtain ⟨o2,h2,hO2⟩:=B0 p2
 obtain ⟨xs,rfl,hx⟩:=Ap hO1
 obtain ⟨t,rfl⟩:=Tg hO2
 refine ⟨_,_,rfl,fun A s D Q E hq=>?_⟩
 have ho:=D.own _ _ _ h1
 have pZ:=D.own _ _ _ h2
 have hl:=B7 hx
 have hTs:s.TypeIs (.ref (A2 x j)) "slice":=⟨_,pZ,rfl⟩
 refine wpAny_call_entry slot_list_getitem ⟨_,ho,rfl⟩ entry_list_getitem ?_ (args_list_getitem _ _)
 show wpAny _ _ (Builtin.List.listSubscript? (.ref (A2 x j))>>=_) _ _ s
 refine wpAny_bind ?_
 unfold Builtin.List.listSubscript?
 refine wpAny_bind (wpAny_specialOf hTs slice_no_index ?_)
 simp only [Option.isNone_none,if_true]
 refine wpAny_pure ?_
 show wpAny _ _ (typeOf (.ref (A2 x j))>>=_) _ _ s
 refine wpAny_bind (wpAny_typeOf hTs ?_)
 rw [if_neg (by decide)]
 rw [listSliceParts_eq]
 refine wpAny_bind (wpAny_bind (wpAny_field pZ rfl (x:=.none) rfl (wpAny_bind (wpAny_listPart IsPart.none ?_))))
 rw [if_neg (by exact Bool.false_ne_true)]
 refine wpAny_bind (wpAny_field pZ rfl (x:=.none) rfl (wpAny_bind (wpAny_listPart IsPart.none ?_)))
 refine wpAny_bind (wpAny_field pZ rfl (x:=.int 3 t) rfl (wpAny_bind (wpAny_listPart (IsPart.int 3 t) (wpAny_pure ?_))))
 refine wpAny_bind (m:=Builtin.List.listItems (.ref (A2 x m))) ?_
 unfold Builtin.List.listItems
 refine wpAny_bind (wpAny_seqItems ho rfl (wpAny_pure ?_))
 refine wpAny_bind (wpAny_of_eq (sliceIndices_raw none (some ((3:Nat):Int)) none xs.size (by simp)) ?_)
 have sp:slicePick xs none (some ((3:Nat):Int)) none=(xs.toList.take 3).toArray:=slicePick_upto' xs 3
 refine wpAny_bind (wpAny_newObj_type (wpAny_pure ⟨_,rfl,?_⟩) (Nat.le_trans (slicePick_size_le xs none (some ((3:Nat):Int)) none) (by lia)))
 refine hq _ _ { cls:=.type "list",dict:=none,data:=.seq (slicePick xs none (some ((3:Nat):Int)) none) 0,slots:=#[] } (by exact C8 (n:=s.toks)) (Nat.le_refl _) (Heap.get?_push_size _ rfl) ?_
 rw [sp]
 show eO _=A0 (.seq ⟨vs.take 3⟩ 0)
 have:((xs.toList.take 3).toArray.toList).map eV=vs.take 3:=by
  rw [← hx]; simp [List.map_take]
 rw [← this]; rfl
def St(A B:Lp→Prop)(L:Lp):Prop:=∃ La Lb,A La∧B Lb∧L.Perm (La++Lb)
theorem St.mono{A A' B B':Lp→Prop}(h1:∀ L,A L→A' L)(h2:∀ L,B L→B' L):∀ L,St A B L→St A' B' L:=fun _ ⟨La,Lb,a,b,p⟩=>⟨La,Lb,h1 _ a,h2 _ b,p⟩
theorem St.r{A B B':Lp→Prop}(h2:∀ L,B L→B' L):∀ L,St A B L→St A B' L:=St.mono (fun q h=>h) h2
theorem fV{α:Type}(a b c:List α):(a++(b++c)).Perm (b++(a++c)):=
 FQ [a,b,c] (.r [0,1] (.l 2)) (.r [1,0] (.l 2)) rfl
theorem St.lc{A B C:Lp→Prop}:∀ L,St A (St B C) L→St B (St A C) L:=fun _ ⟨La,_,a,⟨Lb,Lc,b,c,p⟩,q⟩=>⟨Lb,La++Lc,b,⟨La,Lc,a,c,.refl _⟩,q.trans ((List.Perm.append_left _ p).trans (fV _ _ _))⟩
theorem St.sw{A B:Lp→Prop}:∀ L,St A B L→St B A L:=fun _ ⟨La,Lb,a,b,p⟩=>⟨Lb,La,b,a,p.trans List.perm_append_comm⟩
theorem St.as{A B C:Lp→Prop}:∀ L,St (St A B) C L→St A (St B C) L:=fun _ ⟨_,Lc,⟨La,Lb,a,b,p⟩,c,q⟩=>⟨La,Lb++Lc,a,⟨Lb,Lc,b,c,.refl _⟩,q.trans ((p.append_right _).trans (.of_eq (List.append_assoc _ _ _)))⟩
section
variable{w:World}{Sh:Pos→List Frame→Prop}
theorem Spec.nX.mono{Z:Type}{F:Z→Spec}{O O':Z→(Nat→Nat)→Lp→Prop}{S:Spec}{I I':Lp→Prop}(h:Spec.nX F O S w Sh I)(h1:∀ P,I' P→I P)(h2:∀ z A P,O z A P→O' z A P):Spec.nX F O' S w Sh I':=
 fun P hI=>(h P (h1 P hI)).nV (fun q e=>e) fun e L ⟨z,A,P',a,b,c,d⟩=>⟨z,A,P',h2 _ _ _ a,b,c,d⟩
theorem Spec.nX.st{Z:Type}{F:Z→Spec}{O:Z→(Nat→Nat)→Lp→Prop}{S:Spec}{I:Lp→Prop}(h:Spec.nX F O S w Sh I)(B:Lp→Prop):Spec.nX F (fun z A=>St (O z A) B) S w Sh (St I B):=by
 rintro P ⟨Pa,Pb,ha,hb,pm⟩ c s pc nj L eL hC H hs
 subst eL
 have p1:(S.oH++P).Perm ((S.oH++Pa)++Pb):=(List.Perm.append_left _ pm).trans (.of_eq (List.append_assoc _ _ _).symm)
 obtain ⟨e,s',L',oI,pos',go,⟨L1,⟨z,A,P',hO,sub,he,rfl⟩,rfl⟩,H',Fx⟩:=(h Pa ha).frame Pb c s pc nj _ ⟨S.oH++Pa,rfl,rfl⟩ hC (H.perm p1) hs
 rw [List.append_assoc ((F z).o8 A) P' Pb] at H' Fx
 refine ⟨e,s',(F z).o8 A++(P'++Pb),oI,pos',go,⟨z,A,P'++Pb,⟨P',Pb,hO,hb,.refl _⟩,fun a m=>?_,he,rfl⟩,H',Fx.life,Fx.gens,Fx.drawn,Fx.os,fun b o e n=>Fx.old b o e fun m=>n ((p1.map _).mem_iff.mpr m),fun q m=>(Fx.new q m).imp (fun a=>(p1.map _).mem_iff.mpr a) id⟩
 have m:=(pm.map (·.1)).mem_iff.mp m
 rw [List.map_append] at m ⊢
 rcases List.mem_append.mp m with m | m
 ·exact List.mem_append_left _ (sub a m)
 ·exact List.mem_append_right _ m
end
inductive Fs (nm:Nat→Str) (nO:List (Nat×Nat)) (z:Data) (L:Lp):Prop
 | mk (nU:List Nat) (h0:z=.seq ⟨nU.map .ref⟩ nO.length) (h1:nU.length=nO.length) (h2:L.Perm (AN nm nU nO)):Fs nm nO z L
theorem TU.st{nm:Nat→Str}{nO:List (Nat×Nat)}{P0:Lp}{I:Lp→Prop}(hI:I P0){z:Data}{L:Lp}(h:TU nm nO P0 z L):St (Fs nm nO z) I L:=by
 obtain ⟨nU,h1,h2,p⟩:=h
 exact ⟨_,P0,⟨nU,h1,h2,.refl _⟩,hI,p⟩
def LA(P:Params)(nQ nR:Nat)(D DW z:Data):Spec:=⟨.call (.ref 935) ⟨[.ref nQ],[]⟩,[nQ,nR],[A0 D,Dp nR DW],EI P nR,fun A=>.fin (.done (.ret (.ref (A 0)))),fun q=>[A0 D,Dp nR DW],fun q=>[AV z]⟩
def KX(P:Params)(nQ:Nat)(D z:Data):Spec:=⟨.call (.ref 940) ⟨[.ref nQ],[]⟩,[nQ],[A0 D],EJ,fun A=>.fin (.done (.ret (.ref (A 0)))),fun q=>[A0 D],fun q=>[AV z]⟩
theorem ZJ{α:Type}{P T:List α}(A:List α)(h:P.Perm T):(A++P).Perm ((A++T)++[]):=by
 rw [List.append_nil]; exact List.Perm.append_left _ h
theorem ZI{α:Type}(A T P:List α):((A++T)++P).Perm (A++(P++T)):=by
 rw [List.append_assoc]; exact List.Perm.append_left _ List.perm_append_comm
section
variable{w:World}{b b2:Bool}(f:Bool){nO:List (Nat×Nat)}(hs:nO.length < 8)(oQ:nO≠[]){wh:Bool}{rows:List (Nat×Nat)}(oX:∀ c∈rows.map (·.1),c < 4)(qH:(rows.map (·.1)).Nodup)(qW:rows.length≤4)
include hs oQ oX qH qW
theorem L9(qU:G9 nO=some (wh,rows))(nQ nR:Nat)(D DW:Data):Spec.nX (LA w.2 nQ nR D DW) (fun z q=>St (RT (AE f) wh (Bl rows) z) (Fs (AE f) nO D)) (LA w.2 nQ nR D DW .plain) (wf w b b2) (A3 (EI w.2 nR)) (Fs (AE f) nO D):=by
 rintro P ⟨nU,rfl,hl,pm⟩
 have hN:=Spec.nX.n (Wu (w:=w) (b:=b) (b2:=b2) f hl hs oQ qU oX qH qW nQ nR nO.length DW) (by show (nO.map (CL (AE f))).length+2=nU.length+2; rw [List.length_map,hl]) (fun q=>rfl) (fun q q=>by show (nO.map (CL (AE f))).length+2=nU.length+2; rw [List.length_map,hl])
 refine (Aj.toD (S:=LA w.2 nQ nR (.seq ⟨nU.map .ref⟩ nO.length) DW .plain) (F:=LA w.2 nQ nR (.seq ⟨nU.map .ref⟩ nO.length) DW) (I:=fun L=>L=P) (O:=fun z q=>St (RT (AE f) wh (Bl rows) z) (Fs (AE f) nO (.seq ⟨nU.map .ref⟩ nO.length))) hN ?_ ?_) P rfl
 ·rintro P' rfl
  refine ⟨_,?_,[],trivial,rfl⟩
  show ([(nQ,_),(nR,_)]++_).Perm (([(nQ,_),(nR,_)]++nU.zip (nO.map (CL (AE f))))++_)
  rw [CA]
  exact ZJ _ pm
 ·rintro e Lk Ln ⟨z,A,P',hR,rfl,rfl,rfl⟩
  refine ⟨z,A,P'++AN (AE f) nU nO,⟨P',_,hR,⟨nU,rfl,hl,.refl _⟩,.refl _⟩,rfl,?_,rfl⟩
  show (([(nQ,_),(nR,_)]++nU.zip (nO.map (CL (AE f))))++_).Perm _
  rw [CA]
  exact ZI _ _ _
theorem KW(qU:EF nO=(wh,rows))(nQ:Nat)(D:Data):Spec.nX (KX w.2 nQ D) (fun z q=>St (RT (AE f) wh (Bl rows) z) (Fs (AE f) nO D)) (KX w.2 nQ D .plain) (wf w b b2) (A3 EJ) (Fs (AE f) nO D):=by
 rintro P ⟨nU,rfl,hl,pm⟩
 have hN:=Spec.nX.n (VH (w:=w) (b:=b) (b2:=b2) f hl hs oQ qU oX qH qW nQ nO.length) (by show (nO.map (CL (AE f))).length+1=nU.length+1; rw [List.length_map,hl]) (fun q=>rfl) (fun q q=>by show (nO.map (CL (AE f))).length+1=nU.length+1; rw [List.length_map,hl])
 refine (Aj.toD (S:=KX w.2 nQ (.seq ⟨nU.map .ref⟩ nO.length) .plain) (F:=KX w.2 nQ (.seq ⟨nU.map .ref⟩ nO.length)) (I:=fun L=>L=P) (O:=fun z q=>St (RT (AE f) wh (Bl rows) z) (Fs (AE f) nO (.seq ⟨nU.map .ref⟩ nO.length))) hN ?_ ?_) P rfl
 ·rintro P' rfl
  refine ⟨_,?_,[],trivial,rfl⟩
  show ([(nQ,_)]++_).Perm (([(nQ,_)]++nU.zip (nO.map (CL (AE f))))++_)
  rw [CA]
  exact ZJ _ pm
 ·rintro e Lk Ln ⟨z,A,P',hR,rfl,rfl,rfl⟩
  refine ⟨z,A,P'++AN (AE f) nU nO,⟨P',_,hR,⟨nU,rfl,hl,.refl _⟩,.refl _⟩,rfl,?_,rfl⟩
  show (([(nQ,_)]++nU.zip (nO.map (CL (AE f))))++_).Perm _
  rw [CA]
  exact ZI _ _ _
end
def Yh(t1 t2:Nat)(z1 z2:Data):Spec:=⟨.call (.builtin "list.__eq__") ⟨[.ref t1,.ref t2],[]⟩,[t1,t2],[A0 z1,A0 z2],EJ,fun q=>.fin (.done (.ret (.bool true))),fun q=>[A0 z1,A0 z2],fun q=>[]⟩
theorem Vp{w:World}{nm:Nat→Str}{A:Around}{s:Shared}(hu:A.units≤60){L:Lp}(H:BX (A4 w.2) s L)(l:List (Nat×Nat)){ra rb:List Nat}(ha:ra.length=l.length)(hb:rb.length=l.length)(ma:∀ q∈AN nm ra l,q∈L)(mb:∀ q∈AN nm rb l,q∈L)(j:Nat)(hj:j < l.length){x y:Value}(hx:(ra.map Value.ref)[j]?=some (eV x))(hy:(rb.map Value.ref)[j]?=some (eV y)):EqAt A s x y true:=by
 have ka:ra[j]?=some (ra[j]'(by lia)):=List.getElem?_eq_getElem _
 have kb:rb[j]?=some (rb[j]'(by lia)):=List.getElem?_eq_getElem _
 have kl:l[j]?=some l[j]:=List.getElem?_eq_getElem hj
 rw [List.getElem?_map,ka] at hx
 rw [List.getElem?_map,kb] at hy
 simp only [Option.map_some,Option.some.injEq] at hx hy
 obtain rfl:=AD hx.symm
 obtain rfl:=AD hy.symm
 by_cases e:ra[j]=rb[j]
 ·rw [e]; exact EqAt.same _
 ·have m1:(ra[j],CL nm l[j])∈AN nm ra l:=List.mem_map.mpr ⟨(ra[j],l[j]),List.mem_of_getElem? (i:=j) (List.getElem?_zip_eq_some.mpr ⟨ka,kl⟩),rfl⟩
  have m2:(rb[j],CL nm l[j])∈AN nm rb l:=List.mem_map.mpr ⟨(rb[j],l[j]),List.mem_of_getElem? (i:=j) (List.getElem?_zip_eq_some.mpr ⟨kb,kl⟩),rfl⟩
  obtain ⟨o1,g1,e1⟩:=H.own _ (ma _ m1)
  obtain ⟨o2,g2,e2⟩:=H.own _ (mb _ m2)
  obtain ⟨x1,rfl,h1⟩:=Eb (vs:=[.str (nm l[j].1) 0,.str (nm l[j].2) 0]) e1
  obtain ⟨x2,rfl,h2⟩:=Eb (vs:=[.str (nm l[j].1) 0,.str (nm l[j].2) 0]) e2
  obtain ⟨a1,b1,q1,p1,p2⟩:=Bb h1
  obtain ⟨a2,b2,q2,p3,p4⟩:=Bb h2
  obtain ⟨t1,rfl⟩:=AM p1
  obtain ⟨t2,rfl⟩:=AM p2
  obtain ⟨t3,rfl⟩:=AM p3
  obtain ⟨t4,rfl⟩:=AM p4
  obtain ⟨x1⟩:=x1
  obtain ⟨x2⟩:=x2
  simp only at q1 q2
  subst q1 q2
  have r:=RcAt.tuples (A:=A) (s:=s) (l:=ra[j]) (b:=rb[j]) (items:=#[.str (nm l[j].1) t1,.str (nm l[j].2) t2]) (items2:=#[.str (nm l[j].1) t3,.str (nm l[j].2) t4]) (e:=fun z=>true) ⟨_,g1,rfl,_,rfl⟩ ⟨_,g2,rfl,_,rfl⟩ (Nat.lt_of_le_of_lt hu (by decide)) (by
   intro i h1 h2
   match i,h1,h2 with
   | 0,_,_=>have:=EqAt.str_str (A:=A.in1) (s:=s) (nm l[j].1) t1 (nm l[j].1) t3; rwa [beq_self_eq_true] at this
   | 1,_,_=>have:=EqAt.str_str (A:=A.in1) (s:=s) (nm l[j].2) t2 (nm l[j].2) t4; rwa [beq_self_eq_true] at this
   | n+2,h1,_=>simp at h1; lia)
  exact EqAt.of_refs e r
theorem Wx{w:World}(nm:Nat→Str)(l:List (Nat×Nat))(hl:l.length < 100)(t1 t2:Nat)(z1 z2:Data){P:Lp}{R:Lp}(h:St (Fs nm l z1) (St (Fs nm l z2) (fun L=>L=R)) P):(Yh t1 t2 z1 z2).nP w Mk (fun L=>L=P) (fun L=>L=P):=by
 rintro P' rfl
 obtain ⟨L1,_,⟨ra,rfl,oV,pa⟩,⟨L2,_,⟨rb,rfl,qV,pb⟩,rfl,pm2⟩,pm⟩:=h
 refine Le fun vs A s L hL hv H hu Q E hq=>?_
 subst hL
 obtain ⟨u,v,rfl,h1,h2⟩:=Bb hv
 obtain rfl:=AD h1
 obtain rfl:=AD h2
 have mem:∀ q∈P',q∈(Yh t1 t2 (.seq ⟨ra.map .ref⟩ l.length) (.seq ⟨rb.map .ref⟩ l.length)).oH++P':=fun q m=>List.mem_append_right _ m
 have ma:∀ q,q∈AN nm ra l→q∈P':=fun q m=>pm.mem_iff.mpr (List.mem_append_left _ (pa.mem_iff.mpr m))
 have mb:∀ q,q∈AN nm rb l→q∈P':=fun q m=>pm.mem_iff.mpr (List.mem_append_right _ (pm2.mem_iff.mpr (List.mem_append_left _ (pb.mem_iff.mpr m))))
 obtain ⟨o1,g1,e1⟩:=H.own (t1,A0 (.seq ⟨ra.map .ref⟩ l.length)) (List.mem_append_left _ (.head _))
 obtain ⟨o2,g2,e2⟩:=H.own (t2,A0 (.seq ⟨rb.map .ref⟩ l.length)) (List.mem_append_left _ (.tail _ (.head _)))
 obtain ⟨x3,rfl,y3⟩:=Ap e1
 obtain ⟨x4,rfl,y4⟩:=Ap e2
 have s3:=B7 y3
 have s4:=B7 y4
 rw [List.length_map] at s3 s4
 refine call_meets F.slot_list_eq ⟨_,g1,rfl⟩ F.entry_list_eq (F.args_list_eq_2 _ _) (PySem.SeqAt.list_eqAt t1 t2 x3 x4 l.length l.length none none #[] #[] (by lia) (fun y=>true)) ⟨g1,g2,?_,?_⟩
 ·intro j h1 h2
  have k1:=De y3 j
  have k2:=De y4 j
  rw [Array.getElem?_eq_getElem h1] at k1
  rw [Array.getElem?_eq_getElem h2] at k2
  exact Vp (nm:=nm) (show A.in1.units≤60 by show A.units+1≤60; lia) H l oV qV (fun q m=>mem _ (ma q m)) (fun q m=>mem _ (mb q m)) j (by lia) k1.symm k2.symm
 ·have z:=hq (.bool true) s _ ⟨fun y=>0,P',rfl,fun a m=>m,rfl,rfl⟩ H ⟨rfl,rfl,rfl,rfl,fun b o h y=>h,fun q m=>.inl (List.mem_map_of_mem m)⟩
  rw [show ((List.range x3.size).all fun y=>true)=true by simp]
  exact z
end
end
section
open PySem PySem.W PySem.W.X
noncomputable def jU{α:Type}(v:Value):Sem α→Sem α
 | .call _ _ _ _ k=>k (.ok (.ret v))
 | t=>t
noncomputable def jV{α:Type}(o:Obj):Sem α→Sem α
 | .load _ _ k=>match k o with
  | .load _ _ k2=>k2 o
  | t=>t
 | t=>t
noncomputable def cn(sep:Str)(items:List Value):Sem Fin:=jV (A0 (.seq ⟨items⟩ 0)) (PySem.W.Fast.tw15301495375477561915 ⟨[.str sep 0,.ref 0],[]⟩)
noncomputable def cp(sep:Str)(a:Nat):Sem Fin:=PySem.W.R.bindR (jU (.ref a) (PySem.W.Fast.tw16476300251587348589 .none)) (cn sep)
noncomputable def av(L:Str):Sem Fin:=.fresh fun t=>.pure (.done (.ret (.str L t)))
theorem XS(sep:Str)(items:List Value):cn sep items=joinTail sep items:=by
 unfold cn
 rw [← PySem.W.Fast.te15301495375477561915]
 rfl
theorem T3{sep:Str}{l:List (Str×Tok)}(h2:2≤l.length)(h:Builtin.Str.tooLong ((l.map (·.1)).toArray.foldl (· + ·.length+sep.length) 0)=false)(hs:(Builtin.Str.glued sep (l.map (·.1))).length≤sizeLine):joinTail sep (strValues l)=av (Builtin.Str.glued sep (l.map (·.1))):=by
 have e:joinRest sep (strValues l)=av (Builtin.Str.glued sep (l.map (·.1))):=by
  unfold joinRest
  rw [join_loop]
  show (if Builtin.Str.tooLong ((#[]++(l.map fun (p:Str×Tok)=>p.1).toArray).foldl (fun (n:Nat) (s:Str)=>n+s.length+sep.length) 0)=true then _ else retStr (Builtin.Str.glued sep (#[]++(l.map fun (p:Str×Tok)=>p.1).toArray).toList))=_
  rw [Array.empty_append,h,if_neg Bool.false_ne_true]
  show retStr (Builtin.Str.glued sep (l.map (·.1)))=_
  unfold retStr mkStr
  rw [if_neg (Nat.not_lt.mpr hs)]
  rfl
 match l,h2,e with
 | p::q::r,_,e=>exact e
theorem LF:∀ (vs:List Value) (Qs:List Str),vs.map eV=Qs.map (fun x=>.str x 0)→∃ l:List (Str×Tok),vs=strValues l∧l.map (·.1)=Qs
 | [],[],_=>⟨[],rfl,rfl⟩
 | v::vs,Q::Qs,h=>by
  simp only [List.map_cons,List.cons.injEq] at h
  obtain ⟨t,rfl⟩:=AM h.1
  obtain ⟨l,rfl,e⟩:=LF vs Qs h.2
  exact ⟨(Q,t)::l,rfl,by rw [List.map_cons,e]⟩
 | [],_::_,h=>by cases h
 | _::_,[],h=>by cases h
noncomputable def l8(sep:Str)(Qs:List Str)(n m:Nat)(L:Str):AA where
 C:=fun z=>.builtin "" {}
 tr:=[m]
 pre:=fun x=>[some (A2 x m,A0 (.seq ⟨Qs.map (fun q=>.str q 0)⟩ n))]
 ss:=fun z=>[]
 ok:=fun z z=>true
 res:=fun z z=>.ok .next
 upd:=fun z x=>x
 nt:=some ⟨fun x=>cp sep (A2 x m),fun z=>av L,none⟩
theorem WI{p:Program}{w:World}{kt:KT}{sep:Str}{Qs:List Str}{n m:Nat}{L:Str}(h2:2≤Qs.length)(h:Builtin.Str.tooLong (Qs.toArray.foldl (· + ·.length+sep.length) 0)=false)(hL:Builtin.Str.glued sep Qs=L)(hs:L.length≤sizeLine):(l8 sep Qs n m L).qi p w kt:=by
 refine ⟨_,rfl,?_⟩
 intro x s cd ps nj _ _ hp D
 have hp':eP (x.T.get m)=some (A2 x m,A0 (.seq ⟨Qs.map (fun q=>.str q 0)⟩ n)):=(List.cons.inj hp).1
 cases q:x.T.get m with
 | none=>rw [q] at hp'; cases hp'
 | some z=>
  obtain ⟨a,o⟩:=z
  rw [q] at hp'
  simp only [eP,Option.some.injEq,Prod.mk.injEq] at hp'
  obtain ⟨ha,ho⟩:=hp'
  obtain ⟨xs,rfl,hx⟩:=Ap ho
  have hg:=D.own m a _ q
  obtain ⟨l,hl,rfl⟩:=LF _ _ hx
  refine ⟨U0,s,?_,D,Bz.refl _,AP.refl _ _,trivial⟩
  show Go p w s ⟨cp sep (A2 x m),cd,ps,nj⟩ s ⟨av L,cd,ps,nj⟩
  rw [← ha]
  have e0:∃ (pt:Option Value) (k:Obj→Sem Fin),cp sep a=.load a pt k∧k { cls:=.type "list",dict:=none,data:=.seq xs n,slots:=#[] } = cn sep xs.toList:=by
   unfold cp
   rw [← PySem.W.Fast.te16476300251587348589]
   exact ⟨_,_,rfl,rfl⟩
  obtain ⟨pt,k,e1,e2⟩:=e0
  rw [e1]
  refine .head ((FF rfl (by intros; intro e; cases e) (by intros; intro e; cases e)).trans ?_) (s₁:=s) (t₁:=⟨av L,cd,ps,nj⟩) .refl
  simp only [step,hg]
  rw [e2,XS,hl,T3 (by simpa using h2) h (by rw [hL]; exact hs),hL]
def Jm(P:Params)(fF fW:Nat):List Sh:=[.fun1 (AS P 928 H3 fF),.fun1 (BO P fW),.bi "claim.caller" 0]
def nK(P:Params)(s:Str)(aL:Nat):Data:=.dict #[kE P "s" (.str s 0),kE P "comments" (.bool false),kE P "posix" (.bool true),kE P "lex" (.ref aL)] 4
noncomputable def aY(D:Data):Obj:={ cls:=.type "list",data:=D }
def gH(nm:Bool)(P:Params)(fF fW:Nat)(s:Str)(ws:List (List Nat))(pe:Nat)(DF DW:Data):AA:=B6 (fun x=>cK P (A2 x 2) fF fW) [15,4,3,10,9,13,14,2,0,1] [true,false,false,false,false,false,false,false,true,true] [] (fun x=>dW nm P (A2 x 15) (A2 x 4) (A2 x 3) (A2 x 10) (A2 x 9) (A2 x 13) (A2 x 14) (A2 x 2) fF fW s ws pe (nK P s (A2 x 4)) DF DW)
theorem Nq{nm:Bool}{w:World}{b b2:Bool}{fF fW:Nat}{s:Str}{ws:List (List Nat)}{pe:Nat}{DF DW:Data}{I:Lp→Prop}(h2:s.length≤sizeLine)(hw:DK 5 s.cps.toList 0=some (ws,pe))(h1:2≤ws.length):(gH nm w.2 fF fW s ws pe DF DW).oB pw (wf w b b2) (A4 w.2) I I:=
 AF (w:=wf w b b2) (Sf:=fun x=>A3 (cK w.2 (A2 x 2) fF fW)) (fun x=>QC nm w b b2 _ _ _ _ _ _ _ _ fF fW s ws pe _ DF DW h2 hw h1 I) (fun x=>Ac (by intro h; cases h)) (by decide) (fun q=>⟨rfl,rfl,fun q=>rfl⟩) (fun q q=>rfl)
def cM(P:Params)(fF fW:Nat)(s:Str)(ws:List (List Nat))(pe:Nat)(DF DW DL qF qA:Data):Spec:=⟨.call (.ref 896) ⟨[.str s 0],[]⟩,[fF,fW],[C3 DF,C3 DW],Jm P fF fW,fun A=>.fin (.done (.ret (.ref (A 0)))),fun A=>[b8 qF fW,Dp fW qA],fun A=>[aY DL]⟩
variable (w:World)(b b2:Bool)
theorem Qu(fF fW:Nat)(s:Str)(ws:List (List Nat))(pe:Nat)(DF DW DL qF qA:Data)(h2:s.length≤sizeLine)(hw:DK 5 s.cps.toList 0=some (ws,pe))(h1:2≤ws.length)(eL:DL=(MG ws (ws.length+2)).data)(eF:qF=DF)(eW:qA=DW)(I:Lp→Prop):(cM w.2 fF fW s ws pe DF DW DL qF qA).nP (wf w b b2) (A3 (Jm w.2 fF fW)) (I) (I):=by
 refine B8 (fun D=>cM w.2 fF fW s ws pe (gD D 0) (gD D 1) DL qF qA) (fun D l=>cM w.2 fF fW s ws pe (gD D 0) (gD D 1) (ud l 0 0) (ud l 0 16) (ud l 0 18)) (fun D=>(Af [gH true w.2 fF fW s ws pe (gD D 0) (gD D 1)])) 1 [15] [true,true] (hD 18 801 2791536132463361105226345686775767892437526758642192185523175302280934907608080311170273035863630385209353860158128843770094308108235104967927989811463434267994090636586377732890488353095670960628229262076268200471642635530968993772839934361543627254203345493357652345033483535512710650751840640788765408687029331767578964835555072053015402287638348206152471731887274593051549798670338770967466312929228220664593345831999152468769894233855768568957351553158331652644252166095736412424876456628020652685640936118843170831163414047984803827973437500453725883134036993373937956048681219918944523319282688190930748596171419707716969581087746574315238493858566121391243202184835727266755020493945413574015940423612429304409179473221662055620394608264433531521988151507781200706619443146084183908233737153807602811072080430373012841535948974998986651111730842862593260284765619157996182001638183631308050621707627450812539552568406151188262148228812589587057792692598178377490879774169166579612213237406804728616) 58 [] 1 [DF,DW] (fun E0 ke=>?_)
 exact .cons (Nq h2 hw h1) fun u0 q g0=>.nh ke (@id (eD (u0.d 0)=DL) (g0.1.1.trans eL.symm) ▸ @id (eD (u0.d 16)=qF) (g0.1.2.1.trans eF.symm) ▸ @id (eD (u0.d 18)=qA) (g0.1.2.2.1.trans eW.symm) ▸ rfl)
def cL(P:Params)(fF fW:Nat)(s:Str)(ws:List (List Nat))(pe:Nat)(DF DW DL qF qA:Data):Spec:=⟨.call (.ref 896) ⟨[.str s 0],[]⟩,[fF,fW],[C3 DF,Dp fW DW],Jm P fF fW,fun A=>.fin (.done (.ret (.ref (A 0)))),fun A=>[b8 qF fW,Dp fW qA],fun A=>[aY DL]⟩
theorem Qt(fF fW:Nat)(s:Str)(ws:List (List Nat))(pe:Nat)(DF DW DL qF qA:Data)(h2:s.length≤sizeLine)(hw:DK 5 s.cps.toList 0=some (ws,pe))(h1:2≤ws.length)(eL:DL=(MG ws (ws.length+2)).data)(eF:qF=DF)(eW:qA=DW)(I:Lp→Prop):(cL w.2 fF fW s ws pe DF DW DL qF qA).nP (wf w b b2) (A3 (Jm w.2 fF fW)) (I) (I):=by
 refine B8 (fun D=>cL w.2 fF fW s ws pe (gD D 0) (gD D 1) DL qF qA) (fun D l=>cL w.2 fF fW s ws pe (gD D 0) (gD D 1) (ud l 0 0) (ud l 0 16) (ud l 0 18)) (fun D=>(Af [gH false w.2 fF fW s ws pe (gD D 0) (gD D 1)])) 1 [15] [true,true] (hD 18 801 2791536132463361105226345686775767892437526758642192185523175302280934907608080311170273035863630385209353860158128843770094308108235104967927989811463434267994090636586377732890488353095670960628229262076268200471642635530968993772839934361543627254203345493357652345033483535512710650751840640788765408687029331767578964835555072053015402287638348206152471731887274593051549798670338770967466312929228220664593345831999152468769894233855768568957351553158331652644252166095736412424876456628020652685640936118843170831163414047984803827973437500453725883134036993373937956048681219918944523319282688190930748596171419707716969581087746574315238493858566121391243202184835727266755020493945413574015940423612429304409179473221662055620394608264433531521988151507781200706619443146084183908233737153807602811072080430373012841535948974998986651111730842862593260284765619157996182001638183631308050621707627450812539552568406151188262148228812589587057792692598178377490879774169166579612213237406804728616) 58 [] 1 [DF,DW] (fun E0 ke=>?_)
 exact .cons (Nq h2 hw h1) fun u0 q g0=>.nh ke (@id (eD (u0.d 0)=DL) (g0.1.1.trans eL.symm) ▸ @id (eD (u0.d 16)=qF) (g0.1.2.1.trans eF.symm) ▸ @id (eD (u0.d 18)=qA) (g0.1.2.2.1.trans eW.symm) ▸ rfl)
noncomputable abbrev F6(wd:List Nat):List Nat:=50::53::55::32::34::wd
def ku(P:Params)(wd:List Nat)(z:List Nat×Nat×Nat):AA:=Ck CB [0] [] [] (fun x=>Wv P (A2 x 0) (F6 wd) (MP P (F6 wd) [] 5) z)
theorem W5{w:World}{b b2:Bool}{wd:List Nat}{z:List Nat×Nat×Nat}{I:Lp→Prop}(hs:wd.length+5≤sizeLine)(hw:wd≠[])(hz:Fe wd [] 5 0=z):(ku w.2 wd z).oB pw (wf w b b2) (A4 w.2) I I:=
 An (w:=wf w b b2) (Sf:=A3 CB) (fun x=>by rw [← hz]; exact (IK w b b2 (A2 x 0) (F6 wd) (by simpa using hs) I wd.length wd [] 5 0 (Nat.le_refl _) rfl (by simp) (by simp only [List.length_nil]; lia)).2 hw) (Ac (by intro h; cases h)) (by decide) (fun q=>⟨rfl,rfl,fun q=>rfl⟩) (fun q q=>rfl)
def pf(P:Params)(wd:List Nat)(z1:List Nat)(z2 z3:Nat):Spec:=⟨.call (.ref 76) ⟨[.str ⟨⟨F6 wd⟩⟩ 0],[]⟩,[],[],NK,fun A=>.fin (.done (.ret (.str ⟨⟨z1⟩⟩ 0))),fun A=>[],fun A=>[]⟩
theorem Vu(wd:List Nat)(z1:List Nat)(z2 z3:Nat)(hs:wd.length+5≤sizeLine)(hw:wd≠[])(hz:Fe wd [] 5 0=(z1,z2,z3))(I:Lp→Prop):(pf w.2 wd z1 z2 z3).nP (wf w b b2) (A3 (NK)) (I) (I):=by
 refine BQ (Af [Um ⟨⟨F6 wd⟩⟩ 1 3 [50,53,55],Un ⟨⟨F6 wd⟩⟩ 2 3 5 [32,34],MA ⟨⟨F6 wd⟩⟩,ku w.2 wd (z1,z2,z3)]) 4 [] (hD 3 17 63861408) 0 [1,1,0] 1 (fun E0 ke=>?_)
 exact .q (OH (by show 3 < wd.length+5; lia) (by show wd.length+5≤sizeLine; exact hs) rfl) fun z z z=>.q (OI (by lia) (by show 5≤wd.length+5; lia) (by show wd.length+5≤sizeLine; exact hs) (by show 5-3 < wd.length+5; lia) rfl) fun z z z=>.q (EP (by show wd.length+5 < 2 ^ 62; have:=Gn; lia)) fun z z z=>.cons (W5 hs hw hz) fun z z z=>.nh ke rfl
def FP(P:Params)(fW:Nat):List Sh:=[.fun1 (BO P fW),.bi "claim.caller" 0]
def d9(P:Params)(s:List Nat):Data:=.dict #[kE P "line" (.str ⟨⟨s⟩⟩ 0)] 1
def gL(t:Bool)(P:Params)(fW:Nat)(s:List Nat)(ws:List (List Nat))(pe:Nat)(DW:Data):AA:=B6 (fun X=>Jm P (A2 X 1) fW) [1,0] [false,true] [] (fun X=>bif t then cM P (A2 X 1) fW ⟨⟨s⟩⟩ ws pe (d9 P s) DW (MG ws (ws.length+2)).data (d9 P s) DW else cL P (A2 X 1) fW ⟨⟨s⟩⟩ ws pe (d9 P s) DW (MG ws (ws.length+2)).data (d9 P s) DW)
theorem Vz{t:Bool}{w:World}{b b2:Bool}{fW:Nat}{s:List Nat}{ws:List (List Nat)}{pe:Nat}{DW:Data}{I:Lp→Prop}(h2:s.length≤sizeLine)(hw:DK 5 s 0=some (ws,pe))(h1:2≤ws.length):(gL t w.2 fW s ws pe DW).oB pw (wf w b b2) (A4 w.2) I I:=by
 cases t
 ·exact AF (w:=wf w b b2) (Sf:=fun X=>A3 (Jm w.2 (A2 X 1) fW)) (fun X=>Qt w b b2 (A2 X 1) fW ⟨⟨s⟩⟩ ws pe _ DW _ _ DW h2 hw h1 rfl rfl rfl I) (fun X=>Ac (by intro h; cases h)) (by decide) (fun q=>⟨rfl,rfl,fun q=>rfl⟩) (fun q q=>rfl)
 ·exact AF (w:=wf w b b2) (Sf:=fun X=>A3 (Jm w.2 (A2 X 1) fW)) (fun X=>Qu w b b2 (A2 X 1) fW ⟨⟨s⟩⟩ ws pe _ DW _ _ DW h2 hw h1 rfl rfl rfl I) (fun X=>Ac (by intro h; cases h)) (by decide) (fun q=>⟨rfl,rfl,fun q=>rfl⟩) (fun q q=>rfl)
theorem Zg{t:Bool}{P:Params}{fW:Nat}{s:List Nat}{ws:List (List Nat)}{pe:Nat}{DW:Data}{u:U}{x:SX}(g:(gL t P fW s ws pe DW).good u x):eD (u.d 2)=DW:=by
 cases t<;>exact g.1.1
def kv(P:Params)(wd z1:List Nat)(z2 z3:Nat):AA:=Ck NK [] [] [] (fun q=>pf P wd z1 z2 z3)
theorem W6{w:World}{b b2:Bool}{wd z1:List Nat}{z2 z3:Nat}{I:Lp→Prop}(hs:wd.length+5≤sizeLine)(hw:wd≠[])(hz:Fe wd [] 5 0=(z1,z2,z3)):(kv w.2 wd z1 z2 z3).oB pw (wf w b b2) (A4 w.2) I I:=
 An (w:=wf w b b2) (Sf:=A3 NK) (fun q=>Vu w b b2 wd z1 z2 z3 hs hw hz I) (Ac (by intro h; cases h)) (by decide) (fun q=>⟨rfl,rfl,fun q=>rfl⟩) (fun q q=>rfl)
def Tb(P:Params)(fW:Nat)(L:Str)(DZ:Data)(F:Obj)(DW:Data):Spec:=⟨.call (.ref 928) ⟨[.str L 0],[]⟩,[fW],[F],FP P fW,fun A=>.fin (.done (.ret (.ref (A 0)))),fun q=>[Dp fW DW],fun q=>[{ cls:=.type "list",data:=DZ }]⟩
theorem Bv.rX{E:List U→Lp→Prop}{p:Program}{w:World}{kt:KT}{I:Lp→Prop}:∀ {os:List AA},(∀ o∈os,o.oB p w kt I I)→∀ l,(∀ us,us.length=os.length→Bv E p w kt I [] (us++l))→Bv E p w kt I (Af os) l
 | [],_,l,he=>he [] rfl
 | o::os,h,l,he=>.cons (h o (.head _)) fun u q q=>Bv.rX (fun o m=>h o (.tail _ m)) (u::l) fun us e=>by
  have:=he (us++[u]) (by simp [e])
  rwa [List.append_assoc] at this
theorem Ih(u:U):∀ us:List U,BL (us++[u]) us.length=u
 | []=>rfl
 | _::us=>Ih u us
noncomputable abbrev VA:=List (List Nat×List Nat)
def MQ(P:Params)(t:Bool)(fW:Nat)(s:List Nat)(l:VA)(DW DZ:Data):Spec:=Tb P fW ⟨⟨s⟩⟩ (.seq ⟨l.map fun x=>.str ⟨⟨x.2⟩⟩ 0⟩ l.length) (bif t then C3 DW else Dp fW DW) DZ
def cx(P:Params)(l:VA):List AA:=l.flatMap fun x=>[HU [50,53,55,32] (34::x.1) (F6 x.1),kv P x.1 x.2 (Fe x.1 [] 5 0).2.1 (Fe x.1 [] 5 0).2.2]
theorem IP{P:Params}:∀ l:VA,(cx P l).length=2*l.length
 | []=>rfl
 | _::l=>by show (cx P l).length+2=_; rw [IP l,List.length_cons]; lia
def bC(P:Params)(t:Bool)(fW:Nat)(s:List Nat)(pe:Nat)(l:VA)(DW:Data):List (List U→AA):=(fun q=>gL t P fW s (l.map fun x=>34::x.1) pe DW)::Af (cx P l)
noncomputable def lT:List Nat:=[4,4,4,4,3,4,4]
def cy(b2:Bool)(n:Nat):List Nat:=[0,0,2,2,0,0,2,0,3,3,3,4]++(bif b2 then [] else [4,4,4,4])++lT++(List.replicate n ([6,6,0,6,0,5,5,5,5]++lT)).flatten++[8,6,6,6]
noncomputable def cz(b2:Bool)(n:Nat):List Nat:=(bif b2 then 3 else 4)::0::(List.replicate (n-1) [2,0]).flatten
theorem Ta(w:World)(x b2 t:Bool)(fW:Nat)(s:List Nat)(pe:Nat)(l:VA)(h2:2≤l.length)(h5:l.length≤5):Mq w x b2 (fun D=>MQ w.2 t fW s l (gD D 0) .plain) (fun D=>bC w.2 t fW s pe l (gD D 0)) (2*l.length+1) (fun q q=>[]) [4] [true] (cy b2 l.length) 0 (cz b2 l.length) 1=Mp w x b2 (fun D=>MQ w.2 t fW s l (gD D 0) .plain) (fun D us=>MQ w.2 t fW s l (gD D 0) (ud us (2*l.length) 2)) (fun D=>bC w.2 t fW s pe l (gD D 0)) (2*l.length+1) (fun q q=>[]) [4] [true] (cy b2 l.length) 0 (cz b2 l.length) 1:=
 IW (List.range' 2 4) ((Cs.bb x).pp ((Cs.bb b2).pp (Cs.bb t))) (F:=fun (l:VA) z=>Mq w z.1 z.2.1 (fun D=>MQ w.2 z.2.2 fW s l (gD D 0) .plain) (fun D=>bC w.2 z.2.2 fW s pe l (gD D 0)) (2*l.length+1) (fun q q=>[]) [4] [true] (cy z.2.1 l.length) 0 (cz z.2.1 l.length) 1) (G:=fun (l:VA) z=>Mp w z.1 z.2.1 (fun D=>MQ w.2 z.2.2 fW s l (gD D 0) .plain) (fun D us=>MQ w.2 z.2.2 fW s l (gD D 0) (ud us (2*l.length) 2)) (fun D=>bC w.2 z.2.2 fW s pe l (gD D 0)) (2*l.length+1) (fun q q=>[]) [4] [true] (cy z.2.1 l.length) 0 (cz z.2.1 l.length) 1) (fun f=>by kernel_rfl) (List.mem_range'_1.mpr ⟨h2,Nat.lt_succ_of_le h5⟩)
theorem PS(w:World)(b b2 t:Bool)(fW:Nat)(s:List Nat)(pe:Nat)(DW:Data)(I:Lp→Prop)(l:VA)(h2:2≤l.length)(h5:l.length≤5)(hs:s.length≤sizeLine)(hw:DK 5 s 0=some (l.map (fun x=>34::x.1),pe))(hl:∀ x∈l,x.1.length+5≤sizeLine∧x.1≠[]∧(Fe x.1 [] 5 0).1=x.2):(MQ w.2 t fW s l DW DW).nP (wf w b b2) (A3 (FP w.2 fW)) I I:=
 (NP (fun _:Unit=>MQ w.2 t fW s l DW DW) (fun q q=>True) (fun D=>MQ w.2 t fW s l (gD D 0) .plain) (fun D us=>MQ w.2 t fW s l (gD D 0) (ud us (2*l.length) 2)) (fun D=>bC w.2 t fW s pe l (gD D 0)) (2*l.length+1) (fun q q=>[]) [4] [true] _ _ _ 1 [DW]
  (fun q ke=>.cons (Vz hs hw (by simpa using h2)) fun u0 q g0=>.rX (fun o m=>by
   obtain ⟨x,hx,m⟩:=List.mem_flatMap.mp m
   obtain ⟨a,b,c⟩:=hl x hx
   simp only [List.mem_cons,List.not_mem_nil,or_false] at m
   rcases m with rfl | rfl
   ·exact (DC (by simp only [List.length_cons,List.length_nil]; lia) rfl).pL _
   ·exact W6 a b (by rw [← c])) _ fun us e=>.nh ke (by
    have e2:us.length=2*l.length:=by rw [e,IP]
    show MQ w.2 t fW s l DW (eD ((BL (us++[u0]) (2*l.length)).d 2))=_
    rw [← e2,Ih,Zg g0]; rfl))
  (Ta w b b2 t fW s pe l h2 h5) (by cases t<;>rfl) rfl (by show (Af (cx w.2 l)).length+1=_; unfold Af; rw [List.length_map,IP]) (fun q=>rfl) rfl (fun q q=>rfl) rfl (by decide)).pp
end
section
open PySem PySem.W PySem.W.X PyProof.Rows
section
def ZA(X Y:Str):Spec:=⟨.call (.ref 911) ⟨[.str X 0],[]⟩,[],[],Hv,fun q=>.fin (.done (.ret (.str Y 0))),fun q=>[],fun q=>[]⟩
def cJ(X Y:Str):Spec:=⟨.call (.ref 916) ⟨[.str X 0],[]⟩,[],[],Jk,fun q=>.fin (.done (.ret (.str Y 0))),fun q=>[],fun q=>[]⟩
theorem VQ{w:World}{b b2:Bool}(l:List Nat)(h:l≠[])(hs:l.length≤sizeLine)(I:Lp→Prop):(cJ ⟨⟨l⟩⟩ ⟨⟨l.reverse⟩⟩).nP (wf w b b2) (A3 Jk) I I:=by
 cases l with
 | nil=>exact absurd rfl h
 | cons y ys=>exact N9 w b b2 true y ys _ (by simpa using hs) rfl I
def CS(nO:List (Nat×Nat)):List Value:=nO.map fun p=>.str ⟨⟨HX p.1⟩⟩ 0
def Ef(nO:List (Nat×Nat)):List Value:=nO.reverse.map fun p=>.str ⟨⟨(HX p.2).reverse⟩⟩ 0
theorem MO(qs:List (List Nat)):Builtin.Str.glued ⟨⟨[32]⟩⟩ (qs.map fun q=>(⟨⟨q⟩⟩:Str))=⟨⟨Az qs⟩⟩:=by
 rw [StrLaws.glued_eq_join]
 induction qs with
 | nil=>rfl
 | cons q qs ih=>
  cases qs with
  | nil=>rfl
  | cons q' r=>
   show (⟨⟨q⟩⟩:Str)++⟨⟨[32]⟩⟩++Str.join ⟨⟨[32]⟩⟩ ((q'::r).map fun q=>(⟨⟨q⟩⟩:Str))=_
   rw [ih]
   refine Str.ext' ?_
   rw [Str.cps_append,Str.cps_append]
   apply Array.ext'
   simp [Az]
structure Q0(nO:List (Nat×Nat)):Prop where
 h2:2≤nO.length
 h5:nO.length≤5
 h4:∀ p∈nO,p.1 < 4∧p.2 < 4
section
variable{w:World}{b b2:Bool}{nO:List (Nat×Nat)}(k:Q0 nO)
include k
theorem Q0.ne:nO≠[]:=fun e=>by have:=k.h2; rw [e] at this; simp at this
theorem Q0.ll:(Bi nO).length≤sizeLine:=by
 have:=Oj k.h5 k.h4
 have:=A5
 lia
theorem PO(fW:Nat)(DW:Data)(I:Lp→Prop):(Tb w.2 fW ⟨⟨Bi nO⟩⟩ (.seq ⟨CS nO⟩ nO.length) (C3 DW) DW).nP (wf w b b2) (A3 (FP w.2 fW)) I I:=by
 have h:=PS w b b2 true fW (Bi nO) (Bi nO).length DW I (nO.map fun p=>(JH p.1 p.2,HX p.1)) (by rw [List.length_map]; exact k.h2) (by rw [List.length_map]; exact k.h5) k.ll (by
  rw [HZ k.ne k.h5 k.h4,List.map_map]
  rfl) (by
  intro x m
  obtain ⟨p,hp,rfl⟩:=List.mem_map.mp m
  obtain ⟨_,a,b,c⟩:=RO _ _ (k.h4 p hp).1 (k.h4 p hp).2
  have:=A5
  exact ⟨by dsimp only; lia,a,c⟩)
 unfold MQ at h
 rw [List.map_map,List.length_map] at h
 exact h
theorem UK(fW:Nat)(DW:Data)(I:Lp→Prop):(Tb w.2 fW ⟨⟨(Bi nO).reverse⟩⟩ (.seq ⟨Ef nO⟩ nO.length) (Dp fW DW) DW).nP (wf w b b2) (A3 (FP w.2 fW)) I I:=by
 have h:=PS w b b2 false fW (Bi nO).reverse (Bi nO).length DW I (nO.reverse.map fun p=>(Px p.1 p.2,(HX p.2).reverse)) (by rw [List.length_map,List.length_reverse]; exact k.h2) (by rw [List.length_map,List.length_reverse]; exact k.h5) (by rw [List.length_reverse]; exact k.ll) (by
  rw [Ol k.ne k.h5 k.h4,List.map_map]
  congr 2
  exact List.map_congr_left fun p m=>(Nc _ _ (k.h4 p (List.mem_reverse.mp m)).1 (k.h4 p (List.mem_reverse.mp m)).2).1) (by
  intro x m
  obtain ⟨p,hp,rfl⟩:=List.mem_map.mp m
  have m:=List.mem_reverse.mp hp
  obtain ⟨_,a,b,c⟩:=Nc _ _ (k.h4 p m).1 (k.h4 p m).2
  have:=A5
  exact ⟨by dsimp only; lia,a,c⟩)
 unfold MQ at h
 rw [List.map_map,List.length_map,List.length_reverse] at h
 exact h
theorem So:Bi nO≠[]:=by
 intro e
 have h:=HZ k.ne k.h5 k.h4
 rw [e] at h
 have:DK 5 [] 0=none:=rfl
 rw [this] at h
 cases h
theorem M3{p:Nat×Nat}(m:p∈nO)(I:Lp→Prop):(ZA ⟨⟨C5 p.1 p.2⟩⟩ ⟨⟨Dx p.1 p.2⟩⟩).nP (wf w b b2) (A3 Hv) I I:=RL w b b2 p.1 p.2 (k.h4 p m).1 (k.h4 p m).2 I
theorem TN:Builtin.Str.glued ⟨⟨[32]⟩⟩ (nO.map fun p=>(⟨⟨Dx p.1 p.2⟩⟩:Str))=⟨⟨Bi nO⟩⟩∧Builtin.Str.tooLong ((nO.map fun p=>(⟨⟨Dx p.1 p.2⟩⟩:Str)).toArray.foldl (· + ·.length+(⟨⟨[32]⟩⟩:Str).length) 0)=false:=by
 constructor
 ·have:=MO (nO.map fun p=>Dx p.1 p.2)
  rw [List.map_map] at this
  exact this
 ·refine StrLaws.joinFits (B:=25) (fun y m=>?_) ?_
  ·obtain ⟨p,hp,rfl⟩:=List.mem_map.mp m
   exact Kk _ _ (k.h4 p hp).1 (k.h4 p hp).2
  ·rw [List.length_map]
   have:=k.h5
   show nO.length*25+nO.length*1≤_
   lia
theorem bp{n:Nat}(hn:nO.length=n+1)(DD:Data)(aI aX aA aK fr:Nat) :
  (Hn (EY w.2) w.2 aI aX aA aK fr (AE false (nO.getD n (0,0)).1) (AE false (nO.getD n (0,0)).2) DD (BW (nO.length:Nat)).data (.seq ⟨Jc nO⟩ nO.length)).nP (wf w b b2) (A3 AQ) (Fs (AE false) nO DD) (Fs (AE false) nO DD):=by
 rintro P ⟨nU,rfl,hl,pm⟩
 have:=k.h5
 refine (YE (w:=w) (b:=b) (b2:=b2) hl (by lia) k.h4 (P0:=P) (R:=[]) (by rw [List.append_nil]; exact pm) nO.length aX hn aI aA aK fr P rfl).nV (fun q h=>h) ?_
 rintro e L ⟨A,P',rfl,sub,he,hL⟩
 exact ⟨A,P',⟨nU,rfl,hl,pm⟩,sub,he,hL⟩
theorem aV{n:Nat}(hn:nO.length=n+1)(DD:Data)(B:Lp→Prop)(aI aX aA aK fr:Nat) :
  Spec.nX (fun z=>Hn (CI w.2) w.2 aI aX aA aK fr (AE false (nO.getD n (0,0)).1) (AE false (nO.getD n (0,0)).2) DD (BW (nO.length:Nat)).data z) (fun z q P'=>St (Fs (AE true) (BR nO) z) (St (Fs (AE false) nO DD) B) P') (Hn (CI w.2) w.2 aI aX aA aK fr (AE false (nO.getD n (0,0)).1) (AE false (nO.getD n (0,0)).2) DD (BW (nO.length:Nat)).data .plain) (wf w b b2) (A3 AQ) (St (Fs (AE false) nO DD) B):=by
 rintro P ⟨L1,Lb,⟨nU,rfl,hl,pm⟩,hb,pm2⟩
 have:=k.h5
 refine (Wk (w:=w) (b:=b) (b2:=b2) hl (by lia) k.h4 (P0:=P) (R:=Lb) (pm2.trans (pm.append_right _)) nO.length aX hn aI aA aK fr P rfl).nV (fun q h=>h) ?_
 rintro e L ⟨z,A,P',hT,sub,he,hL⟩
 exact ⟨z,A,P',TU.st (I:=St (Fs (AE false) nO (.seq ⟨nU.map .ref⟩ nO.length)) B) ⟨L1,Lb,⟨nU,rfl,hl,pm⟩,hb,pm2⟩ hT,sub,he,hL⟩
theorem LP(i:Nat)(h:i < nO.length):(CS nO)[i]?=some (.str (AE false nO[i].1) 0):=by
 unfold CS
 rw [List.getElem?_map,List.getElem?_eq_getElem h,OO (k.h4 _ (List.getElem_mem h)).1]; rfl
theorem Pw(i:Nat)(h:i < nO.length):(Ef nO)[nO.length-1-i]?=some (.str (AE true (rk nO[i].2)) 0):=by
 have e:nO.reverse[nO.length-1-i]?=some nO[i]:=by
  rw [List.getElem?_reverse (Vc h),ki h,List.getElem?_eq_getElem h]
 unfold Ef
 rw [List.getElem?_map,e,Wg (k.h4 _ (List.getElem_mem h)).2]; rfl
theorem Yz{n:Nat}(hn:nO.length=n+1)(B:Lp→Prop)(aI aA aK nT oD aF aG fr:Nat) :
  Spec.nX (fun z=>IZ (MJ w.2) w.2 aI aA aK nT oD aF aG fr nO.length (.seq ⟨CS nO⟩ nO.length) (.seq ⟨Ef nO⟩ nO.length) z) (fun z q P'=>St (Fs (AE false) nO z) B P') (IZ (MJ w.2) w.2 aI aA aK nT oD aF aG fr nO.length (.seq ⟨CS nO⟩ nO.length) (.seq ⟨Ef nO⟩ nO.length) .plain) (wf w b b2) (A3 AQ) B:=by
 intro P hP
 have h5:=k.h5
 refine (NA (w:=w) (b:=b) (b2:=b2) (AE false) (fun i=>AE true (rk (nO.getD i (0,0)).2)) (ps:=nO) true (DF:=.seq ⟨CS nO⟩ nO.length) (DG:=.seq ⟨Ef nO⟩ nO.length) rfl rfl (by simp [CS]) (by simp [Ef]) (by lia) P (LP k) (fun i h=>by rw [Pw k i h]; simp [List.getD,List.getElem?_eq_getElem h]) (fun i h I=>by
  rw [show (nO.getD i (0,0))=nO[i] by simp [List.getD,List.getElem?_eq_getElem h]]
  exact VT (k.h4 _ (List.getElem_mem h)).2 I) hn aI aA aK nT oD aF aG fr P rfl).nV (fun q h=>h) ?_
 rintro e L ⟨z,A,P',hT,sub,he,hL⟩
 exact ⟨z,A,P',TU.st hP hT,sub,he,hL⟩
theorem bh{n:Nat}(hn:nO.length=n+1)(B:Lp→Prop)(aI aA aK nT oD aF aG fr:Nat) :
  Spec.nX (fun z=>IZ (MK w.2) w.2 aI aA aK nT oD aF aG fr nO.length (.seq ⟨CS nO⟩ nO.length) (.seq ⟨Ef nO⟩ nO.length) z) (fun z q P'=>St (Fs (AE true) (BR nO).reverse z) B P') (IZ (MK w.2) w.2 aI aA aK nT oD aF aG fr nO.length (.seq ⟨CS nO⟩ nO.length) (.seq ⟨Ef nO⟩ nO.length) .plain) (wf w b b2) (A3 AQ) B:=by
 intro P hP
 have h5:=k.h5
 have hlen:(BR nO).reverse.length=nO.length:=by unfold BR; simp
 have hat:∀ i (h:i < (BR nO).reverse.length),(BR nO).reverse[i]=(rk (nO[nO.length-1-i]'(Vc (hlen ▸ h))).2,rk (nO[nO.length-1-i]'(Vc (hlen ▸ h))).1):=by
  intro i h
  rw [List.getElem_reverse]
  unfold BR
  simp [List.getElem_map]
 have z:=(NA (w:=w) (b:=b) (b2:=b2) (AE true) (fun i=>AE false (nO.getD (nO.length-1-i) (0,0)).1) (ps:=(BR nO).reverse) false (DF:=.seq ⟨CS nO⟩ nO.length) (DG:=.seq ⟨Ef nO⟩ nO.length) rfl rfl (by rw [hlen]; simp [Ef]) (by rw [hlen]; simp [CS]) (by lia) P (fun i h=>by
   rw [hat i h]
   have:=Pw k (nO.length-1-i) (Vc (hlen ▸ h))
   rwa [ki (hlen ▸ h)] at this) (fun i h=>by
   rw [hlen,LP k (nO.length-1-i) (Vc (hlen ▸ h))]
   simp [List.getD,List.getElem?_eq_getElem (Vc (hlen ▸ h))]) (fun i h I=>by
   rw [hat i h]
   simp only [List.getD,List.getElem?_eq_getElem (Vc (hlen ▸ h)),Option.getD_some]
   exact Jf (k.h4 _ (List.getElem_mem _)).1 I) (n:=n) (by rw [hlen]; exact hn) aI aA aK nT oD aF aG fr P rfl)
 rw [hlen] at z
 refine z.nV (fun q h=>h) ?_
 rintro e L ⟨z,A,P',hT,sub,he,hL⟩
 exact ⟨z,A,P',TU.st hP hT,sub,he,hL⟩
end
theorem bM{w:World}{b b2:Bool}(aI ny aA aK oF oJ fr:Nat)(xs:List Int)(ex:Nat)(hs:xs.length < 100){n:Nat}(hn:xs.length=n+1) :
  Spec.nX (fun z=>LY w.2 aI ny aA aK oF oJ fr (xs.getD n 0) (.seq ⟨xs.map (.int · 0)⟩ ex) (BW (xs.length:Nat)).data z) (fun z q P'=>Fs (AE false) (xs.map B3) z P') (LY w.2 aI ny aA aK oF oJ fr (xs.getD n 0) (.seq ⟨xs.map (.int · 0)⟩ ex) (BW (xs.length:Nat)).data .plain) (wf w b b2) (A3 AQ) (fun L=>L=[]):=
 (Xu (w:=w) (b:=b) (b2:=b2) [] aI ny aA aK oF oJ fr xs ex hs hn).mono (fun q h=>h) fun z A P ⟨nU,h1,h2,p⟩=>⟨nU,h1,h2,by rwa [List.append_nil] at p⟩
end
end
section
open PySem PySem.W PySem.W.X
def CU(vs:Array Value):Obj:={ cls:=.none,data:=.fields vs }
def jO(r:R):Array Value:=match r.x.T.get 1 with
 | some (_,o)=>match o.data with
  | .fields vs=>vs
  | _=>#[]
 | none=>#[]
noncomputable def Xn(r:R):List Nat×Option Fin×List Frame×Option (Nat×Obj)×Option (Nat×Obj)×Bool×OsState:=(r.qh,r.fin?,r.nj,r.x.T.get 0,r.x.T.get 1,r.x.gens.toList.all (·.bare),r.x.os)
def Mz(aS:Nat)(dS:Data)(nj:List Frame)(os:OsState)(r:R):List Nat×Option Fin×List Frame×Option (Nat×Obj)×Option (Nat×Obj)×Bool×OsState:=(r.qg,some (.done (.ret (.bool true))),nj,some (aS,A0 dS),some (898,CU (jO r)),true,os)
noncomputable def JB(aS:Nat):Code:=.call (.ref 945) ⟨[.ref aS],[]⟩
noncomputable def HD:List Sh:=[.bi "claim.caller" 0]
variable (w:World)(b b2:Bool)
noncomputable def Vf(hs:List Nat)(c:Nat)(cs:List Nat)(n:Nat)(drawn:Drawn)(t:Nat)(os:OsState)(pos:Pos)(d:Nat→FD)(aS:Nat)(dS:Data):R:=
 run pw (wf w b b2) (A4 w.2) 1 100000 hs c cs 1 ⟨Np 2 [(aS,A0 dS),(898,CU #[])],2,n,0,#[],drawn,t,0,os⟩ ⟨oS (JB aS),JB aS,pos,BH HD 0 d⟩
noncomputable def Of(fs:List (List U→AA))(us:List U)(hs:List Nat)(c:Nat)(cs:List Nat)(n:Nat)(drawn:Drawn)(t:Nat)(os:OsState)(pos:Pos)(d:Nat→FD)(aS:Nat)(dS:Data):=(fun pY r=>(Sm pY us r,Xn (Ge pY us r))) (F8 fs [] us) (Vf w b b2 hs c cs n drawn t os pos d aS dS)
noncomputable def Oe(fs:List (List U→AA))(us:List U)(hs:List Nat)(c:Nat)(cs:List Nat)(n:Nat)(drawn:Drawn)(t:Nat)(os:OsState)(pos:Pos)(d:Nat→FD)(aS:Nat)(dS:Data):=(fun pY r=>(Sl pY us r,Mz aS dS (BH HD 0 d) os (Ge pY us r))) (F8 fs [] us) (Vf w b b2 hs c cs n drawn t os pos d aS dS)
def Og(fs:List (List U→AA))(us:List U)(hs:List Nat)(c:Nat)(cs:List Nat)(n:Nat)(drawn:Drawn)(t:Nat)(os:OsState)(pos:Pos)(d:Nat→FD)(aS:Nat)(dS:Data):Prop:=Of w b b2 fs us hs c cs n drawn t os pos d aS dS=Oe w b b2 fs us hs c cs n drawn t os pos d aS dS
theorem au(P:Params):(A4 P).get 898=none:=by kernel_rfl
theorem Sq{w:World}{b b2:Bool}{s:Shared}{aS:Nat}{dS:Data}(ho:s.heap.get? aS=some (A0 dS))(pG:s.heap.get? 898=some (CU #[]))(hk:JY (A4 w.2) s)(hg:s.gens=#[])(qc:946≤aS){fs:List (List U→AA)}{hs cs:List Nat}{c:Nat}
  (ch:Bv (fun y y=>True) pw (wf w b b2) (A4 w.2) (fun L=>L=[]) fs []) (pos:Pos) {nj:List Frame} (oq:A3 HD pos nj)
  (look:∀ (n:Nat) (drawn:Drawn) (t:Nat) (os:OsState) (pos:Pos) (d:Nat→FD) (u:Nat→U),Og w b b2 fs ((List.range fs.length).map u) hs c cs n drawn t os pos d aS dS) :
  ∃ s' oI pos',Go pw (wf w b b2) s ⟨denote table (JB aS),JB aS,pos,nj⟩ s' ⟨.pure (.done (.ret (.bool true))),oI,pos',nj⟩∧s'.os=s.os∧s'.heap.get? aS=some (A0 dS)∧(∃ vs,s'.heap.get? 898=some (CU vs))∧
   (∀ a o,s.heap.get? a=some o→a≠aS→a≠898→s'.heap.get? a=some o)∧s'.gens.toList.all (·.bare)=true∧s'.heap.life=s.heap.life:=by
 obtain ⟨d,ed⟩:=G1 (ss:=HD) 0 oq
 have ne:aS≠898:=by lia
 have HL:BX (A4 w.2) s ([aS,898].zip [eO (A0 dS),eO (CU #[])]++[]):=by
  refine ⟨hk,fun q m=>?_,List.nodup_cons.mpr ⟨fun m=>ne (List.mem_singleton.mp m),List.nodup_cons.mpr ⟨(nomatch ·),.nil⟩⟩,fun q m=>?_⟩<;>rcases m with _ | ⟨_,_ | ⟨_,m⟩⟩
  ·exact ⟨_,ho,rfl⟩
  ·exact ⟨_,pG,rfl⟩
  ·cases m
  ·exact P8 qc
  ·exact au _
  ·cases m
 obtain ⟨D0,P0,sub⟩:=Ki (os:=[A0 dS,CU #[]]) HL rfl rfl fun q m=>by
  rcases m with _ | ⟨_,_ | ⟨_,m⟩⟩
  ·exact ho
  ·exact pG
  ·cases m
 rw [hg] at D0 P0
 have H':JW (fun y r=>Xn r=Mz aS dS (BH HD 0 d) s.os r) fs [] (Vf w b b2 hs c cs s.heap.objs.size s.drawn s.toks s.os pos d aS dS):=by
  refine G7 _ _ _ fun us hu=>?_
  have h:=look s.heap.objs.size s.drawn s.toks s.os pos d (fun i=>us.getD i U0)
  rw [← Ub us hu] at h
  exact ⟨congrArg Prod.fst h,congrArg Prod.snd h⟩
 obtain ⟨_,r,s1,t1,x1,P1,E,go1,S1,X1,hO,HP1,K1,N1,Q1⟩:=FJ ch (HG D0) H' rfl P0
 unfold Xn Mz at E
 simp only [Prod.mk.injEq] at E
 obtain ⟨e1,e2,e3,e4,e5,e6,e7⟩:=E
 obtain ⟨X2,s2,pM,go2,D2,K2⟩:=S1.toFin e1 e2
 have X:=X1.trans X2
 have KK:Ad r.x [] s s2:=(K1.ext X2).trans N1 (Ad.of K2)
 rw [← C4] at go1
 refine ⟨s2,r.cd,pM,?_,D2.os.trans e7,D2.own _ _ _ e4,⟨_,D2.own _ _ _ e5⟩,fun a o h n1 n2=>?_,by rw [D2.gens]; exact e6,KK.1⟩
 ·rw [ed]; rw [e3] at go2; exact go1.trans go2
 ·refine KK.2 a o h (fun j o' z=>?_) (fun m=>nomatch m)
  rcases X.bwd j a o' z with ⟨r9,z'⟩ | z'
  ·rcases List.mem_cons.mp (sub _ _ _ z') with e | e
   ·exact n1 e
   ·exact n2 (List.mem_singleton.mp e)
  ·exact absurd (Heap.lt_size h) (Nat.not_lt.mpr z')
section
def JN(x:SX)(m:Nat):Data:=match x.T.get m with
 | some (_,o)=>eD o.data
 | none=>.plain
section
variable{w:World}{b b2:Bool}
def lB(P:Params)(xl:Int)(DI:Data)(DX:Data)(mI mX mA mK mC mN mF:Nat):AA:=Jx (fun q=>AQ) [mI,mX,mA,mK,mC,mN] [true,true,true,false,false,false] [] (fun x=>LY P (A2 x mI) (A2 x mX) (A2 x mA) (A2 x mK) (A2 x mC) (A2 x mN) (A2 x mF) xl DX DI .plain) (fun x=>LY P (A2 x mI) (A2 x mX) (A2 x mA) (A2 x mK) (A2 x mC) (A2 x mN) (A2 x mF) xl DX DI)
theorem WV{xl:Int}{DI:Data}{DX sS:Data}{mI mX mA mK mC mN mF:Nat}{I:Lp→Prop}{Q:Data→Lp→Prop}(tA:sS=DX)(h:∀ aI ny aA aK oF oJ fr:Nat,Spec.nX (LY w.2 aI ny aA aK oF oJ fr xl DX DI) (fun z q P=>Q z P) (LY w.2 aI ny aA aK oF oJ fr xl DX DI .plain) (wf w b b2) (A3 AQ) I)(nd:[mI,mX,mA,mK,mC,mN].Nodup):(lB w.2 xl DI sS mI mX mA mK mC mN mF).pP pw (wf w b b2) (A4 w.2) I (fun u q=>Q (eD (u.d 4))):=by
 rw [tA]
 exact (Dh (w:=wf w b b2) (Sf:=fun x=>A3 ((fun q=>AQ) x)) (ss:=fun q=>AQ) (tr:=[mI,mX,mA,mK,mC,mN]) (fl:=[true,true,true,false,false,false]) (fn:=[]) (S:=fun x=>LY w.2 (A2 x mI) (A2 x mX) (A2 x mA) (A2 x mK) (A2 x mC) (A2 x mN) (A2 x mF) xl DX DI .plain) (F0:=fun x=>LY w.2 (A2 x mI) (A2 x mX) (A2 x mA) (A2 x mK) (A2 x mC) (A2 x mN) (A2 x mF) xl DX DI) (O:=fun q z q P=>Q z P) (fun q=>h _ _ _ _ _ _ _) (fun q q=>⟨rfl,rfl,rfl⟩) (fun q q q q q=>rfl) (fun x=>Ac (by intro h; cases h)) nd (fun q=>⟨rfl,rfl,fun q q=>rfl⟩) (fun q q=>rfl)).mono (fun q h=>h) (fun u x P _ ⟨z,ok,h⟩=>by
  have e:eD (u.d 4)=z:=ok.2.2.1
  rw [e]; exact h)
def gO(P:Params)(X Y:Str)(DI:Data)(DD:Data)(mI mX mA mK mF:Nat):AA:=Jx (fun q=>AQ) [mI,mX,mA,mK] [true,true,true,false] [] (fun x=>Hn (CI P) P (A2 x mI) (A2 x mX) (A2 x mA) (A2 x mK) (A2 x mF) X Y DD DI .plain) (fun x=>Hn (CI P) P (A2 x mI) (A2 x mX) (A2 x mA) (A2 x mK) (A2 x mF) X Y DD DI)
theorem WE{X Y:Str}{DI:Data}{DD sZ:Data}{mI mX mA mK mF:Nat}{I:Lp→Prop}{Q:Data→Lp→Prop}(tE:sZ=DD)(h:∀ aI aX aA aK fr:Nat,Spec.nX (Hn (CI w.2) w.2 aI aX aA aK fr X Y DD DI) (fun z q P=>Q z P) (Hn (CI w.2) w.2 aI aX aA aK fr X Y DD DI .plain) (wf w b b2) (A3 AQ) I)(nd:[mI,mX,mA,mK].Nodup):(gO w.2 X Y DI sZ mI mX mA mK mF).pP pw (wf w b b2) (A4 w.2) I (fun u q=>Q (eD (u.d 4))):=by
 rw [tE]
 exact (Dh (w:=wf w b b2) (Sf:=fun x=>A3 ((fun q=>AQ) x)) (ss:=fun q=>AQ) (tr:=[mI,mX,mA,mK]) (fl:=[true,true,true,false]) (fn:=[]) (S:=fun x=>Hn (CI w.2) w.2 (A2 x mI) (A2 x mX) (A2 x mA) (A2 x mK) (A2 x mF) X Y DD DI .plain) (F0:=fun x=>Hn (CI w.2) w.2 (A2 x mI) (A2 x mX) (A2 x mA) (A2 x mK) (A2 x mF) X Y DD DI) (O:=fun q z q P=>Q z P) (fun q=>h _ _ _ _ _) (fun q q=>⟨rfl,rfl,rfl⟩) (fun q q q q q=>rfl) (fun x=>Ac (by intro h; cases h)) nd (fun q=>⟨rfl,rfl,fun q q=>rfl⟩) (fun q q=>rfl)).mono (fun q h=>h) (fun u x P _ ⟨z,ok,h⟩=>by
  have e:eD (u.d 4)=z:=ok.2.2.1
  rw [e]; exact h)
def cR(lc:Expr)(P:Params)(nn:Nat)(DF DG:Data)(mI mA mK qM qK mF mG mR:Nat):AA:=Jx (fun q=>AQ) [mI,mA,mK,qM,qK,mF,mG] [false,true,false,false,false,true,true] [] (fun x=>IZ lc P (A2 x mI) (A2 x mA) (A2 x mK) (A2 x qM) (A2 x qK) (A2 x mF) (A2 x mG) (A2 x mR) nn DF DG .plain) (fun x=>IZ lc P (A2 x mI) (A2 x mA) (A2 x mK) (A2 x qM) (A2 x qK) (A2 x mF) (A2 x mG) (A2 x mR) nn DF DG)
theorem Nv{lc:Expr}{nn:Nat}{DF DG sY sX:Data}{mI mA mK qM qK mF mG mR:Nat}{I:Lp→Prop}{Q:Data→Lp→Prop}(tC:sY=DF)(tB:sX=DG)(h:∀ aI aA aK nT oD aF aG fr:Nat,Spec.nX (IZ lc w.2 aI aA aK nT oD aF aG fr nn DF DG) (fun z q P=>Q z P) (IZ lc w.2 aI aA aK nT oD aF aG fr nn DF DG .plain) (wf w b b2) (A3 AQ) I)(nd:[mI,mA,mK,qM,qK,mF,mG].Nodup):(cR lc w.2 nn sY sX mI mA mK qM qK mF mG mR).pP pw (wf w b b2) (A4 w.2) I (fun u q=>Q (eD (u.d 2))):=by
 rw [tC,tB]
 exact (Dh (w:=wf w b b2) (Sf:=fun x=>A3 ((fun q=>AQ) x)) (ss:=fun q=>AQ) (tr:=[mI,mA,mK,qM,qK,mF,mG]) (fl:=[false,true,false,false,false,true,true]) (fn:=[]) (S:=fun x=>IZ lc w.2 (A2 x mI) (A2 x mA) (A2 x mK) (A2 x qM) (A2 x qK) (A2 x mF) (A2 x mG) (A2 x mR) nn DF DG .plain) (F0:=fun x=>IZ lc w.2 (A2 x mI) (A2 x mA) (A2 x mK) (A2 x qM) (A2 x qK) (A2 x mF) (A2 x mG) (A2 x mR) nn DF DG) (O:=fun q z q P=>Q z P) (fun q=>h _ _ _ _ _ _ _ _) (fun q q=>⟨rfl,rfl,rfl⟩) (fun q q q q q=>rfl) (fun x=>Ac (by intro h; cases h)) nd (fun q=>⟨rfl,rfl,fun q q=>rfl⟩) (fun q q=>rfl)).mono (fun q h=>h) (fun u x P _ ⟨z,ok,h⟩=>by
  have e:eD (u.d 2)=z:=ok.1
  rw [e]; exact h)
def gP(P:Params)(DP:Data)(m mW:Nat):AA:=Rj (fun x=>EI P (A2 x mW)) [m,mW] [true,false] [true] (fun x=>LA P (A2 x m) (A2 x mW) DP (JN x mW) .plain) (fun x=>LA P (A2 x m) (A2 x mW) DP (JN x mW))
theorem O3{DP rY:Data}{m mW:Nat}{I:Lp→Prop}{Q:Data→Lp→Prop}(sG:rY=DP)(h:∀ (nQ nR:Nat) (DW:Data),Spec.nX (LA w.2 nQ nR DP DW) (fun z q P=>Q z P) (LA w.2 nQ nR DP DW .plain) (wf w b b2) (A3 (EI w.2 nR)) I)(nd:[m,mW].Nodup):(gP w.2 rY m mW).pP pw (wf w b b2) (A4 w.2) I (fun u q=>Q (eD (u.d 1))):=by
 rw [sG]
 exact (I6 (w:=wf w b b2) (Sf:=fun x=>A3 ((fun x=>EI w.2 (A2 x mW)) x)) (ss:=fun x=>EI w.2 (A2 x mW)) (tr:=[m,mW]) (fl:=[true,false]) (fn:=[true]) (S:=fun x=>LA w.2 (A2 x m) (A2 x mW) DP (JN x mW) .plain) (F0:=fun x=>LA w.2 (A2 x m) (A2 x mW) DP (JN x mW)) (O:=fun q z q P=>Q z P) (fun q=>h _ _ _) (fun q q=>⟨rfl,rfl⟩) (fun q q q q q=>rfl) (fun q q q=>rfl) (fun q q q q q=>rfl) (fun x=>Ac (by intro h; cases h)) nd (fun q=>⟨rfl,rfl,fun q q=>rfl⟩) (fun q q=>rfl)).mono (fun q h=>h) (fun u x P _ ⟨z,ok1,ok,h⟩=>by
  have e:eD (u.d 1)=z:=ok.1
  rw [e]; exact h)
def gI(P:Params)(DP:Data)(m:Nat):AA:=Rj (fun q=>EJ) [m] [true] [true] (fun x=>KX P (A2 x m) DP .plain) (fun x=>KX P (A2 x m) DP)
theorem Nr{DP rY:Data}{m:Nat}{I:Lp→Prop}{Q:Data→Lp→Prop}(sG:rY=DP)(h:∀ nQ:Nat,Spec.nX (KX w.2 nQ DP) (fun z q P=>Q z P) (KX w.2 nQ DP .plain) (wf w b b2) (A3 EJ) I)(nd:[m].Nodup):(gI w.2 rY m).pP pw (wf w b b2) (A4 w.2) I (fun u q=>Q (eD (u.d 1))):=by
 rw [sG]
 exact (I6 (w:=wf w b b2) (Sf:=fun x=>A3 ((fun q=>EJ) x)) (ss:=fun q=>EJ) (tr:=[m]) (fl:=[true]) (fn:=[true]) (S:=fun x=>KX w.2 (A2 x m) DP .plain) (F0:=fun x=>KX w.2 (A2 x m) DP) (O:=fun q z q P=>Q z P) (fun q=>h _) (fun q q=>⟨rfl,rfl⟩) (fun q q q q q=>rfl) (fun q q q=>rfl) (fun q q q q q=>rfl) (fun x=>Ac (by intro h; cases h)) nd (fun q=>⟨rfl,rfl,fun q q=>rfl⟩) (fun q q=>rfl)).mono (fun q h=>h) (fun u x P _ ⟨z,ok1,ok,h⟩=>by
  have e:eD (u.d 1)=z:=ok.1
  rw [e]; exact h)
def gZ(P:Params)(X Y:Str)(DI z:Data)(DD:Data)(mI mX mA mK mF:Nat):AA:=B6 (fun q=>AQ) [mI,mX,mA,mK] [true,true,false,false] [] (fun x=>Hn (EY P) P (A2 x mI) (A2 x mX) (A2 x mA) (A2 x mK) (A2 x mF) X Y DD DI z)
theorem Wb{X Y:Str}{DD DI z:Data}{mI mX mA mK mF:Nat}{I O:Lp→Prop}(h:∀ aI aX aA aK fr:Nat,(Hn (EY w.2) w.2 aI aX aA aK fr X Y DD DI z).nP (wf w b b2) (A3 AQ) I O)(nd:[mI,mX,mA,mK].Nodup):(gZ w.2 X Y DI z DD mI mX mA mK mF).oB pw (wf w b b2) (A4 w.2) I O:=
 AF (w:=wf w b b2) (Sf:=fun q=>A3 AQ) (fun q=>h _ _ _ _ _) (fun q=>Ac (by intro h; cases h)) nd (fun q=>⟨rfl,rfl,fun q=>rfl⟩) (fun q q=>rfl)
def W2(X Y:Str):AA:=B6 (fun q=>Hv) [] [] [] (fun q=>ZA X Y)
theorem Rw{X Y:Str}{I:Lp→Prop}(h:(ZA X Y).nP (wf w b b2) (A3 Hv) I I):(W2 X Y).oB pw (wf w b b2) (A4 w.2) I I:=
 AF (w:=wf w b b2) (Sf:=fun q=>A3 Hv) (fun q=>h) (fun q=>Ac (by intro h; cases h)) (by decide) (fun q=>⟨rfl,rfl,fun q=>rfl⟩) (fun q q=>rfl)
def Zb(X Y:Str):AA:=B6 (fun q=>Jk) [] [] [] (fun q=>cJ X Y)
theorem Rl{X Y:Str}{I:Lp→Prop}(h:(cJ X Y).nP (wf w b b2) (A3 Jk) I I):(Zb X Y).oB pw (wf w b b2) (A4 w.2) I I:=
 AF (w:=wf w b b2) (Sf:=fun q=>A3 Jk) (fun q=>h) (fun q=>Ac (by intro h; cases h)) (by decide) (fun q=>⟨rfl,rfl,fun q=>rfl⟩) (fun q q=>rfl)
def WT(P:Params)(L:Str)(DZ:Data)(mW:Nat):AA:=B6 (fun x=>FP P (A2 x mW)) [mW] [false] [true] (fun x=>Tb P (A2 x mW) L DZ (C3 (JN x mW)) (JN x mW))
theorem SH{L:Str}{DZ:Data}{mW:Nat}{I:Lp→Prop}(h:∀ (fW:Nat) (DW:Data),(Tb w.2 fW L DZ (C3 DW) DW).nP (wf w b b2) (A3 (FP w.2 fW)) I I):(WT w.2 L DZ mW).oB pw (wf w b b2) (A4 w.2) I I:=
 AF (w:=wf w b b2) (Sf:=fun x=>A3 (FP w.2 (A2 x mW))) (fun x=>h _ _) (fun x=>Ac (by intro h; cases h)) (by simp) (fun q=>⟨rfl,rfl,fun q=>rfl⟩) (fun q q=>rfl)
def WQ(P:Params)(L:Str)(DZ:Data)(mW:Nat):AA:=B6 (fun x=>FP P (A2 x mW)) [mW] [false] [true] (fun x=>Tb P (A2 x mW) L DZ (Dp (A2 x mW) (JN x mW)) (JN x mW))
theorem SG{L:Str}{DZ:Data}{mW:Nat}{I:Lp→Prop}(h:∀ (fW:Nat) (DW:Data),(Tb w.2 fW L DZ (Dp fW DW) DW).nP (wf w b b2) (A3 (FP w.2 fW)) I I):(WQ w.2 L DZ mW).oB pw (wf w b b2) (A4 w.2) I I:=
 AF (w:=wf w b b2) (Sf:=fun x=>A3 (FP w.2 (A2 x mW))) (fun x=>h _ _) (fun x=>Ac (by intro h; cases h)) (by simp) (fun q=>⟨rfl,rfl,fun q=>rfl⟩) (fun q q=>rfl)
def gR(z1 z2:Data)(m1 m2:Nat):AA:=B6 (fun q=>EJ) [m1,m2] [true,true] [] (fun x=>Yh (A2 x m1) (A2 x m2) z1 z2)
theorem WH{z1 z2 rL rK:Data}{m1 m2:Nat}{I:Lp→Prop}(e1:rL=z1)(e2:rK=z2)(h:∀ t1 t2:Nat,(Yh t1 t2 z1 z2).nP (wf w b b2) Mk I I)(nd:[m1,m2].Nodup):(gR rL rK m1 m2).oB pw (wf w b b2) (A4 w.2) I I:=by
 rw [e1,e2]
 exact AF (w:=wf w b b2) (Sf:=fun q=>Mk) (fun q=>h _ _) (fun q k g l cd pc rest hs=>⟨⟨k,g,l,cd,rest,rfl⟩,Ac (by intro h; cases h) k g l cd pc rest hs⟩) nd (fun q=>⟨rfl,rfl,fun q=>rfl⟩) (fun q q=>rfl)
def gY(z1 z2:Data)(m1 m2:Nat):AA:=B6 (fun q=>EJ) [m1,m2] [true,true] [] (fun x=>Xj (A2 x m1) (A2 x m2) z1 z2)
theorem OF{z1 z2 rL rK:Data}{m1 m2:Nat}{I:Lp→Prop}(e1:rL=z1)(e2:rK=z2)(h:∀ t1 t2:Nat,(Xj t1 t2 z1 z2).nP (wf w b b2) Mk I I)(nd:[m1,m2].Nodup):(gY rL rK m1 m2).oB pw (wf w b b2) (A4 w.2) I I:=by
 rw [e1,e2]
 exact AF (w:=wf w b b2) (Sf:=fun q=>Mk) (fun q=>h _ _) (fun q k g l cd pc rest hs=>⟨⟨k,g,l,cd,rest,rfl⟩,Ac (by intro h; cases h) k g l cd pc rest hs⟩) nd (fun q=>⟨rfl,rfl,fun q=>rfl⟩) (fun q q=>rfl)
theorem AA.oB.tt{p:Program}{kt:KT}{o:AA}{I O:Lp→Prop}(h:o.oB p w kt I O):o.oB p w kt I (fun q=>True):=AA.pP.mono h (fun q h=>h) fun q q q q q=>True.intro
theorem WR{P:Params}{L:Str}{DZ:Data}{mW:Nat}{u:U}{x:SX}(g:(WT P L DZ mW).good u x):eD (u.d 1)=DZ:=g.2.1
theorem WN{P:Params}{L:Str}{DZ:Data}{mW:Nat}{u:U}{x:SX}(g:(WQ P L DZ mW).good u x):eD (u.d 1)=DZ:=g.2.1
theorem Z'{P:Params}{X Y:Str}{DI z DD:Data}{mI mX mA mK mF:Nat}{u:U}{x:SX}(g:(gZ P X Y DI z DD mI mX mA mK mF).good u x):eD (u.d 2)=DD:=g.1.2.1
theorem Zr{P:Params}{X Y:Str}{DI DD:Data}{mI mX mA mK mF:Nat}{u:U}{x:SX}(g:(gO P X Y DI DD mI mX mA mK mF).good u x):eD (u.d 2)=DD:=by
 obtain ⟨⟨z,h⟩,_⟩:=g
 exact h.2.1
theorem Ui{lc:Expr}{P:Params}{nn:Nat}{DF DG:Data}{mI mA mK qM qK mF mG mR:Nat}{u:U}{x:SX}(g:(cR lc P nn DF DG mI mA mK qM qK mF mG mR).good u x):eD (u.d 10)=DF∧eD (u.d 12)=DG:=by
 obtain ⟨⟨z,h⟩,_⟩:=g
 exact ⟨h.2.1,h.2.2.1⟩
theorem Uk{z1 z2:Data}{m1 m2:Nat}{u:U}{x:SX}(g:(gR z1 z2 m1 m2).good u x):eD (u.d 0)=z1∧eD (u.d 2)=z2:=⟨g.1.1,g.1.2.1⟩
end
end
structure YU(w:World)(b b2:Bool)(J:List Data→Lp→Prop)(nn:Nat)(DS DL DX DI DF DG zl:Data)(xl:Int)(X Y L LR:Str):Prop where
 sl:∃ vs n,DS=.seq ⟨vs⟩ n∧vs.length≤5000∧DL=.seq ⟨vs.take 3⟩ 0∧DX=.seq ⟨[.int 4 0,.int 9 0]++vs.take 3⟩ 0
 dr:∀ aI ny aA aK oF oJ fr:Nat,Spec.nX (LY w.2 aI ny aA aK oF oJ fr xl DX DI) (fun z _ P=>J [z] P) (LY w.2 aI ny aA aK oF oJ fr xl DX DI .plain) (wf w b b2) (A3 AQ) (fun L=>L=[])
 aw:∀ (DD:Data) (aI aX aA aK fr:Nat),(Hn (EY w.2) w.2 aI aX aA aK fr X Y DD DI zl).nP (wf w b b2) (A3 AQ) (J [DD]) (J [DD])
 fk:∀ (I:Lp→Prop) (fW:Nat) (DW:Data),(Tb w.2 fW L DF (C3 DW) DW).nP (wf w b b2) (A3 (FP w.2 fW)) I I
 tv:∀ (I:Lp→Prop),(cJ L LR).nP (wf w b b2) (A3 Jk) I I
 fl:∀ (I:Lp→Prop) (fW:Nat) (DW:Data),(Tb w.2 fW LR DG (Dp fW DW) DW).nP (wf w b b2) (A3 (FP w.2 fW)) I I
 lf:∃ fs n,DF=.seq ⟨fs⟩ n∧(fs.length:Int)=nn∧fs.length < 2 ^ 62
 lg:∃ fs n,DG=.seq ⟨fs⟩ n∧(fs.length:Int)=nn∧fs.length < 2 ^ 62
 td:∀ (DD:Data) (aI aA aK nT oD aF aG fr:Nat),Spec.nX (IZ (MJ w.2) w.2 aI aA aK nT oD aF aG fr nn DF DG) (fun z _ P=>J [DD,z] P) (IZ (MJ w.2) w.2 aI aA aK nT oD aF aG fr nn DF DG .plain) (wf w b b2) (A3 AQ) (J [DD])
 bk:∀ (DD DT:Data) (aI aA aK nT oD aF aG fr:Nat),Spec.nX (IZ (MK w.2) w.2 aI aA aK nT oD aF aG fr nn DF DG) (fun z _ P=>J [DD,DT,z] P) (IZ (MK w.2) w.2 aI aA aK nT oD aF aG fr nn DF DG .plain) (wf w b b2) (A3 AQ) (J [DD,DT])
 mr:∀ (DD DT DB:Data) (aI aX aA aK fr:Nat),Spec.nX (Hn (CI w.2) w.2 aI aX aA aK fr X Y DD DI) (fun z _ P=>J [DD,DT,DB,z] P) (Hn (CI w.2) w.2 aI aX aA aK fr X Y DD DI .plain) (wf w b b2) (A3 AQ) (J [DD,DT,DB])
 le:∀ (DD DT DB DM:Data) (t1 t2:Nat),(Yh t1 t2 DT DD).nP (wf w b b2) Mk (J [DD,DT,DB,DM]) (J [DD,DT,DB,DM])
 r1:∀ (DD DT DB DM:Data) (nQ nR:Nat) (DW:Data),Spec.nX (LA w.2 nQ nR DT DW) (fun z _ P=>J [DD,DT,DB,DM,z] P) (LA w.2 nQ nR DT DW .plain) (wf w b b2) (A3 (EI w.2 nR)) (J [DD,DT,DB,DM])
 w1:∀ (DD DT DB DM z1:Data) (nQ:Nat),Spec.nX (KX w.2 nQ DD) (fun z _ P=>J [DD,DT,DB,DM,z1,z] P) (KX w.2 nQ DD .plain) (wf w b b2) (A3 EJ) (J [DD,DT,DB,DM,z1])
 e1:∀ (DD DT DB DM z1 z2:Data) (t1 t2:Nat),(Xj t1 t2 z1 z2).nP (wf w b b2) Mk (J [DD,DT,DB,DM,z1,z2]) (J [DD,DT,DB,DM,z1,z2])
 r2:∀ (DD DT DB DM z1 z2:Data) (nQ nR:Nat) (DW:Data),Spec.nX (LA w.2 nQ nR DB DW) (fun z _ P=>J [DD,DT,DB,DM,z1,z2,z] P) (LA w.2 nQ nR DB DW .plain) (wf w b b2) (A3 (EI w.2 nR)) (J [DD,DT,DB,DM,z1,z2])
 w2:∀ (DD DT DB DM z1 z2 z3:Data) (nQ:Nat),Spec.nX (KX w.2 nQ DM) (fun z _ P=>J [DD,DT,DB,DM,z1,z2,z3,z] P) (KX w.2 nQ DM .plain) (wf w b b2) (A3 EJ) (J [DD,DT,DB,DM,z1,z2,z3])
 e2:∀ (DD DT DB DM z1 z2 z3 z4:Data) (t1 t2:Nat),(Xj t1 t2 z3 z4).nP (wf w b b2) Mk (J [DD,DT,DB,DM,z1,z2,z3,z4]) (J [DD,DT,DB,DM,z1,z2,z3,z4])
def Ox(b2:Bool)(n:Nat):List Nat:=(bif b2 then hD 27 86 914057214495176656112384811823072031493964094512268185498792858931357504117245074293710408569838801281364594139974629975795 else hD 27 90 485767480172806660532595227248704444450281032223118905149514802853732372469908100105673490195286323164717777500785252868482627275)++(List.replicate n [23,23,0,23,0,25,25,25,24,24,24,0,19,19,19,19,16,19,19]).flatten++hD 48 95 5002937938354595029002218544909061416963623929070527930724187998952204378781302715898901018983950139846879972694158152828877019445148865140304682248814634581131
noncomputable def KA(b2:Bool)(n:Nat):List Nat:=[0,1,1,bif b2 then 8 else 9]++List.replicate n 2++[0,0,0,4,0,4,1,0,0,0,0,0,0,0,0]
noncomputable abbrev CN:=Params→Data→Data→Data→Data→Data→Data→Int→Str→Str→Str→Str→List (Str×Str)→List (List U→AA)
noncomputable def Sr:CN:=fun P DS DL DX DI DF DG xl X Y L LR zq=>(fun l=>gY (ud l 1 1) (ud l 0 1) 44 45)::[]
noncomputable def Su:CN:=fun P DS DL DX DI DF DG xl X Y L LR zq=>(fun l=>gI P (ud l 5 4) 40)::Sr P DS DL DX DI DF DG xl X Y L LR zq
noncomputable def Sv:CN:=fun P DS DL DX DI DF DG xl X Y L LR zq=>(fun l=>gP P (ud l 5 2) 37 2)::Su P DS DL DX DI DF DG xl X Y L LR zq
noncomputable def Sw:CN:=fun P DS DL DX DI DF DG xl X Y L LR zq=>(fun l=>gY (ud l 1 1) (ud l 0 1) 42 43)::Sv P DS DL DX DI DF DG xl X Y L LR zq
noncomputable def Sx:CN:=fun P DS DL DX DI DF DG xl X Y L LR zq=>(fun l=>gI P (ud l 1 2) 12)::Sw P DS DL DX DI DF DG xl X Y L LR zq
noncomputable def Sy:CN:=fun P DS DL DX DI DF DG xl X Y L LR zq=>(fun l=>gP P (ud l 0 0) 33 2)::Sx P DS DL DX DI DF DG xl X Y L LR zq
noncomputable def X4:CN:=fun P DS DL DX DI DF DG xl X Y L LR zq=>(fun l=>gR (ud l 3 2) (ud l 0 2) 33 12)::Sy P DS DL DX DI DF DG xl X Y L LR zq
noncomputable def X5:CN:=fun P DS DL DX DI DF DG xl X Y L LR zq=>(fun l=>gO P X Y DI (ud l (zq.length+9) 2) 39 12 40 41 2)::X4 P DS DL DX DI DF DG xl X Y L LR zq
noncomputable def X6:CN:=fun P DS DL DX DI DF DG xl X Y L LR zq=>(fun l=>cR (MK P) P zq.length (ud l 1 10) (ud l 1 12) 36 37 38 4 5 29 30 2)::X5 P DS DL DX DI DF DG xl X Y L LR zq
noncomputable def X7:CN:=fun P DS DL DX DI DF DG xl X Y L LR zq=>(fun l=>GG 30 (ud l 0 12) zq.length)::X6 P DS DL DX DI DF DG xl X Y L LR zq
noncomputable def X8:CN:=fun P DS DL DX DI DF DG xl X Y L LR zq=>(fun l=>cR (MJ P) P zq.length (ud l 3 1) (ud l 1 1) 32 33 34 4 5 29 30 2)::X7 P DS DL DX DI DF DG xl X Y L LR zq
noncomputable def X9:CN:=fun P DS DL DX DI DF DG xl X Y L LR zq=>(fun l=>GG 29 (ud l 2 1) zq.length)::X8 P DS DL DX DI DF DG xl X Y L LR zq
noncomputable def XC:CN:=fun P DS DL DX DI DF DG xl X Y L LR zq=>(fun l=>WQ P LR DG 2)::X9 P DS DL DX DI DF DG xl X Y L LR zq
noncomputable def XD:CN:=fun P DS DL DX DI DF DG xl X Y L LR zq=>(fun l=>Zb L LR)::XC P DS DL DX DI DF DG xl X Y L LR zq
noncomputable def XF:CN:=fun P DS DL DX DI DF DG xl X Y L LR zq=>(fun l=>WT P L DF 2)::XD P DS DL DX DI DF DG xl X Y L LR zq
noncomputable def XG:CN:=fun P DS DL DX DI DF DG xl X Y L LR zq=>(fun l=>l8 ⟨⟨[32]⟩⟩ (zq.map (·.2)) (zq.length+2) 24 L)::XF P DS DL DX DI DF DG xl X Y L LR zq
noncomputable def aq:CN:=fun P DS DL DX DI DF DG xl X Y L LR zq=>zq.map (fun q z=>W2 q.1 q.2)++XG P DS DL DX DI DF DG xl X Y L LR zq
noncomputable def XH:CN:=fun P DS DL DX DI DF DG xl X Y L LR zq=>(fun l=>GK 24 23)::aq P DS DL DX DI DF DG xl X Y L LR zq
noncomputable def XI:CN:=fun P DS DL DX DI DF DG xl X Y L LR zq=>(fun l=>gZ P X Y DI (.seq ⟨zq.map fun q=>.str q.1 0⟩ zq.length) (ud l 0 4) 14 12 15 16 2)::XH P DS DL DX DI DF DG xl X Y L LR zq
noncomputable def XJ:CN:=fun P DS DL DX DI DF DG xl X Y L LR zq=>(fun l=>lB P xl DI (ud l 0 0) 11 10 12 13 3 6 2)::XI P DS DL DX DI DF DG xl X Y L LR zq
noncomputable def XK:CN:=fun P DS DL DX DI DF DG xl X Y L LR zq=>(fun l=>O7 7 9 (.seq #[.int 4 0,.int 9 0] 0) (ud l 0 0) DX)::XJ P DS DL DX DI DF DG xl X Y L LR zq
noncomputable def GR:CN:=fun P DS DL DX DI DF DG xl X Y L LR zq=>(fun l=>Zi 0 8 DS DL)::XK P DS DL DX DI DF DG xl X Y L LR zq
theorem Ow(dS DL DX DI DF DG:Data)(xl:Int)(X Y L LR:Str){zq:List (Str×Str)}(h2:2≤zq.length)(h5:zq.length≤5)(aS n:Nat)(drawn:Drawn)(t:Nat)(os:OsState)(pos:Pos)(d:Nat→FD)(u:Nat→U):Og w b b2 (GR w.2 (eD dS) DL DX DI DF DG xl X Y L LR zq) ((List.range (GR w.2 (eD dS) DL DX DI DF DG xl X Y L LR zq).length).map u) (Ox b2 zq.length) 0 (KA b2 zq.length) n drawn t os pos d aS dS:=
 IW (List.range' 2 4) ((Cs.bb b).pp (Cs.bb b2)) (F:=fun zq z=>Of w z.1 z.2 (GR w.2 (eD dS) DL DX DI DF DG xl X Y L LR zq) ((List.range (GR w.2 (eD dS) DL DX DI DF DG xl X Y L LR zq).length).map u) (Ox z.2 zq.length) 0 (KA z.2 zq.length) n drawn t os pos d aS dS) (G:=fun zq z=>Oe w z.1 z.2 (GR w.2 (eD dS) DL DX DI DF DG xl X Y L LR zq) ((List.range (GR w.2 (eD dS) DL DX DI DF DG xl X Y L LR zq).length).map u) (Ox z.2 zq.length) 0 (KA z.2 zq.length) n drawn t os pos d aS dS) (fun f=>by kernel_rfl) (List.mem_range'_1.mpr ⟨h2,Nat.lt_succ_of_le h5⟩)
theorem Bv.rN{α:Type}{E:List U→Lp→Prop}{p:Program}{w:World}{kt:KT}{I:Lp→Prop}(g:α→AA){fs:List (List U→AA)}:∀ (zq:List α) (l:List U),(∀ q∈zq,(g q).oB p w kt I I)→(∀ us:List U,us.length=zq.length→Bv E p w kt I fs (us++l))→Bv E p w kt I (zq.map (fun q z=>g q)++fs) l
 | [],_,_,k=>k [] rfl
 | q::zq,l,h,k=>.cons (h q (.head _)) fun u z z=>Bv.rN g zq (u::l) (fun q m=>h q (.tail _ m)) fun us hu=>by
  have:=k (us++[u]) (by simp [hu])
  rwa [List.append_assoc] at this
theorem Ii(l:List U)(k:Nat):∀ us:List U,BL (us++l) (k+us.length)=BL l k
 | []=>rfl
 | _::us=>Ii l k us
theorem XM{w:World}{b b2:Bool}{J:List Data→Lp→Prop}{DS DL DX DI DF DG:Data}{xl:Int}{X Y L LR:Str}{zq:List (Str×Str)}(h2:2≤zq.length)(h5:zq.length≤5)(H:YU w b b2 J zq.length DS DL DX DI DF DG (.seq ⟨zq.map fun q=>.str q.1 0⟩ zq.length) xl X Y L LR)(hq:∀ q∈zq,∀ I:Lp→Prop,(ZA q.1 q.2).nP (wf w b b2) (A3 Hv) I I)(hj:Builtin.Str.tooLong ((zq.map (·.2)).toArray.foldl (· + ·.length+(⟨⟨[32]⟩⟩:Str).length) 0)=false)(hL:Builtin.Str.glued ⟨⟨[32]⟩⟩ (zq.map (·.2))=L)(hs:L.length≤sizeLine):Bv (fun z z=>True) pw (wf w b b2) (A4 w.2) (fun L=>L=[]) (GR w.2 DS DL DX DI DF DG xl X Y L LR zq) []:=by
 obtain ⟨vs,n,hS,hv,hDL,hDX⟩:=H.sl
 obtain ⟨fs,n1,hF,hF1,hF2⟩:=H.lf
 obtain ⟨gs,n2,hG,hG1,qe⟩:=H.lg
 refine .cons (AA.Ok.pL (Rr hS hDL (by have:=A5; lia)) _) fun u0 x0 g0=>?_
 have e0:eD (u0.d 0)=DL:=g0 rfl
 refine .cons (AA.Ok.pL (J4 rfl (e0.trans hDL) hDX (by have:=A5; simp only [List.length_cons,List.length_nil,List.length_take]; lia)) _) fun u1 x1 g1=>?_
 have e1:eD (u1.d 0)=DX:=g1 rfl
 refine .oG (WV e1 H.dr (by decide)) fun u2 x2 g2=>?_
 refine .cons (Wb (H.aw _) (by decide)) fun u3 x3 g3=>?_
 have e3:eD (u3.d 2)=eD (u2.d 4):=Z' g3
 refine .note (ES (by decide)) fun u4 x4 g4=>?_
 refine Bv.rN (fun q:Str×Str=>W2 q.1 q.2) zq _ (fun q m=>Rw (hq q m _)) fun us hu=>?_
 refine .ph (WI (by simpa using h2) hj hL hs) fun u7 x7 g7=>?_
 refine .cons (SH (H.fk _)) fun u8 x8 g8=>?_
 have eF:eD (u8.d 1)=DF:=WR g8
 refine .cons (Rl (H.tv _)) fun u9 x9 g9=>?_
 refine .cons (SG (H.fl _)) fun sb tY t8=>?_
 have eG:eD (sb.d 1)=DG:=WN t8
 refine .cons (AA.Ok.pL (Ca (eF.trans hF) hF1 hF2) _) fun uB tX uO=>?_
 refine .oG (Nv eF eG (H.td _) (by decide)) fun ru tW sR=>?_
 have eF2:eD (ru.d 10)=DF:=(Ui sR).1.trans eF
 have eG2:eD (ru.d 12)=DG:=(Ui sR).2.trans eG
 refine .cons (AA.Ok.pL (Ca (eG2.trans hG) hG1 qe) _) fun tw tV uN=>?_
 refine .oG (Nv eF2 eG2 (H.bk _ _) (by decide)) fun tq tU uM=>?_
 have e3':∀ x1 x2 x3 x4 x5 x6 x7 x8,ud (x1::x2::x3::x4::x5::x6::x7::x8::(us++[u4,u3,u2,u1,u0])) (zq.length+9) 2=eD (u2.d 4):=fun z z z z z z z z=>by
  show eD ((BL (us++_) (zq.length+1)).d 2)=_
  rw [← hu,Nat.add_comm,Ii]; exact e3
 refine .oG (WE (e3' _ _ _ _ _ _ _ _) (H.mr _ _ _) (by decide)) fun sa tT t7=>?_
 have eM:eD (sa.d 2)=eD (u2.d 4):=(Zr t7).trans (e3' _ _ _ _ _ _ _ _)
 refine .cons (WH rfl eM (H.le _ _ _ _) (by decide)) fun sN tS sQ=>?_
 have eT:eD (sN.d 0)=eD (ru.d 2):=(Uk sQ).1
 have eN:eD (sN.d 2)=eD (u2.d 4):=(Uk sQ).2.trans eM
 refine .oG (O3 eT (H.r1 _ _ _ _) (by decide)) fun tn tQ uL=>?_
 refine .oG (Nr eN (H.w1 _ _ _ _ _) (by decide)) fun tm tP uK=>?_
 refine .cons (OF rfl rfl (H.e1 _ _ _ _ _ _) (by decide)) fun tg tO uJ=>?_
 refine .oG (O3 rfl (H.r2 _ _ _ _ _ _) (by decide)) fun te tN uI=>?_
 refine .oG (Nr rfl (H.w2 _ _ _ _ _ _ _) (by decide)) fun ta tL uH=>?_
 refine .cons (AA.oB.tt (OF rfl rfl (H.e2 _ _ _ _ _ _ _ _) (by decide))) fun tZ tJ uG=>?_
 exact .nil fun z z=>trivial
theorem ao{dS:Data}{w:World}{b b2:Bool}{J:List Data→Lp→Prop}{DL DX DI DF DG:Data}{xl:Int}{X Y L LR:Str}{zq:List (Str×Str)}(h2:2≤zq.length)(h5:zq.length≤5)(H:YU w b b2 J zq.length (eD dS) DL DX DI DF DG (.seq ⟨zq.map fun q=>.str q.1 0⟩ zq.length) xl X Y L LR)(hq:∀ q∈zq,∀ I:Lp→Prop,(ZA q.1 q.2).nP (wf w b b2) (A3 Hv) I I)(hj:Builtin.Str.tooLong ((zq.map (·.2)).toArray.foldl (· + ·.length+(⟨⟨[32]⟩⟩:Str).length) 0)=false)(hL:Builtin.Str.glued ⟨⟨[32]⟩⟩ (zq.map (·.2))=L)(hs:L.length≤sizeLine):∃ fs hs cs,Bv (fun z z=>True) pw (wf w b b2) (A4 w.2) (fun L=>L=[]) fs []∧∀ (aS n:Nat) (drawn:Drawn) (t:Nat) (os:OsState) (pos:Pos) (d:Nat→FD) (u:Nat→U),Og w b b2 fs ((List.range fs.length).map u) hs 0 cs n drawn t os pos d aS dS:=
 ⟨_,_,_,XM h2 h5 H hq hj hL hs,Ow w b b2 dS DL DX DI DF DG xl X Y L LR h2 h5⟩
noncomputable def Em(l:List (Nat×Nat)):Bool:=(l.map (·.1)).all (fun c=>Nat.blt c 4)&&decide (l.map (·.1)).Nodup&&Nat.ble l.length 4
def Lg(a b:List (Nat×Nat)):Bool:=match G9 a with
 | some (wh,rows)=>(EF b).1==wh&&Em rows&&Em (EF b).2&&Bl rows==Bl (EF b).2
 | none=>false
def V1(nO:List (Nat×Nat)):Bool:=Lg nO nO&&Lg (BR nO).reverse (BR nO)
noncomputable def base:List (Nat×Nat):=[(0,1),(1,2)]
noncomputable def EC:List (Nat×Nat):=(List.range 4).flatMap fun i=>(List.range 4).map fun j=>(i,j)
section
def FK:List (Lp→Prop)→Lp→Prop
 | []=>fun L=>L=[]
 | A::l=>St A (FK l)
theorem FK.perm{l l':List (Lp→Prop)}(p:l.Perm l'):∀ L,FK l L→FK l' L:=by
 induction p with
 | nil=>exact fun q h=>h
 | cons x _ ih=>exact St.r ih
 | swap x y l=>exact St.lc
 | trans _ _ h1 h2=>exact fun L h=>h2 L (h1 L h)
theorem St.one{A:Lp→Prop}{L:Lp}(h:A L):St A (fun L=>L=[]) L:=⟨L,[],h,rfl,by rw [List.append_nil]⟩
theorem JU{a c:List (Nat×Nat)}(h:Lg a c=true):∃ wh rows,G9 a=some (wh,rows)∧EF c=(wh,(EF c).2)∧Bl rows=Bl (EF c).2∧Em rows=true∧Em (EF c).2=true:=by
 unfold Lg at h
 cases e:G9 a with
 | none=>rw [e] at h; cases h
 | some r=>
  obtain ⟨wh,rows⟩:=r
  rw [e] at h
  simp only [Bool.and_eq_true,beq_iff_eq] at h
  obtain ⟨⟨⟨h1,h2⟩,h3⟩,h4⟩:=h
  exact ⟨wh,rows,rfl,by rw [← h1],h4,h2,h3⟩
theorem Dj{l:List (Nat×Nat)}(h:Em l=true):(∀ c∈l.map (·.1),c < 4)∧(l.map (·.1)).Nodup∧l.length≤4:=by
 unfold Em at h
 simp only [Bool.and_eq_true,decide_eq_true_eq,List.all_eq_true] at h
 exact ⟨fun c m=>Nat.le_of_ble_eq_true (h.1.1 c m),h.1.2,Nat.le_of_ble_eq_true h.2⟩
section
variable(nO:List (Nat×Nat))(wh r8:Bool)(r1 r2:List (Nat×Nat))
def tD(D:Data):Lp→Prop:=Fs (AE false) nO D
def tK(D:Data):Lp→Prop:=Fs (AE true) (BR nO).reverse D
def tM(D:Data):Lp→Prop:=Fs (AE true) (BR nO) D
def tR(f:Bool)(D:Data):Lp→Prop:=RT (AE f) wh (Bl r1) D
def Jl:List Data→Lp→Prop
 | [DD]=>FK [tD nO DD]
 | [DD,DT]=>FK [tD nO DT,tD nO DD]
 | [DD,DT,DB]=>FK [tK nO DB,tD nO DT,tD nO DD]
 | [DD,DT,DB,DM]=>FK [tM nO DM,tK nO DB,tD nO DT,tD nO DD]
 | [DD,DT,DB,DM,z1]=>FK [tR wh r1 false z1,tM nO DM,tK nO DB,tD nO DT,tD nO DD]
 | [DD,DT,DB,DM,z1,z2]=>FK [tR wh r1 false z2,tR wh r1 false z1,tM nO DM,tK nO DB,tD nO DT,tD nO DD]
 | [DD,DT,DB,DM,z1,z2,z3]=>FK [tR r8 r2 true z3,tR wh r1 false z2,tR wh r1 false z1,tM nO DM,tK nO DB,tD nO DT,tD nO DD]
 | [DD,DT,DB,DM,z1,z2,z3,z4]=>FK [tR r8 r2 true z4,tR r8 r2 true z3,tR wh r1 false z2,tR wh r1 false z1,tM nO DM,tK nO DB,tD nO DT,tD nO DD]
 | _=>fun q=>False
end
section
variable{w:World}{b b2:Bool}
theorem Fp{Z:Type}{F:Z→Spec}{A:Lp→Prop}{C:Z→Lp→Prop}{S:Spec}{Sh:Pos→List Frame→Prop}{l l0:List (Lp→Prop)}(h:Spec.nX F (fun z y=>St (C z) A) S w Sh A)(p:l.Perm (A::l0)):Spec.nX F (fun z y P=>FK (C z::l) P) S w Sh (FK l):=
 (h.st (FK l0)).mono (FK.perm p) fun z y P q=>FK.perm ((List.perm_cons _).mpr p.symm) P (St.as P q)
theorem Us{nm:Nat→Str}{wh:Bool}{rows:List (Nat×Nat)}{z1 z2:Data}{l l0:List (Lp→Prop)}(p:l.Perm (RT nm wh rows z1::RT nm wh rows z2::l0))(t1 t2:Nat):(Xj t1 t2 z1 z2).nP w Mk (FK l) (FK l):=by
 intro P hP
 obtain ⟨L1,_,h1,⟨L2,R,h2,_,q2⟩,q1⟩:=FK.perm p P hP
 refine (Xi nm wh rows t1 t2 z1 z2 ⟨L1,L2,R,h1,h2,q1.trans (List.Perm.append_left _ q2)⟩ P rfl).nV (fun q h=>h) ?_
 rintro e L ⟨A,P',rfl,sub,he,hL⟩
 exact ⟨A,P',hP,sub,he,hL⟩
theorem ak{nm:Nat→Str}{nO:List (Nat×Nat)}(hl:nO.length < 100){z1 z2:Data}{l l0:List (Lp→Prop)}(p:l.Perm (Fs nm nO z1::Fs nm nO z2::l0))(t1 t2:Nat):(Yh t1 t2 z1 z2).nP w Mk (FK l) (FK l):=by
 intro P hP
 obtain ⟨L1,_,h1,⟨L2,R,h2,_,q2⟩,q1⟩:=FK.perm p P hP
 refine (Wx nm nO hl t1 t2 z1 z2 (R:=R) ⟨L1,_,h1,⟨L2,R,h2,rfl,q2⟩,q1⟩ P rfl).nV (fun q h=>h) ?_
 rintro e L ⟨A,P',rfl,sub,he,hL⟩
 exact ⟨A,P',hP,sub,he,hL⟩
theorem S'{nO:List (Nat×Nat)}(k:Q0 nO)(hc:V1 nO=true){o7:List Int}{DS:Data}{es n:Nat}(hS:DS=.seq ⟨o7.map (.int · 0)⟩ es)(hs:o7.length≤5000)(hp:nO=([4,9]++o7.take 3).map B3)(hn:nO.length=n+1) :
  ∃ J,YU w b b2 J nO.length DS (.seq ⟨(o7.map (.int · 0)).take 3⟩ 0) (.seq ⟨([4,9]++o7.take 3).map (.int · 0)⟩ 0) (BW (nO.length:Nat)).data (.seq ⟨CS nO⟩ nO.length) (.seq ⟨Ef nO⟩ nO.length) (.seq ⟨Jc nO⟩ nO.length) (([4,9]++o7.take 3).getD n 0) (AE false (nO.getD n (0,0)).1) (AE false (nO.getD n (0,0)).2) ⟨⟨Bi nO⟩⟩ ⟨⟨(Bi nO).reverse⟩⟩:=by
 have pO:=hc
 unfold V1 at pO
 rw [Bool.and_eq_true] at pO
 obtain ⟨wh,rows,a1,a2,a3,a4,a5⟩:=JU pO.1
 obtain ⟨r8,rows2,b1,b3,b4,b5,b6⟩:=JU pO.2
 have h5:=k.h5
 have oQ:=k.ne
 have l1:(BR nO).length=nO.length:=by unfold BR; simp
 have hm:BR nO≠[]:=fun e=>oQ (List.length_eq_zero_iff.mp (by rw [← l1,e]; rfl))
 have hxs:([4,9]++o7.take 3:List Int).length=nO.length:=by rw [hp,List.length_map]
 obtain ⟨c1,c2,c3⟩:=Dj a4
 obtain ⟨d1,d2,d3⟩:=Dj a5
 obtain ⟨e1,e2,e3⟩:=Dj b5
 obtain ⟨g1,g2,g3⟩:=Dj b6
 refine ⟨Jl nO wh r8 rows rows2,⟨_,_,hS,by rw [List.length_map]; exact hs,rfl,?_⟩,?_,?_,fun I fW DW=>PO k fW DW I,fun I=>VQ _ (So k) k.ll I,fun I fW DW=>UK k fW DW I,⟨_,_,rfl,by simp [CS],by simp [CS]; lia⟩,⟨_,_,rfl,by simp [Ef],by simp [Ef]; lia⟩,?_,?_,?_,?_,?_,?_,?_,?_,?_,?_⟩
 ·rw [List.map_append,List.map_take]; rfl
 ·intro aI ny aA aK oF oJ fr
  have z:=bM (w:=w) (b:=b) (b2:=b2) aI ny aA aK oF oJ fr ([4,9]++o7.take 3) 0 (by rw [hxs]; lia) (n:=n) (hxs.trans hn)
  rw [hxs,← hp] at z
  exact z.mono (fun q h=>h) fun q q P h=>St.one h
 ·intro DD aI aX aA aK fr
  exact Spec.nX.p ((Spec.nX.st (Spec.nP.d (bp k hn DD aI aX aA aK fr)) (fun L=>L=[])))
 ·intro DD aI aA aK nT oD aF aG fr
  exact Yz k hn _ aI aA aK nT oD aF aG fr
 ·intro DD DT aI aA aK nT oD aF aG fr
  exact bh k hn _ aI aA aK nT oD aF aG fr
 ·intro DD DT DB aI aX aA aK fr
  exact (aV k hn DD (FK [tK nO DB,tD nO DT]) aI aX aA aK fr).mono (FK.perm (List.perm_middle (l₁:=[tK nO DB,tD nO DT]) (l₂:=[]))) fun z q P h=>FK.perm ((List.perm_cons _).mpr (List.perm_middle (l₁:=[tK nO DB,tD nO DT]) (l₂:=[]).symm)) P h
 ·intro DD DT DB DM t1 t2
  exact ak (by lia) (List.perm_append_comm (l₁:=[tM nO DM,tK nO DB]) (l₂:=[tD nO DT,tD nO DD])) t1 t2
 ·intro DD DT DB DM nQ nR DW
  exact Fp (L9 false (by lia) oQ c1 c2 c3 a1 nQ nR DT DW) (List.perm_middle (l₁:=[tM nO DM,tK nO DB]) (l₂:=[tD nO DD]))
 ·intro DD DT DB DM z1 nQ
  have z:=KW (w:=w) (b:=b) (b2:=b2) false (by lia) oQ d1 d2 d3 a2 nQ DD
  rw [← a3] at z
  exact Fp z (List.perm_middle (l₁:=[tR wh rows false z1,tM nO DM,tK nO DB,tD nO DT]) (l₂:=[]))
 ·intro DD DT DB DM z1 z2 t1 t2
  exact Us (.swap _ _ _) t1 t2
 ·intro DD DT DB DM z1 z2 nQ nR DW
  exact Fp (L9 true (by rw [List.length_reverse,l1]; lia) (by simpa using hm) e1 e2 e3 b1 nQ nR DB DW) (List.perm_middle (l₁:=[tR wh rows false z2,tR wh rows false z1,tM nO DM]) (l₂:=[tD nO DT,tD nO DD]))
 ·intro DD DT DB DM z1 z2 z3 nQ
  have z:=KW (w:=w) (b:=b) (b2:=b2) true (by rw [l1]; lia) hm g1 g2 g3 b3 nQ DM
  rw [← b4] at z
  exact Fp z (List.perm_middle (l₁:=[tR r8 rows2 true z3,tR wh rows false z2,tR wh rows false z1]) (l₂:=[tK nO DB,tD nO DT,tD nO DD]))
 ·intro DD DT DB DM z1 z2 z3 z4 t1 t2
  exact Us (.swap _ _ _) t1 t2
end
end
noncomputable def EG(tb:String→Option Builtin)(p:Program)(w:World)(n₀:Nat)(ann:Option Value):Nat→SharedT→Thread→Option SharedT
 | 0,_,_=>none
 | n+1,s,t=>match through t with
  | true=>some s
  | false=>match stepOk n₀ ann t with
   | false=>none
   | true=>match stepT (denote tb) p w s t with
    | some r=>EG tb p w n₀ ann n r.1 r.2
    | none=>none
theorem HA(tb:String→Option Builtin)(p:Program)(w:World)(n₀:Nat)(ann:Option Value)(n:Nat)(s:SharedT)(t:Thread):EG tb p w n₀ ann (n+1) s t=(match through t with
  | true=>some s
  | false=>match stepOk n₀ ann t with
   | false=>none
   | true=>match stepT (denote tb) p w s t with
    | some r=>EG tb p w n₀ ann n r.1 r.2
    | none=>none):=rfl
theorem Fv{tb:String→Option Builtin}{p:Program}{w:World}{n₀:Nat}{ann:Option Value}:∀ {n:Nat} {s s':SharedT} {t:Thread},EG tb p w n₀ ann n s t=some s'→topRun tb p w n₀ ann n s.abs t=some s'.abs
 | 0,_,_,_,h=>by cases h
 | n+1,s,s',t,h=>by
  rw [HA] at h
  unfold topRun
  cases ht:through t with
  | true=>rw [ht] at h; cases h; rfl
  | false=>
   rw [ht] at h
   cases hk:stepOk n₀ ann t with
   | false=>rw [hk] at h; cases h
   | true=>
    rw [hk] at h
    cases hs:stepT (denote tb) p w s t with
    | none=>rw [hs] at h; cases h
    | some r=>rw [hs] at h; rw [stepT_spec (s':=r.1) (t':=r.2) hs]; exact Fv h
noncomputable def EH(p:Program)(w:World)(n₀:Nat)(ann:Option Value):Nat→SharedT→Thread→Option SharedT
 | 0,_,_=>none
 | n+1,s,t=>match through t with
  | true=>some s
  | false=>match PySem.W.Fast.tw6613529449190102663 n₀ ann t with
   | false=>none
   | true=>match PySem.W.Fast.tw10156331382660048174 oS p w s t with
    | some r=>EH p w n₀ ann n r.1 r.2
    | none=>none
theorem Lo(p:Program)(w:World)(n₀:Nat)(ann:Option Value)(n:Nat)(s:SharedT)(t:Thread):EH p w n₀ ann (n+1) s t=(match through t with
  | true=>some s
  | false=>match PySem.W.Fast.tw6613529449190102663 n₀ ann t with
   | false=>none
   | true=>match PySem.W.Fast.tw10156331382660048174 oS p w s t with
    | some r=>EH p w n₀ ann n r.1 r.2
    | none=>none):=rfl
theorem Fw{p:Program}{w:World}{n₀:Nat}{ann:Option Value}:∀ (n:Nat) (s:SharedT) (t:Thread),EH p w n₀ ann n s t=EG treeTable p w n₀ ann n s t
 | 0,_,_=>rfl
 | n+1,s,t=>by
  rw [Lo,HA,← PySem.W.Fast.te6613529449190102663,← PySem.W.Fast.te10156331382660048174,← C4,table_eq_tree]
  simp only [Fw n]
noncomputable def Rk:List Obj→BT→Nat→Option (BT×Nat)
 | [],t,n=>some (t,n)
 | o::l,t,n=>match ((t.ins n o).get n).isSome with
  | true=>Rk l (t.ins n o) (n+1)
  | false=>none
theorem Kp(life:Life):∀ (l:List Obj) (t:BT) (n:Nat) (t':BT) (n':Nat),Rk l t n=some (t',n')→absHeap t' n' life=⟨(absHeap t n life).objs++l.toArray,life⟩
 | [],t,n,t',n',h=>by
  cases h
  show Heap.mk _ _=Heap.mk _ _
  simp
  rfl
 | o::l,t,n,t',n',h=>by
  have h:(match ((t.ins n o).get n).isSome with | true=>Rk l (t.ins n o) (n+1) | false=>none)=some (t',n'):=h
  cases q:((t.ins n o).get n).isSome with
  | false=>rw [q] at h; cases h
  | true=>
   rw [q] at h
   rw [Kp life l _ _ _ _ h,absHeap_ins q]
   show Heap.mk _ _=Heap.mk _ _
   simp [Heap.push]
def kV(s:Shared):Option SharedT:=(Rk s.heap.objs.toList .nil 0).map fun r=>⟨r.1,r.2,s.heap.life,s.gens,s.drawn,s.toks,s.os⟩
theorem Qf{s:Shared}{sT:SharedT}(h:kV s=some sT):sT.abs=s:=by
 obtain ⟨⟨objs,life⟩,gens,drawn,toks,os⟩:=s
 obtain ⟨⟨t',n'⟩,h1,h2⟩:=Option.map_eq_some_iff.mp h
 subst h2
 have z:=Kp life _ _ _ _ _ h1
 show (⟨absHeap t' n' life,gens,drawn,toks,os⟩:Shared)=_
 rw [z]
 have:(absHeap BT.nil 0 life).objs=#[]:=rfl
 simp [this]
noncomputable def Di(p:Program)(w:World)(N:Nat):Option SharedT:=
 ((PySem.W.Fast.tw10274390034422433532 PySem.W.Fast.tw14364793385576792824 (opening p) w N (PySem.W.Fast.tw1435165496053646825 (opening p)).1 (PySem.W.Fast.tw1435165496053646825 (opening p)).2).bind (PySem.W.Fast.tw14289696077712309145 p)).bind fun s₀=>
  match s₀.heap.isNs mainGlobals&&s₀.gens.size==0 with
  | true=>(kV s₀).bind fun sT=>(EH p w s₀.heap.objs.size (s₀.heap.nsMap mainGlobals "__annotations__") N sT (topStub p)).bind fun s₁=>
   match staticsOk (importedModules p.main.body) s₀.heap s₁.abs.heap&&namesBound p s₁.abs.heap&&gensDone s₁.abs&&laidKept s₀.heap s₁.abs.heap with
   | true=>some s₁
   | false=>none
  | false=>none
theorem J0{p:Program}{w:World}{N:Nat}{s₁:SharedT}(h:Di p w N=some s₁):openEnds treeTable p w N=some s₁.abs:=by
 unfold Di at h
 rw [← PySem.W.Fast.te10274390034422433532,← PySem.W.Fast.te14364793385576792824,← PySem.W.Fast.te1435165496053646825,← PySem.W.Fast.te14289696077712309145] at h
 obtain ⟨s₀,h0,h⟩:=Option.bind_eq_some_iff.mp h
 unfold openEnds fencedOpening
 rw [h0]
 show topFrom treeTable p w N s₀=_
 unfold topFrom
 cases q:(s₀.heap.isNs mainGlobals&&s₀.gens.size==0) with
 | false=>rw [q] at h; cases h
 | true=>
  rw [q] at h
  dsimp only at h ⊢
  obtain ⟨sT,hT,h⟩:=Option.bind_eq_some_iff.mp h
  obtain ⟨s₂,hr,h⟩:=Option.bind_eq_some_iff.mp h
  rw [Fw] at hr
  have z:=Fv hr
  rw [Qf hT] at z
  rw [z]
  dsimp only [Option.bind]
  cases q2:(staticsOk (importedModules p.main.body) s₀.heap s₂.abs.heap&&namesBound p s₂.abs.heap&&gensDone s₂.abs&&laidKept s₀.heap s₂.abs.heap) with
  | false=>rw [q2] at h; cases h
  | true=>
   rw [q2] at h
   cases h
   rfl
theorem Sp{p q:Program}{loose:List Str}{Xt:Shared→Bool}{α:Type}{Yf:Shared→α}{Ya:World→α}{N:Nat}
  (h:∀ w,(Di p w N).map (fun s=>(PySem.W.Fast.tw4187177175401517315 q loose (importedModules p.main.body) Xt true s.abs,Yf s.abs))=some (openGood q loose,Ya w)):LeftO p q loose Xt Yf Ya N:=fun w=>by
 obtain ⟨s₁,h1,h2⟩:=Option.map_eq_some_iff.mp (h w)
 rw [J0 h1]
 rw [← PySem.W.Fast.te4187177175401517315] at h2
 exact congrArg some h2
noncomputable def aH(P:Params):Obj:={ cls:=.none,data:=.fields #[] }
def Jh(P:Params):Frag:=(898,aH P)::VW P
noncomputable def HB:List Nat:=[898,0,1,2,3,4,75,76,90,91,94,95,96,97,98,109,110,121,127,128,134,135,141,142,146,147,153,154,174,175,181,182,191,192,200,201,214,215,241,242,244,245,246,271,272,502,512,518,519,525,526,532,533,688,694,695,748,749,801,807,808,814,815,816,844,845,851,852,873,874,880,881,883,884,889,895,896,902,903,904,910,911,915,916,922,923,927,928,934,935,939,940,944,945]
theorem N8(P:Params):HB=(Jh P).map (·.1):=rfl
def qv:Program:=view pw [44]
def IL:List Str:=pw.boundNames.filter (fun n=>n != Str.ofString "law")
theorem MM(w:World):(Di pw w 13222).map (fun s=>(PySem.W.Fast.tw4187177175401517315 qv IL (importedModules pw.main.body) (fun q=>true) true s.abs,obsZ HB s.abs))=some (openGood qv IL,valZ Jh 946 1535 w):=by kernel_rfl
theorem ai:LeftO pw qv IL (fun q=>true) (obsZ HB) (valZ Jh 946 1535) 13222:=Sp MM
end
section
open PySem PySem.W PySem.W.X PySem.Spec PySem.Calls PyProof.Rows
def Ik(name:Str)(vs:List Value):Sem Fin:=do
 match ← nsGet mainNs name with
 | some f=>do ret (← PySem.call f vs)
 | none=>unsupported "claim.caller:no-such-global"
theorem PJ{w:World}{s:Shared}{o:Obj}{name:Str}{f:Value}(ho:s.heap.get? mainGlobals=some o)(hl:nsLook name o=pure (some f))(vs:List Value)(ps:Pos) :
  ∃ (k:Result→Sem Fin) (g:Bool) (l:List Value),(∀ v,k (.ok (.ret v))=.pure (.done (.ret v)))∧Go pw w s ⟨Ik name vs,.builtin "claim.caller" {},ps,[]⟩ s ⟨denote table (.call f ⟨vs,[]⟩),.call f ⟨vs,[]⟩,ps,[.ret k none g l (.builtin "claim.caller" {}) ps []]⟩:=by
 have e0:∃ (pt:Option Value) (K:Obj→Sem Fin),Ik name vs=.load mainGlobals pt K∧K o=(nsLook name o>>=fun r=>match r with
  | some f=>(do ret (← PySem.call f vs))
  | none=>unsupported "claim.caller:no-such-global"):=⟨_,_,rfl,rfl⟩
 obtain ⟨pt,K,e1,e2⟩:=e0
 rw [hl] at e2
 obtain ⟨k,g,l,e3,hk⟩:∃ (k:Result→Sem Fin) (g:Bool) (l:List Value),K o=.call (.call f ⟨vs,[]⟩) none g l k∧(∀ v,k (.ok (.ret v))=.pure (.done (.ret v))):=⟨_,_,_,e2,fun q=>rfl⟩
 refine ⟨k,g,l,hk,?_⟩
 rw [e1]
 refine .head ((FF rfl (by intros; intro e; cases e) (by intros; intro e; cases e)).trans ?_) (s₁:=s) (t₁:=⟨K o,.builtin "claim.caller" {},ps,[]⟩) ?_
 ·simp only [step,ho]
 ·rw [e3]
  exact .one Cn
theorem Go.runN{w:World}{s s':Shared}{t t':Thread}(h:Go pw w s t s' t'):∃ n,(model pw w).runN n s t=.running s' t':=by
 induction h with
 | refl=>exact ⟨0,rfl⟩
 | head e _ ih=>
  obtain ⟨n,h⟩:=ih
  refine ⟨n+1,?_⟩
  show (match (model pw w).step _ _ with | .go od t''=>(model pw w).runN n od t'' | .halt o od=>.halted o od)=_
  rw [e]; exact h
theorem KI{w:World}{s s':Shared}{t:Sem Fin}{oI:Code}{pos':Pos}{v:Value}(s6:s.asleep)(go:Go pw w s ⟨t,.builtin "claim.caller" {},default,[]⟩ s' ⟨.pure (.done (.ret v)),oI,pos',[]⟩)(hl:leftWithCleanup s'.gens=false) :
  ∃ n od,schedN (denote table) pw w n (.single s ⟨t,.builtin "claim.caller" {},default,[]⟩)=.halted (.done (.ret v)) od∧runN (denote table) pw w n s ⟨t,.builtin "claim.caller" {},default,[]⟩=.halted (.done (.ret v)) od∧od.forget=s'.forget:=by
 obtain ⟨n,hn⟩:=go.runN
 have h2:(model pw w).runN (n+1) s ⟨t,.builtin "claim.caller" {},default,[]⟩=.halted (.done (.ret v)) s':=by
  rw [runN_snoc hn]
  have:=step_leaf_nil (M:=model pw w) (s:=s') (c:=oI) (p:=pos') (.ok (.ret v))
  show (match (model pw w).step s' ⟨leafOf (.ok (.ret v)),oI,pos',[]⟩ with | .go od t''=>Run.running od t'' | .halt o od=>.halted o od)=_
  rw [this]
  simp only [finish,hl,Bool.false_eq_true,if_false]
  rfl
 obtain ⟨od,a,b,c⟩:=runNI_full (denote table) pw w h2 rfl s6
 exact ⟨_,od,a,b,c⟩
section
theorem Ys(w:World):wf w (w.2.followText "special-get-raises") (w.2.followText "comprehension-iter-twice")=w:=by
 unfold wf
 rw [World.withFollow_self,World.withFollow_self]
theorem f9(o7:List Int):Q0 (([4,9]++o7.take 3).map B3):=by
 refine ⟨by simp,by simp; lia,fun p m=>?_⟩
 obtain ⟨x,_,rfl⟩:=List.mem_map.mp m
 exact Gl x
def YV(w:World)(s:Shared)(aS:Nat)(dS:Data)(pos:Pos)(nj:List Frame):Prop:=
 ∃ s' oI pos',Go pw w s ⟨denote table (JB aS),JB aS,pos,nj⟩ s' ⟨.pure (.done (.ret (.bool true))),oI,pos',nj⟩∧s'.os=s.os∧s'.heap.get? aS=some (A0 dS)∧(∃ vs,s'.heap.get? 898=some (CU vs))∧
   (∀ a o,s.heap.get? a=some o→a≠aS→a≠898→s'.heap.get? a=some o)∧s'.gens.toList.all (·.bare)=true∧s'.heap.life=s.heap.life
section
variable{w:World}{b b2:Bool}{s:Shared}{aS:Nat}{dS:Data}(ho:s.heap.get? aS=some (A0 dS))(pG:s.heap.get? 898=some (CU #[]))(hk:JY (A4 w.2) s)(hg:s.gens=#[])(qc:946≤aS)(pos:Pos){nj:List Frame}(oq:A3 HD pos nj)
include ho pG hk hg qc oq
theorem Sz{o7:List Int}{es:Nat}(qw:V1 (([4,9]++o7.take 3).map B3)=true)(hS:eD dS=.seq ⟨o7.map (.int · 0)⟩ es)(hs:o7.length≤5000):YV (wf w b b2) s aS dS pos nj:=by
 have k:=f9 o7
 have h5:=k.h5
 have h2:=k.h2
 obtain ⟨n,hn⟩:∃ n,(([4,9]++o7.take 3).map B3).length=n+1:=⟨_,(Nat.succ_pred_eq_of_pos (by lia)).symm⟩
 obtain ⟨J,H⟩:=S' (w:=w) (b:=b) (b2:=b2) k qw hS hs rfl hn
 generalize ([4,9]++o7.take 3).map B3=nO at *
 generalize ((o7.map (.int · 0)).take 3:List Value)=q1 at *
 generalize (([4,9]++o7.take 3).map (.int · 0):List Value)=q2 at *
 generalize ([4,9]++o7.take 3).getD n 0=q3 at *
 obtain ⟨gl,gt⟩:=TN k
 obtain ⟨zq,hz⟩:∃ zq:List (Str×Str),zq=nO.map fun p=>(⟨⟨C5 p.1 p.2⟩⟩,⟨⟨Dx p.1 p.2⟩⟩):=⟨_,rfl⟩
 have z2:zq.map (·.2)=nO.map fun p=>(⟨⟨Dx p.1 p.2⟩⟩:Str):=by rw [hz,List.map_map]; rfl
 rw [show Jc nO=zq.map fun q=>.str q.1 0 by rw [hz,List.map_map]; rfl,show nO.length=zq.length by rw [hz,List.length_map]] at *
 rw [← z2] at gl gt
 obtain ⟨fs,q7,cs,ch,lk⟩:=ao h2 h5 H (fun q m I=>by
  rw [hz] at m
  obtain ⟨p,mp,rfl⟩:=List.mem_map.mp m
  exact M3 k mp I) gt gl k.ll
 exact Sq ho pG hk hg qc ch pos oq (lk aS)
end
end
end
section
open PySem PySem.W PySem.W.X
theorem c0:V1 base=true:=by decide +kernel
theorem c1:(EC.all fun p=>V1 (base++[p]))=true:=by decide +kernel
theorem c2:(EC.all fun p=>EC.all fun q=>V1 (base++[p,q]))=true:=by decide +kernel
def Ic(k:Nat):Bool:=EC.all fun q=>EC.all fun r=>V1 (base++[(k / 4,k % 4),q,r])
theorem jr:Ic 0=true:=by decide +kernel
theorem jq:Ic 1=true:=by decide +kernel
theorem jo:Ic 2=true:=by decide +kernel
theorem jm:Ic 3=true:=by decide +kernel
theorem jl:Ic 4=true:=by decide +kernel
theorem jk:Ic 5=true:=by decide +kernel
theorem jj:Ic 6=true:=by decide +kernel
theorem ji:Ic 7=true:=by decide +kernel
theorem jh:Ic 8=true:=by decide +kernel
theorem jg:Ic 9=true:=by decide +kernel
theorem bg:Ic 10=true:=by decide +kernel
theorem bf:Ic 11=true:=by decide +kernel
theorem bc:Ic 12=true:=by decide +kernel
theorem ba:Ic 13=true:=by decide +kernel
theorem bZ:Ic 14=true:=by decide +kernel
theorem bY:Ic 15=true:=by decide +kernel
theorem CF{p:Nat×Nat}(h:p.1 < 4∧p.2 < 4):p∈EC:=by
 unfold EC
 rw [List.mem_flatMap]
 exact ⟨p.1,List.mem_range.mpr h.1,List.mem_map.mpr ⟨p.2,List.mem_range.mpr h.2,rfl⟩⟩
theorem Y9(k:Nat)(h:k < 16):Ic k=true:=by
 match k,h with
 | 0,_=>exact jr
 | 1,_=>exact jq
 | 2,_=>exact jo
 | 3,_=>exact jm
 | 4,_=>exact jl
 | 5,_=>exact jk
 | 6,_=>exact jj
 | 7,_=>exact ji
 | 8,_=>exact jh
 | 9,_=>exact jg
 | 10,_=>exact bg
 | 11,_=>exact bf
 | 12,_=>exact bc
 | 13,_=>exact ba
 | 14,_=>exact bZ
 | 15,_=>exact bY
 | k+16,h=>lia
theorem T':∀ (l:List (Nat×Nat)),l.length≤3→(∀ p∈l,p.1 < 4∧p.2 < 4)→V1 (base++l)=true
 | [],_,_=>c0
 | [p],_,h=>List.all_eq_true.mp c1 p (CF (h p (.head _)))
 | [p,q],_,h=>List.all_eq_true.mp (List.all_eq_true.mp c2 p (CF (h p (.head _)))) q (CF (h q (.tail _ (.head _))))
 | [p,q,r],_,h=>by
  have hp:=h p (.head _)
  have z:=Y9 (4*p.1+p.2) (by lia)
  unfold Ic at z
  rw [show (4*p.1+p.2) / 4=p.1 by lia,show (4*p.1+p.2) % 4=p.2 by lia] at z
  exact List.all_eq_true.mp (List.all_eq_true.mp z q (CF (h q (.tail _ (.head _))))) r (CF (h r (.tail _ (.tail _ (.head _)))))
end
section
open PySem PySem.W PySem.W.X PySem.Spec PySem.Calls PyProof.Rows
theorem LG{R:WRecords}:∀ (xs:List WData),WShape.hasItems R xs .int=true→∃ ns:List Int,xs=ofPys (ns.map PyData.int)
 | [],_=>⟨[],rfl⟩
 | x::xs,h=>by
  unfold WShape.hasItems at h
  obtain ⟨h1,h2⟩:=Bool.and_eq_true_iff.mp h
  obtain ⟨i,rfl⟩:=hasW_int h1
  obtain ⟨ns,rfl⟩:=LG xs h2
  exact ⟨i::ns,rfl⟩
theorem JA{R:WRecords}{cl:Str→Option Addr}{P:Params}{ord:List DictEntry→List DictEntry}:∀ (ns:List Int) (s:Shared) (r:List Value×Shared),layAllW R cl P ord (ofPys (ns.map PyData.int)) s=some r→r.1.map eV=ns.map (.int · 0)
 | [],s,r,e=>by
  have:layAllW R cl P ord (ofPys (List.map PyData.int [])) s=some ([],s):=by simp [ofPys,layAllW]
  rw [this] at e
  cases e; rfl
 | n::ns,s,r,e=>by
  simp only [List.map_cons,ofPys,ofPy,layAllW,layW] at e
  cases q:layAllW R cl P ord (ofPys (List.map PyData.int ns)) { s with toks:=s.toks+1 } with
  | none=>rw [q] at e; cases e
  | some r'=>
   rw [q] at e
   cases e
   have z:=JA ns { s with toks:=s.toks+1 } r' q
   show _::_=_::_
   rw [z]; rfl
theorem K9{R:WRecords}{cl:Str→Option Addr}{P:Params}{ord:List DictEntry→List DictEntry}{ns:List Int}{s s₁:Shared}{vs:List Value}(e:layAllW R cl P ord [ofPy (PyData.list (ns.map PyData.int))] s=some (vs,s₁)) :
  ∃ rh:List Value,vs=[.ref s.heap.objs.size]∧s₁.heap.get? s.heap.objs.size=some (A0 (.seq ⟨rh⟩ 0))∧rh.map eV=ns.map (.int · 0):=by
 simp only [ofPy,layAllW,layW] at e
 cases q:layAllW R cl P ord (ofPys (List.map PyData.int ns)) s with
 | none=>rw [q] at e; cases e
 | some r=>
  rw [q] at e
  have hh:=lay_ints ns s r q
  have hv:=JA ns s r q
  simp only [Option.some.injEq,Prod.mk.injEq] at e
  obtain ⟨e1,e2⟩:=e
  refine ⟨r.1,by rw [← e1,hh],?_,hv⟩
  rw [← e2,← hh]
  exact Heap.get?_push_size _ rfl
theorem Od(P:Params):nsLook (Str.ofString "law") (o3 P)=pure (some (.ref 945)):=by kernel_rfl
theorem d'(P:Params):(A4 P).get mainGlobals=some (o3 P):=by kernel_rfl
theorem VX(P:Params):(A4 P).get 902=some (a9 P):=by kernel_rfl
theorem nI{α β:Type}{A B:α→Prop}{C D E F G H:α→β→Prop}{R:Prop}(h:∃ a,A a∧B a∧∃ b,C a b∧D a b∧E a b∧F a b∧G a b∧H a b)(k:∀ a,A a→B a→∀ b,C a b→D a b→E a b→F a b→G a b→H a b→R):R:=
 let ⟨a,x,y,b,c,d,e,f,g,h⟩:=h; k a x y b c d e f g h
theorem nF{α β:Type}{A B:α→Prop}{C D E F G:α→β→Prop}{a:α}{b:β}(x:A a)(y:B a)(c:C a b)(d:D a b)(e:E a b)(f:F a b)(g:G a b):∃ a,A a∧B a∧∃ b,C a b∧D a b∧E a b∧F a b∧G a b:=⟨a,x,y,b,c,d,e,f,g⟩
theorem PF{r:OpenRow}{q:Program}{loose:List Str}{Xt:Shared→Bool}{α:Type}{Yf:Shared→α}{Ya:World→α}{d:DefRec}{sO:List (Str×Expr)}{N:Nat}
  (left:LeftO r.prog q loose Xt Yf Ya N) (s8:defOf q r.name=some (d,sO)) (hp:r.prog.theDef r.name=some (d.params,d.body,d.scope)) (hk:kwWritten? d.params.kwonlyargs d.params.kw_defaults=some sO) (hR:r.toRowW.records=[]) (sf:r.writes=false)
  (k1:r.wellSaid=true) (ok:(chainsOk q&&opensWell r.prog&&(frees r.toRowW&&r.within.isEmpty))=true) (hb:r.prog.bare) (hw:r.toRowW.promised) (e:r.prog=pw)
  (call:∀ (w:World) (s₀ s₁:Shared) (args:List WData) (vs:List Value) (as:List Addr),Yf s₀=Ya w→Laid r.toRowW.records w s₀ s₁ args vs as→r.toRowW.claim.pre args=true→
   ∃ v s' oI pos',Go pw w s₁ ⟨Ik r.name vs,.builtin "claim.caller" {},default,[]⟩ s' ⟨.pure (.done (.ret v)),oI,pos',[]⟩∧s'.heap.life=s₁.heap.life∧GoodWG r.toRowW.claim (classAt s₀.heap) (ExcName.means s₀.heap) args s₁ (.ok (.ret v)) s'):r.Holds:=by
 obtain ⟨ok,k5⟩:=Bool.and_eq_true_iff.mp ok
 obtain ⟨qw,o1⟩:=Bool.and_eq_true_iff.mp ok
 obtain ⟨k5,k6⟩:=Bool.and_eq_true_iff.mp k5
 obtain ⟨hsame,hu,ha,hap,hm⟩:=frees_parts k5
 refine ⟨k1,hw,⟨hb,o1,by show r.makers.map _=[]; rw [hm]; rfl⟩,hw.witness,fun w=>⟨(left.behind (XP:=fun z z=>True) (fun z z=>trivial) qw w).1,fun s' q7=>?_⟩⟩
 refine Classical.byContradiction fun hG=>?_
 refine nI ((left.behind (XP:=fun z z=>True) (fun z z=>trivial) qw w).2 s' q7) fun s₀ hf sq s hT hz pv hg G0 y=>?_
 have RF:RecFacts r.toRowW.records s.heap:=recFacts_nil hR
 refine hG (nF hf sq hT (fun n hn=>?_) RF.1 RF.2.1 ?_)
 ·obtain rfl:n=r.name:=by split at hn<;>simp_all
  exact pinned_of_view hg G0 s8 hp hk
 have pv:s.gens=#[]:=Array.eq_empty_of_size_eq_zero (beq_iff_eq.mp pv)
 have G:=RF.ground G0
 intro args p8 hlay ord hord
 refine Classical.byContradiction fun qe=>?_
 obtain ⟨⟨vs,s₁⟩,hlaid⟩:=Option.isSome_iff_exists.mp (layAllW_isSome (P:=w.2) (ord:=ord) G.has args r.args s (pre_splitW p8).1)
 have keeps:=layAllW_keeps _ _ _ hlaid
 have hal:=layAllW_rest _ _ _ hlaid
 obtain ⟨as,qU,pq,hold⟩:=reads_layAllW hord _ _ _ hlaid hlay s₁.heap (fun z z e=>e)
 have L:Laid r.toRowW.records w s s₁ args vs as:=⟨⟨ord,hord,hlaid⟩,qU,pq,hold,keeps,hal.1.trans pv,hal.2.2.1⟩
 obtain ⟨v,s',oI,pos',go,hlife,g⟩:=call w s s₁ args vs as y L p8
 have hi:=ident_freeW hu ha hap
 have hwi:r.toRowW.claim.within=[]:=List.isEmpty_iff.mp k6
 obtain ⟨z1,z2,z3⟩:=g.laid (c:=r.toRowW.claim) hsame hwi hi L
 obtain ⟨n,od,hsched,hrun,hfo⟩:=KI (Shared.asleep_of_life hal.2.2.2 hz) go (leftWithCleanup_false_of_bare z3)
 obtain ⟨eh,_,_,eo,_⟩:=Shared.forget_eq hfo
 have z1:=z1.congr eh
 have hlife':od.heap.life=s.heap.life:=by rw [eh,hlife]; exact hal.2.2.2
 refine qe ⟨vs,s₁,hlaid,n,Outcome.done (.ret v),od,?_,?_,(fun z i x hx=>by rw [pv] at hx; simp at hx),(fun q=>by rw [sf] at q; cases q),by rw [hlife'],Shared.rest_eq (eo.trans z2)⟩
 ·show schedN (denote table) r.prog w n _=_
  rw [e]; exact hsched
 ·rcases z1 with ⟨v',hv,d1,d2,d3,d4,d5⟩ | ⟨e',ob,cls,he,_⟩
  ·cases hv
   exact .inl ⟨v,rfl,d1,d2,d3,fun b o y z=>d4 b o y,d5⟩
  ·cases he
theorem KU{h:Heap}{p:Nat×Obj}{K:Frag}(y:AllIn h (p::K)):h.get? p.1=some p.2∧AllIn h K:=y
theorem T1{h:Heap}{t:KT}(hk:KT.Holds h 1 0 t):∀ a o,t.get a=some o→h.get? a=some o:=fun a o e=>kt_at hk e
theorem T2{s:Shared}{K:Frag}(z:AllIn s.heap K):JY (KT.of K) s:=T1 (holds_of z)
theorem VV{w:World}{s:Shared}(y:obsZ HB s=valZ Jh 946 1535 w):JY (A4 w.2) s∧s.heap.get? 898=some (CU #[])∧s.heap.objs.size=946:=by
 obtain ⟨y1,_,y3,_⟩:=z_facts (K:=Jh) (fun P=>N8 P) y
 obtain ⟨z1,z2⟩:=KU (p:=(898,aH w.2)) (K:=VW w.2) y1
 exact ⟨T2 z2,z1,y3⟩
theorem Ww{ns:List Int}(hc:(WTm.and (.not (.lt (.lit (.int 63)) (.len (.arg 0)))) (.lit (.bool true))).holds [] { args:=[ofPy (PyData.list (ns.map PyData.int))] } = true):ns.length≤63:=by
 w_cond hc
 all_goals simp_all
 all_goals lia
theorem RP{R:WRecords}{args:List WData}:(WTm.eq .res (.lit (.bool true))).value R { args:=args,res:=some (.bool true),after:=args } = some (.bool true):=by
 have e:PySem.W.same (WData.bool true) (WData.bool true)=true:=by decide +kernel
 simp [WTm.value,e]
theorem Oy{w:World}{s₀ s₁:Shared}{args:List WData}{vs:List Value}{as:List Addr}(y:obsZ HB s₀=valZ Jh 946 1535 w)(L:Laid [] w s₀ s₁ args vs as)(p8:PySem.Challenge.rw_om0190_01.row.toRowW.claim.pre args=true) :
  ∃ v s' oI pos',Go pw w s₁ ⟨Ik (Str.ofString "law") vs,.builtin "claim.caller" {},default,[]⟩ s' ⟨.pure (.done (.ret v)),oI,pos',[]⟩∧s'.heap.life=s₁.heap.life∧GoodWG PySem.Challenge.rw_om0190_01.row.toRowW.claim (classAt s₀.heap) (ExcName.means s₀.heap) args s₁ (.ok (.ret v)) s':=by
 obtain ⟨oq,hcond⟩:=pre_splitW p8
 obtain ⟨d,r,rfl,h1,h2⟩:=hasAllW_cons oq
 obtain rfl:=hasAllW_nil h2
 obtain ⟨xs,rfl,h3⟩:=hasW_list h1
 obtain ⟨ns,rfl⟩:=LG xs h3
 have hlen:=Ww (ns:=ns) hcond
 obtain ⟨ord,_,hlaid⟩:=L.laid
 obtain ⟨rh,rfl,hobj,hits⟩:=K9 hlaid
 obtain ⟨hk0,pG,y3⟩:=VV y
 have hk:JY (A4 w.2) s₁:=fun a o e=>L.keeps _ _ (hk0 a o e)
 have pG:s₁.heap.get? 898=some (CU #[]):=L.keeps _ _ pG
 rw [y3] at hobj ⊢
 obtain ⟨k,g,l,hkk,go1⟩:∃ (k:Result→Sem Fin) (g:Bool) (l:List Value),(∀ v,k (.ok (.ret v))=.pure (.done (.ret v)))∧Go pw w s₁ ⟨Ik (Str.ofString "law") [.ref 946],.builtin "claim.caller" {},default,[]⟩ s₁ ⟨denote table (JB 946),JB 946,default,[.ret k none g l (.builtin "claim.caller" {}) default []]⟩:=
  PJ (hk _ _ (d' w.2)) (Od w.2) [.ref 946] default
 obtain ⟨s',oI,pos',go2,pZ,h1',⟨ws,h898'⟩,hold,hgen,hlife⟩:=Sz (w:=w) (b:=w.2.followText "special-get-raises") (b2:=w.2.followText "comprehension-iter-twice") (nj:=[.ret k none g l (.builtin "claim.caller" {}) default []]) hobj pG hk L.gens (Nat.le_refl 946) default rfl (o7:=ns) (es:=0) (by
   rw [List.map_append]
   exact T' _ (by rw [List.length_map,List.length_take]; lia) fun p m=>by
    obtain ⟨x,_,rfl⟩:=List.mem_map.mp m
    exact Gl x) (by show Data.seq ⟨rh.map eV⟩ 0=_; rw [hits]) (by lia)
 rw [Ys] at go2
 refine ⟨.bool true,s',.builtin "claim.caller" {},default,?_,hlife,?_⟩
 ·refine go1.trans (go2.trans ?_)
  have z:=Cq (p:=pw) (w:=w) (s:=s') (f:=.ret (.bool true)) (cd:=.builtin "claim.caller" {}) (oI:=oI) (pos:=pos') (pc:=default) (k:=k) (hd:=none) (g:=g) (l:=l) (kp:=[]) (rest:=[])
  rw [hkk] at z
  exact z
 ·have tb:isCodeTable s₁.heap 898:=⟨902,_,_,hk _ _ (VX w.2),rfl,rfl,rfl⟩
  refine ⟨.inl ⟨_,.bool true,[],rfl,fun u=>rfl,.bool _,postW_of (r:=PySem.Challenge.rw_om0190_01.row.toRowW) (by rfl) RP rfl,fun u=>⟨List.nodup_nil,fun u m=>nomatch m⟩⟩,⟨fun b o e=>?_,fun b o e=>?_⟩,pZ,fun y m=>?_⟩
  ·by_cases q:b=946
   ·subst q
    exact .inl (h1'.trans (hobj.symm.trans e))
   ·by_cases q2:b=898
    ·subst q2
     obtain rfl:=Option.some.inj (pG.symm.trans e)
     refine .inr (.inl ⟨tb,rfl,#[],ws,rfl,?_⟩)
     rw [h898',Array.empty_append]; rfl
    ·exact .inl (hold b o e q q2)
  ·by_cases q:b=946
   ·subst q
    exact ⟨_,h1'⟩
   ·by_cases q2:b=898
    ·subst q2
     exact ⟨_,h898'⟩
    ·exact ⟨o,hold b o e q q2⟩
  ·have:=List.all_eq_true.mp hgen y (by simpa using m)
   exact this
theorem pz:PySem.Challenge.rw_om0190_01.row.Holds:=
 PF (q:=qv) (loose:=IL) (Xt:=fun z=>true) (Yf:=obsZ HB) (Ya:=valZ Jh 946 1535) (N:=13222) ai (by rfl) (by rfl) (by rfl) rfl rfl (row_said qj) (by decide +kernel) ⟨rfl,rfl,rfl,rfl,rfl,by decide +kernel⟩ ⟨[.list []],by decide +kernel,by decide +kernel⟩ rfl
  fun w s₀ s₁ args vs as y L p8=>Oy y L p8
end
end Mine
theorem PySem.Challenge.cw_om0190_01_holds : PySem.Challenge.rw_om0190_01.Holds :=
  ⟨Mine.qj, Mine.pz⟩
